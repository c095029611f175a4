import JvmDerived
import JvmDerived.Pilot.@@N@@Statement
import JvmDerived.Pilot.@@N@@Code
set_option linter.unusedVariables false
set_option linter.unusedSimpArgs false
@@BLOCK:NumsL.lean.txt@@
namespace Jvm.Pilot.@@N@@
open Jvm Jvm.ClassFile Sem Op Lib Jvm.Free Jvm.Stand Jvm.LawKit Jvm.RoadKit Bundle Jvm.Pilot.@@N@@.Jvm.D
section Own
variable {p : Program} {l : Launch} {e : Env} {R : Room} {s : State} {m : MethodId} {args : Array Value} {below : List Frame} {meth : Method} {c : Code} {T : State} {locs : List Loc} {cells slots : Nat}
theorem own_ireturn (X : Stand p l e R s m args below meth c T locs cells slots) (hx : p.tables.exec = Jvm.exec) {pc : Nat} {Ls : Array Slot} {z : Int32} {rest : List Value} (hret : meth.sig.returnType = some .int) (hd : decode c.code pc = .ok (.ireturn, 1)) {fs : List Frame}
    (hl : ∀ (f : JFrame) (acts : List Action), f.method = m → f.locked = none → f.entered = [] → (doReturn e (T.setTop f) acts (some (.int z))).1 = T.setFrames fs) : Steps p.tables e below (T.setTop (mkF m pc Ls (.int z :: rest))) (T.setFrames fs) := by
  have hm' : T.vm.method? m = some meth := X.method'
  have hn : narrow .int (.int z) = .int z := rfl
  show Steps p.tables e below (T.setTop { method := m, pc := pc, locals := Ls, stack := _ :: rest, locked := none }) _
  jvm_step X.here [X.here.top, hx, hd, hm', hret, hn]
  first | (intro acts; rw [hl _ acts rfl rfl rfl]) | rw [hl _ _ rfl rfl rfl]
  exact Steps.refl _
theorem own_more (X : Stand p l e R s m args below meth c T locs cells slots) {k n : Nat} (h1 : cells ≤ k) (h2 : slots ≤ n) : Stand p l e R s m args below meth c T locs k n := { X with same := X.same.mono h1 h2 }
theorem own_retV (X : Stand p l e R s m args below meth c T locs cells slots) (hx : p.tables.exec = Jvm.exec) (hlk : meth.locks = false) (hret : meth.sig.returnType = none) {pc : Nat} {Ls : Array Slot} (hd : decode c.code pc = .ok (.return_, 1)) {base : State}
    (pre : ∀ t, Steps p.tables e below (T.setTop (mkF m pc Ls [])) t → Steps p.tables e below base t) {Q : Option Value → Heap → List Loc → Prop} (hQ : Q none T.heap locs) {k n : Nat} (h1 : cells ≤ k) (h2 : slots ≤ n) :
    ∃ s₂ o, Steps p.tables e below base s₂ ∧ s₂.status = .running ∧ Ended s₂ below o ∧ ∃ v L, o = .returned v ∧ Q v s₂.heap L ∧ FrameEnd s o s₂ L k n := by
  obtain ⟨fs, hr, hrun, hended, hW, hsame⟩ := X.leave (v := none) (fun _ => rfl)
  exact ⟨_, _, pre _ (X.returnOut hx hret hd hr), hrun, hended, _, _, rfl, hQ, ⟨_, rfl⟩, hW, hsame.mono h1 h2⟩
theorem own_retI (X : Stand p l e R s m args below meth c T locs cells slots) (hx : p.tables.exec = Jvm.exec) (hlk : meth.locks = false) (hret : meth.sig.returnType = some .int) {pc : Nat} {Ls : Array Slot} {z : Int32} {rest : List Value} (hd : decode c.code pc = .ok (.ireturn, 1)) {base : State}
    (pre : ∀ t, Steps p.tables e below (T.setTop (mkF m pc Ls (.int z :: rest))) t → Steps p.tables e below base t) {Q : Option Value → Heap → List Loc → Prop} (hQ : Q (some (.int z)) T.heap locs) {k n : Nat} (h1 : cells ≤ k) (h2 : slots ≤ n) :
    ∃ s₂ o, Steps p.tables e below base s₂ ∧ s₂.status = .running ∧ Ended s₂ below o ∧ ∃ v L, o = .returned v ∧ Q v s₂.heap L ∧ FrameEnd s o s₂ L k n := by
  obtain ⟨fs, hr, hrun, hended, hW, hsame⟩ := X.leave (v := some (.int z)) (fun h => by rw [hret] at h; cases h)
  exact ⟨_, _, pre _ (own_ireturn X hx hret hd hr), hrun, hended, _, _, rfl, hQ, ⟨_, rfl⟩, hW, hsame.mono h1 h2⟩
theorem own_retN (X : Stand p l e R s m args below meth c T locs cells slots) (hx : p.tables.exec = Jvm.exec) (hlk : meth.locks = false) {t : FieldType} (hret : meth.sig.returnType = some t) (ht : t = .boolean ∨ t = .byte ∨ t = .char ∨ t = .short) {pc : Nat} {Ls : Array Slot} {z : Int32} {rest : List Value} (hd : decode c.code pc = .ok (.ireturn, 1)) {base : State}
    (pre : ∀ t, Steps p.tables e below (T.setTop (mkF m pc Ls (.int z :: rest))) t → Steps p.tables e below base t) {Q : Option Value → Heap → List Loc → Prop} (hQ : Q (some (.int (nar t z))) T.heap locs) {k n : Nat} (h1 : cells ≤ k) (h2 : slots ≤ n) :
    ∃ s₂ o, Steps p.tables e below base s₂ ∧ s₂.status = .running ∧ Ended s₂ below o ∧ ∃ v L, o = .returned v ∧ Q v s₂.heap L ∧ FrameEnd s o s₂ L k n := by
  obtain ⟨fs, hr, hrun, hended, hW, hsame⟩ := X.leave (v := some (.int (nar t z))) (fun h => by rw [hret] at h; cases h)
  exact ⟨_, _, pre _ (retN X hx hret ht hd hr), hrun, hended, _, _, rfl, hQ, ⟨_, rfl⟩, hW, hsame.mono h1 h2⟩
theorem own_retJ (X : Stand p l e R s m args below meth c T locs cells slots) (hx : p.tables.exec = Jvm.exec) (hlk : meth.locks = false) (hret : meth.sig.returnType = some .long) {pc : Nat} {Ls : Array Slot} {z : Int64} (hd : decode c.code pc = .ok (.lreturn, 1)) {base : State}
    (pre : ∀ t, Steps p.tables e below (T.setTop (mkF m pc Ls [.long z])) t → Steps p.tables e below base t) {Q : Option Value → Heap → List Loc → Prop} (hQ : Q (some (.long z)) T.heap locs) {k n : Nat} (h1 : cells ≤ k) (h2 : slots ≤ n) :
    ∃ s₂ o, Steps p.tables e below base s₂ ∧ s₂.status = .running ∧ Ended s₂ below o ∧ ∃ v L, o = .returned v ∧ Q v s₂.heap L ∧ FrameEnd s o s₂ L k n := by
  obtain ⟨fs, hr, hrun, hended, hW, hsame⟩ := X.leave (v := some (.long z)) (fun h => by rw [hret] at h; cases h)
  exact ⟨_, _, pre _ (X.lreturnOut hx hret hd hr), hrun, hended, _, _, rfl, hQ, ⟨_, rfl⟩, hW, hsame.mono h1 h2⟩
theorem own_retA (X : Stand p l e R s m args below meth c T locs cells slots) (hx : p.tables.exec = Jvm.exec) (hlk : meth.locks = false) {w : Value} {t : FieldType} (hw : w.isRef = true) (hret : meth.sig.returnType = some t) (ht : t.isReference = true) {pc : Nat} {Ls : Array Slot} (hd : decode c.code pc = .ok (.areturn, 1)) {base : State}
    (pre : ∀ t, Steps p.tables e below (T.setTop (mkF m pc Ls [w])) t → Steps p.tables e below base t) {Q : Option Value → Heap → List Loc → Prop} (hQ : Q (some w) T.heap locs) {k n : Nat} (h1 : cells ≤ k) (h2 : slots ≤ n) :
    ∃ s₂ o, Steps p.tables e below base s₂ ∧ s₂.status = .running ∧ Ended s₂ below o ∧ ∃ v L, o = .returned v ∧ Q v s₂.heap L ∧ FrameEnd s o s₂ L k n := by
  obtain ⟨fs, hr, hrun, hended, hW, hsame⟩ := X.leave (v := some w) (fun h => by rw [hret] at h; cases h)
  exact ⟨_, _, pre _ (X.areturnOut hx hw hret ht hd hr), hrun, hended, _, _, rfl, hQ, ⟨_, rfl⟩, hW, hsame.mono h1 h2⟩
end Own
theorem own_w {a0 : Array Value} {Z : State} (hw : ∀ d ∈ tables_1, d.before a0 Z = true) (i : Nat) {d : Jvm.Cond} (h : tables_1[i]? = some d) : d.before a0 Z = true := hw d (List.mem_of_getElem? h)
theorem own_bool {z : Int32} (h : z = 0 ∨ z = 1) : nar .boolean z = z := by rcases h with rfl | rfl <;> rfl

def PT (Z : State) (h : Heap) (n0 : Nat) (a : Addr) (f e cap : Int32) (xs ys : List Value) (b : Int32) : Prop := ∃ (am ac : Addr) (km kc : ClassId), Exa Z h a "com/example/viral_counter/viralcounter/PostTrend" ∧ Fld Z h a "com/example/viral_counter/viralcounter/PostTrend" "minutes" "[J" (.ref am) ∧ Fld Z h a "com/example/viral_counter/viralcounter/PostTrend" "counts" "[I" (.ref ac) ∧ Fld Z h a "com/example/viral_counter/viralcounter/PostTrend" "first" "I" (.int f) ∧ Fld Z h a "com/example/viral_counter/viralcounter/PostTrend" "end" "I" (.int e) ∧ Fld Z h a "com/example/viral_counter/viralcounter/PostTrend" "before" "I" (.int b) ∧ Arv Z h am km .long cap xs (.long (0 : Int64)) ∧ Arv Z h ac kc .int cap ys (.int (0 : Int32)) ∧ n0 ≤ a ∧ n0 ≤ am ∧ n0 ≤ ac ∧ a ≠ am ∧ a ≠ ac ∧ am ≠ ac
theorem own_pt_exa {Z : State} {h : Heap} {n0 : Nat} {a : Addr} {f e cap : Int32} {xs ys : List Value} {b : Int32} (P : PT Z h n0 a f e cap xs ys b) : Exa Z h a "com/example/viral_counter/viralcounter/PostTrend" := by obtain ⟨_, _, _, _, E, _⟩ := P; exact E
abbrev own_y_0 : MethodName := (⟨"com/example/viral_counter/viralcounter/PostTrend", "<init>", "()V"⟩ : MethodName)
theorem ef_1 (m : MethodId) (x0 : Addr) : entryFrame m #[(.ref x0)] 1 = mkF m 0 #[.val (.ref x0)] [] := by first | (simp [entryFrame, mkF, argsToLocals, Value.category]; done) | rfl
theorem pn_2 : plainName "com/example/viral_counter/viralcounter/PostTrend" = true := by first | (simp [plainName, overriddenIn]; done) | decide +kernel
theorem d1_0 : decode prog_25_method_1_code 0 = .ok (.aload_n 0, 1) := by decide +kernel
theorem d1_1 : decode prog_25_method_1_code 1 = .ok (.invokespecial 1, 3) := by decide +kernel
theorem d1_4 : decode prog_25_method_1_code 4 = .ok (.aload_n 0, 1) := by decide +kernel
theorem d1_5 : decode prog_25_method_1_code 5 = .ok (.iconst 2, 1) := by decide +kernel
theorem d1_6 : decode prog_25_method_1_code 6 = .ok (.newarray .long, 2) := by decide +kernel
theorem d1_8 : decode prog_25_method_1_code 8 = .ok (.putfield 9, 3) := by decide +kernel
theorem own_sn_9 {Z : State} {a0 : Array Value} (hw : ∀ d ∈ tables_1, d.before a0 Z = true) : Jvm.RoadKit.slotOf Z "com/example/viral_counter/viralcounter/PostTrend" "counts" "[I" ≠ Jvm.RoadKit.slotOf Z "com/example/viral_counter/viralcounter/PostTrend" "minutes" "[J" := slot_ne (C := "com/example/viral_counter/viralcounter/PostTrend") (Or.inl (own_w hw 17 rfl)) (Or.inl (own_w hw 14 rfl)) (by decide) (t := (.array .int)) (t' := (.array .long)) (by decide) (by decide)
theorem own_sn_10 {Z : State} {a0 : Array Value} (hw : ∀ d ∈ tables_1, d.before a0 Z = true) : Jvm.RoadKit.slotOf Z "com/example/viral_counter/viralcounter/PostTrend" "first" "I" ≠ Jvm.RoadKit.slotOf Z "com/example/viral_counter/viralcounter/PostTrend" "minutes" "[J" := slot_ne (C := "com/example/viral_counter/viralcounter/PostTrend") (Or.inl (own_w hw 24 rfl)) (Or.inl (own_w hw 14 rfl)) (by decide) (t := .int) (t' := (.array .long)) (by decide) (by decide)
theorem own_sn_11 {Z : State} {a0 : Array Value} (hw : ∀ d ∈ tables_1, d.before a0 Z = true) : Jvm.RoadKit.slotOf Z "com/example/viral_counter/viralcounter/PostTrend" "end" "I" ≠ Jvm.RoadKit.slotOf Z "com/example/viral_counter/viralcounter/PostTrend" "minutes" "[J" := slot_ne (C := "com/example/viral_counter/viralcounter/PostTrend") (Or.inl (own_w hw 26 rfl)) (Or.inl (own_w hw 14 rfl)) (by decide) (t := .int) (t' := (.array .long)) (by decide) (by decide)
theorem own_sn_12 {Z : State} {a0 : Array Value} (hw : ∀ d ∈ tables_1, d.before a0 Z = true) : Jvm.RoadKit.slotOf Z "com/example/viral_counter/viralcounter/PostTrend" "before" "I" ≠ Jvm.RoadKit.slotOf Z "com/example/viral_counter/viralcounter/PostTrend" "minutes" "[J" := slot_ne (C := "com/example/viral_counter/viralcounter/PostTrend") (Or.inl (own_w hw 28 rfl)) (Or.inl (own_w hw 14 rfl)) (by decide) (t := .int) (t' := (.array .long)) (by decide) (by decide)
theorem d1_11 : decode prog_25_method_1_code 11 = .ok (.aload_n 0, 1) := by decide +kernel
theorem d1_12 : decode prog_25_method_1_code 12 = .ok (.iconst 2, 1) := by decide +kernel
theorem d1_13 : decode prog_25_method_1_code 13 = .ok (.newarray .int, 2) := by decide +kernel
theorem d1_15 : decode prog_25_method_1_code 15 = .ok (.putfield 13, 3) := by decide +kernel
theorem own_sn_17 {Z : State} {a0 : Array Value} (hw : ∀ d ∈ tables_1, d.before a0 Z = true) : Jvm.RoadKit.slotOf Z "com/example/viral_counter/viralcounter/PostTrend" "first" "I" ≠ Jvm.RoadKit.slotOf Z "com/example/viral_counter/viralcounter/PostTrend" "counts" "[I" := slot_ne (C := "com/example/viral_counter/viralcounter/PostTrend") (Or.inl (own_w hw 24 rfl)) (Or.inl (own_w hw 17 rfl)) (by decide) (t := .int) (t' := (.array .int)) (by decide) (by decide)
theorem own_sn_18 {Z : State} {a0 : Array Value} (hw : ∀ d ∈ tables_1, d.before a0 Z = true) : Jvm.RoadKit.slotOf Z "com/example/viral_counter/viralcounter/PostTrend" "end" "I" ≠ Jvm.RoadKit.slotOf Z "com/example/viral_counter/viralcounter/PostTrend" "counts" "[I" := slot_ne (C := "com/example/viral_counter/viralcounter/PostTrend") (Or.inl (own_w hw 26 rfl)) (Or.inl (own_w hw 17 rfl)) (by decide) (t := .int) (t' := (.array .int)) (by decide) (by decide)
theorem own_sn_19 {Z : State} {a0 : Array Value} (hw : ∀ d ∈ tables_1, d.before a0 Z = true) : Jvm.RoadKit.slotOf Z "com/example/viral_counter/viralcounter/PostTrend" "before" "I" ≠ Jvm.RoadKit.slotOf Z "com/example/viral_counter/viralcounter/PostTrend" "counts" "[I" := slot_ne (C := "com/example/viral_counter/viralcounter/PostTrend") (Or.inl (own_w hw 28 rfl)) (Or.inl (own_w hw 17 rfl)) (by decide) (t := .int) (t' := (.array .int)) (by decide) (by decide)
theorem own_sn_20 {Z : State} {a0 : Array Value} (hw : ∀ d ∈ tables_1, d.before a0 Z = true) : Jvm.RoadKit.slotOf Z "com/example/viral_counter/viralcounter/PostTrend" "minutes" "[J" ≠ Jvm.RoadKit.slotOf Z "com/example/viral_counter/viralcounter/PostTrend" "counts" "[I" := slot_ne (C := "com/example/viral_counter/viralcounter/PostTrend") (Or.inl (own_w hw 14 rfl)) (Or.inl (own_w hw 17 rfl)) (by decide) (t := (.array .long)) (t' := (.array .int)) (by decide) (by decide)
theorem d1_18 : decode prog_25_method_1_code 18 = .ok (.return_, 1) := by decide +kernel
def QNew (Z : State) (a1 : Addr) (h0 : Heap) (n0 : Nat) (v : Option Value) (h : Heap) (L : List Loc) : Prop := v = none ∧ Fr n0 L ∧ h0.size ≤ h.size ∧ PT Z h n0 a1 (0 : Int32) (0 : Int32) (2 : Int32) [(.long (0 : Int64)), (.long (0 : Int64))] [(.int (0 : Int32)), (.int (0 : Int32))] (0 : Int32)
set_option maxRecDepth 65536 in
set_option maxHeartbeats 40000000 in
theorem rmNew (l : Launch) (Z : State) (a0 : Array Value) (hw : ∀ d ∈ tables_1, d.before a0 Z = true) (ws : List Jvm.Cond) (a1 : Addr) (h0 : Heap) (n0 : Nat) (Z0 : n0 ≤ h0.size) (E1 : Exa Z h0 a1 "com/example/viral_counter/viralcounter/PostTrend") (F0 : Fld Z h0 a1 "com/example/viral_counter/viralcounter/PostTrend" "minutes" "[J" .null) (F1 : Fld Z h0 a1 "com/example/viral_counter/viralcounter/PostTrend" "counts" "[I" .null) (F2 : Fld Z h0 a1 "com/example/viral_counter/viralcounter/PostTrend" "first" "I" (.int (0 : Int32))) (F3 : Fld Z h0 a1 "com/example/viral_counter/viralcounter/PostTrend" "end" "I" (.int (0 : Int32))) (F4 : Fld Z h0 a1 "com/example/viral_counter/viralcounter/PostTrend" "before" "I" (.int (0 : Int32))) (G1 : n0 ≤ a1) :
    MetFree l own_y_0 (head1 (Jvm.Cond.code own_y_0 prog_25_method_1_code 1 none :: ws) ({ frames := 1, cells := 2, slots := 4, locals := 12 } : Room)) (fun a U => a = #[(.ref a1)] ∧ Z.Warmed39 U.vm ∧ U.heap = h0) (fun _ _ _ _ _ => True) (fun _ U o U' => ∃ v L, o = .returned v ∧ QNew Z a1 h0 n0 v U'.heap L ∧ FrameEnd U o U' L ({ frames := 1, cells := 2, slots := 4, locals := 12 } : Room).cells ({ frames := 1, cells := 2, slots := 4, locals := 12 } : Room).slots) := by
  refine MetFree.of_bodySF (plainFor_of_name pn_2) hisR ?_
  intro p e s m args below meth c s₁ Bd hml0 hP hK
  obtain ⟨rfl, hZ, hh⟩ := hP
  have hx := Bd.exec
  have hby := Bd.bytes
  have hml : c.maxLocals = 1 := hml0
  have hown : s.vm.findClass "com/example/viral_counter/viralcounter/PostTrend" = some m.cls := findClass_of_methodNamed Bd.named
  have hnm := (name_of_methodNamed Bd.named Bd.method).1
  have X0 : Stand p l e ({ frames := 1, cells := 2, slots := 4, locals := 12 } : Room) s m #[(.ref a1)] below meth c s₁ [] 0 0 := Stand.of_body Bd
  have e0 : s₁.heap = h0 := by rw [← hh, Bd.state]; rfl
  have N0 := Fr.nil n0
  have pre0 : ∀ t, Steps p.tables e below (s₁.setTop (mkF m 0 #[.val (.ref a1)] [])) t → Steps p.tables e below (s₁.setTop (entryFrame m #[(.ref a1)] 1)) t := fun t k => castTop (ef_1 m a1) k
  obtain ⟨T1, X1, e1, st1⟩ := initO X0 hx hZ hown (own_w hw 9 rfl) (own_w hw 10 rfl) (own_w hw 11 rfl) e0 (g := (mkF m 1 #[.val (.ref a1)] [(.ref a1)])) rfl (by rw [hml]; rfl) rfl (hb hby d1_1) (by decide) (W := 0) (by show 2 * 0 + _ ≤ _; exact Nat.le_of_eq rfl) (by decide)
  obtain ⟨T2, h2, k2, X2, e2, E2, A2, st2⟩ := newP X1 hx hZ (own_w hw 12 rfl) e1 (g := (mkF m 6 #[.val (.ref a1)] [(.int (2 : Int32)), (.ref a1)])) rfl (hb hby d1_6) rfl (by decide) (cap := 2) (by decide) (by decide) (by decide) (by decide)
  obtain ⟨b2, g2⟩ : ∃ z, z = h0.size := ⟨_, rfl⟩
  rw [← g2] at A2 st2
  have G2 : n0 ≤ b2 := Nat.le_trans Z0 (Nat.le_of_eq g2.symm)
  have ne3 : a1 ≠ b2 := Nat.ne_of_lt (Nat.lt_of_lt_of_le E1.lt (Nat.le_of_eq g2.symm))
  have c4 := E1.ext E2
  have c5 := F0.ext E2
  have c6 := F1.ext E2
  have c7 := F2.ext E2
  have c8 := F3.ext E2
  have c9 := F4.ext E2
  have z10 : n0 ≤ h2.size := Nat.le_trans Z0 E2.1
  have V2 : Arv Z h2 b2 k2 .long (2 : Int32) [(.long (0 : Int64)), (.long (0 : Int64))] (.long (0 : Int64)) := (Arv.new A2 (by decide)).pad (pad_rep [] (.long (0 : Int64)) 2)
  obtain ⟨T11, h11, X11, e11, W11, st11⟩ := putF X2 hx hZ hown (host := "") (Or.inl (own_w hw 13 rfl)) Via.refl e2 c5 c4 (Or.inl (own_w hw 14 rfl)) (own_w hw 4 rfl) (ty := (.array .long)) (by decide) rfl rfl (g := (mkF m 8 #[.val (.ref a1)] [(.ref b2), (.ref a1)])) rfl rfl (hb hby d1_8)
  have Fw11 := c5.same W11
  have N11 := Fr.snoc X11 N0 G1
  have z12 : n0 ≤ h11.size := Nat.le_trans z10 (Keep.of_wr W11).1
  have c13 := c4.wr W11
  have c15 := c6.other W11 (Or.inr (own_sn_9 hw))
  have c16 := c7.other W11 (Or.inr (own_sn_10 hw))
  have c17 := c8.other W11 (Or.inr (own_sn_11 hw))
  have c18 := c9.other W11 (Or.inr (own_sn_12 hw))
  have c19 := V2.other W11 (Ne.symm ne3)
  obtain ⟨T20, h20, k20, X20, e20, E20, A20, st20⟩ := newP X11 hx hZ (own_w hw 15 rfl) e11 (g := (mkF m 13 #[.val (.ref a1)] [(.int (2 : Int32)), (.ref a1)])) rfl (hb hby d1_13) rfl (by decide) (cap := 2) (by decide) (by decide) (by decide) (by decide)
  obtain ⟨b20, g20⟩ : ∃ z, z = h11.size := ⟨_, rfl⟩
  rw [← g20] at A20 st20
  have G20 : n0 ≤ b20 := Nat.le_trans z12 (Nat.le_of_eq g20.symm)
  have ne21 : a1 ≠ b20 := Nat.ne_of_lt (Nat.lt_of_lt_of_le c13.lt (Nat.le_of_eq g20.symm))
  have ne22 : b2 ≠ b20 := Nat.ne_of_lt (Nat.lt_of_lt_of_le c19.lt (Nat.le_of_eq g20.symm))
  have c23 := c13.ext E20
  have c24 := c15.ext E20
  have c25 := c16.ext E20
  have c26 := c17.ext E20
  have c27 := c18.ext E20
  have c28 := c19.ext E20
  have c29 := Fw11.ext E20
  have z30 : n0 ≤ h20.size := Nat.le_trans z12 E20.1
  have V20 : Arv Z h20 b20 k20 .int (2 : Int32) [(.int (0 : Int32)), (.int (0 : Int32))] (.int (0 : Int32)) := (Arv.new A20 (by decide)).pad (pad_rep [] (.int (0 : Int32)) 2)
  obtain ⟨T31, h31, X31, e31, W31, st31⟩ := putF X20 hx hZ hown (host := "") (Or.inl (own_w hw 16 rfl)) Via.refl e20 c24 c23 (Or.inl (own_w hw 17 rfl)) (own_w hw 4 rfl) (ty := (.array .int)) (by decide) rfl rfl (g := (mkF m 15 #[.val (.ref a1)] [(.ref b20), (.ref a1)])) rfl rfl (hb hby d1_15)
  have Fw31 := c24.same W31
  have N31 := Fr.snoc X31 N11 G1
  have z32 : n0 ≤ h31.size := Nat.le_trans z30 (Keep.of_wr W31).1
  have c33 := c23.wr W31
  have c35 := c25.other W31 (Or.inr (own_sn_17 hw))
  have c36 := c26.other W31 (Or.inr (own_sn_18 hw))
  have c37 := c27.other W31 (Or.inr (own_sn_19 hw))
  have c38 := c28.other W31 (Ne.symm ne3)
  have c39 := c29.other W31 (Or.inr (own_sn_20 hw))
  have c40 := V20.other W31 (Ne.symm ne21)
  have pre41 : ∀ t, Steps p.tables e below (T31.setTop (mkF m 18 #[.val (.ref a1)] [])) t → Steps p.tables e below (s₁.setTop (entryFrame m #[(.ref a1)] 1)) t := fun t kt => pre0 t (by
    show Steps p.tables e below (s₁.setTop (mkF m 0 #[.val (.ref a1)] [])) _
    refine XS.aloadN X0.here hx rfl (hb hby d1_0) rfl rfl ?_
    refine st1 _ ?_
    refine XS.aloadN X1.here hx rfl (hb hby d1_4) rfl rfl ?_
    refine XS.iconst X1.here hx rfl (hb hby d1_5) ?_
    refine st2 _ ?_
    refine st11 _ ?_
    refine XS.aloadN X11.here hx rfl (hb hby d1_11) rfl rfl ?_
    refine XS.iconst X11.here hx rfl (hb hby d1_12) ?_
    refine st20 _ ?_
    refine st31 _ ?_
    exact kt)
  have hz : h0.size ≤ h31.size := Nat.le_trans (Nat.le_trans (Nat.le_trans (Nat.le_trans (Nat.le_refl _) E2.1) (Keep.of_wr W11).1) E20.1) (Keep.of_wr W31).1
  have hQ : QNew Z a1 h0 n0 none h31 _ := ⟨rfl, N31, hz, ⟨b2, b20, k2, k20, c33, c39, Fw31, c35, c36, c37, c38, c40, G1, G2, G20, ne3, ne21, ne22⟩⟩
  exact own_retV X31 hx Bd.notSynchronized Bd.returns (hb hby d1_18) pre41 (show QNew Z a1 h0 n0 _ _ _ from (by rw [e31]; exact hQ)) (by decide) (by decide)
theorem own_and3 (x : Int32) : (x &&& (3 : Int32)) = (0 : Int32) ∨ (x &&& (3 : Int32)) = (1 : Int32) ∨ (x &&& (3 : Int32)) = (2 : Int32) ∨ (x &&& (3 : Int32)) = (3 : Int32) := by
  have e1 : (x &&& (3 : Int32)).toInt = x.toInt % 2 ^ 2 := Jvm.Kit.i32_mask x _ (k := 2) (by decide) (by decide)
  have e3 : (x &&& (3 : Int32)).toInt = 0 ∨ (x &&& (3 : Int32)).toInt = 1 ∨ (x &&& (3 : Int32)).toInt = 2 ∨ (x &&& (3 : Int32)).toInt = 3 := by omega
  rcases e3 with h | h | h | h <;> simp only [← Int32.toInt_inj, h] <;> decide
theorem own_min (x : Int64) : ¬ x < (-9223372036854775808 : Int64) := by
  rw [Int64.lt_iff_toInt_lt]
  have e : (-9223372036854775808 : Int64).toInt = -9223372036854775808 := by decide
  have := Int64.le_toInt x
  omega
theorem own_step (m m' : Int64) (x : Int32) (k : Int) (hk : 3 < k) (hk' : k < 100) (hm : m.toInt < 2 ^ 63 - k) (h : m' = ((m + (1 : Int64)) + ((x &&& (3 : Int32)).toInt64))) : m < m' ∧ m'.toInt < 2 ^ 63 - k + 4 := by
  have e1 : (x &&& (3 : Int32)).toInt = x.toInt % 2 ^ 2 := Jvm.Kit.i32_mask x _ (k := 2) (by decide) (by decide)
  have e2 : (x &&& (3 : Int32)).toInt64.toInt = (x &&& (3 : Int32)).toInt := Jvm.Kit.i64_of_i32 _
  have e0 : (1 : Int64).toInt = 1 := by decide
  have hl := Int64.le_toInt m
  have e3 : (m + (1 : Int64)).toInt = m.toInt + 1 := by rw [Jvm.Kit.i64_add (by omega) (by omega), e0]
  have e4 : m'.toInt = m.toInt + 1 + (x &&& (3 : Int32)).toInt := by rw [h, Jvm.Kit.i64_add (by omega) (by omega), e3, e2]
  rw [Int64.lt_iff_toInt_lt]
  omega
theorem own_m1 (q1 m1 : Int64) (h : m1 = (if (9223372036854775787 : Int64) < q1 then (q1 - (20 : Int64)) else q1)) : m1.toInt < 2 ^ 63 - 20 := by
  have e0 : (9223372036854775787 : Int64).toInt = 9223372036854775787 := by decide
  have e1 : (20 : Int64).toInt = 20 := by decide
  have hu := Int64.toInt_lt q1
  rw [h]
  split
  · rename_i c
    rw [Int64.lt_iff_toInt_lt] at c
    rw [Jvm.Kit.i64_sub (by omega) (by omega)]
    omega
  · rename_i c
    rw [Int64.lt_iff_toInt_lt] at c
    omega
theorem ef_22 (m : MethodId) (x0 : Int64) (x1 : Int64) (x2 : Int32) (x3 : Int32) (x4 : Int32) (x5 : Int32) : entryFrame m #[(.long x0), (.long x1), (.int x2), (.int x3), (.int x4), (.int x5)] maxLocals = mkF m 0 #[.val (.long x0), .second, .val (.long x1), .second, .val (.int x2), .val (.int x3), .val (.int x4), .val (.int x5), .unset, .unset, .unset, .unset, .unset, .unset, .unset, .unset, .unset, .unset, .unset, .unset, .unset, .unset, .unset, .unset, .unset, .unset, .unset, .unset, .unset, .unset, .unset, .unset] [] := by first | (simp [entryFrame, mkF, argsToLocals, Value.category, maxLocals]; done) | rfl
theorem pn_23 : plainName "com/example/viral_counter/viralcounter/PostTrendForgetBeforePinLaw" = true := by first | (simp [plainName, overriddenIn]; done) | decide +kernel
theorem pd_24 : parseMethodDescriptor "()V" = some ⟨[], none⟩ := by decide +kernel
abbrev own_L_25 (q1 : Int64) (q2 : Int64) (p3 : Int32) (p4 : Int32) (p5 : Int32) (p6 : Int32) (lk : Int32) (m1 : Int64) (m2 : Int64) (m3 : Int64) (old : Int64) (ss : Int64) (b59 : Addr) (z8 z21 z22 z23 : Slot) : Array Slot := #[.val (.long q1), .second, .val (.long q2), .second, .val (.int p3), .val (.int p4), .val (.int p5), .val (.int p6), z8, .val (.int lk), .val (.long m1), .second, .val (.long m2), .second, .val (.long m3), .second, .val (.long old), .second, .val (.long ss), .second, .val (.ref b59), z21, z22, z23, .unset, .unset, .unset, .unset, .unset, .unset, .unset, .unset]
theorem d4_0 : decode prog_25_method_4_code 0 = .ok (.aload_n 0, 1) := by decide +kernel
theorem d4_1 : decode prog_25_method_4_code 1 = .ok (.getfield 17, 3) := by decide +kernel
theorem d4_4 : decode prog_25_method_4_code 4 = .ok (.aload_n 0, 1) := by decide +kernel
theorem d4_5 : decode prog_25_method_4_code 5 = .ok (.getfield 21, 3) := by decide +kernel
theorem d4_8 : decode prog_25_method_4_code 8 = .ok (.if_icmp .ge 43, 3) := by decide +kernel
theorem d4_51 : decode prog_25_method_4_code 51 = .ok (.return_, 1) := by decide +kernel
abbrev own_y_32 : MethodName := (⟨"com/example/viral_counter/viralcounter/PostTrend", "forgetBefore", "(J)V"⟩ : MethodName)
theorem ef_33 (m : MethodId) (x0 : Addr) (x1 : Int64) : entryFrame m #[(.ref x0), (.long x1)] 3 = mkF m 0 #[.val (.ref x0), .val (.long x1), .second] [] := by first | (simp [entryFrame, mkF, argsToLocals, Value.category]; done) | rfl
def QFgt002_0 (Z : State) (a1 : Addr) (q2 : Int64) (x0 : Int64) (x1 : Int64) (y0 : Int32) (y1 : Int32) (b : Int32) (h0 : Heap) (n0 : Nat) (v : Option Value) (h : Heap) (L : List Loc) : Prop := v = none ∧ Fr n0 L ∧ h0.size ≤ h.size ∧ PT Z h n0 a1 (0 : Int32) (0 : Int32) (2 : Int32) [(.long x0), (.long x1)] [(.int y0), (.int y1)] b
set_option maxRecDepth 65536 in
set_option maxHeartbeats 40000000 in
theorem rmFgt002_0 (l : Launch) (Z : State) (a0 : Array Value) (hw : ∀ d ∈ tables_1, d.before a0 Z = true) (ws : List Jvm.Cond) (a1 : Addr) (q2 : Int64) (x0 : Int64) (x1 : Int64) (y0 : Int32) (y1 : Int32) (b : Int32) (h0 : Heap) (n0 : Nat) (Z0 : n0 ≤ h0.size) (P0 : PT Z h0 n0 a1 (0 : Int32) (0 : Int32) (2 : Int32) [(.long x0), (.long x1)] [(.int y0), (.int y1)] b) :
    MetFree l own_y_32 (head1 (Jvm.Cond.code own_y_32 prog_25_method_4_code 3 none :: ws) ({ frames := 0, cells := 0, slots := 0, locals := 0 } : Room)) (fun a U => a = #[(.ref a1), (.long q2)] ∧ Z.Warmed39 U.vm ∧ U.heap = h0) (fun _ _ _ _ _ => True) (fun _ U o U' => ∃ v L, o = .returned v ∧ QFgt002_0 Z a1 q2 x0 x1 y0 y1 b h0 n0 v U'.heap L ∧ FrameEnd U o U' L ({ frames := 0, cells := 0, slots := 0, locals := 0 } : Room).cells ({ frames := 0, cells := 0, slots := 0, locals := 0 } : Room).slots) := by
  refine MetFree.of_bodySF (plainFor_of_name pn_2) hisR ?_
  intro p e s m args below meth c s₁ Bd hml0 hP hK
  obtain ⟨rfl, hZ, hh⟩ := hP
  have hx := Bd.exec
  have hby := Bd.bytes
  have hml : c.maxLocals = 3 := hml0
  have hown : s.vm.findClass "com/example/viral_counter/viralcounter/PostTrend" = some m.cls := findClass_of_methodNamed Bd.named
  have hnm := (name_of_methodNamed Bd.named Bd.method).1
  have X0 : Stand p l e ({ frames := 0, cells := 0, slots := 0, locals := 0 } : Room) s m #[(.ref a1), (.long q2)] below meth c s₁ [] 0 0 := Stand.of_body Bd
  have e0 : s₁.heap = h0 := by rw [← hh, Bd.state]; rfl
  have N0 := Fr.nil n0
  have pre0 : ∀ t, Steps p.tables e below (s₁.setTop (mkF m 0 #[.val (.ref a1), .val (.long q2), .second] [])) t → Steps p.tables e below (s₁.setTop (entryFrame m #[(.ref a1), (.long q2)] 3)) t := fun t k => castTop (ef_33 m a1 q2) k
  obtain ⟨am118, ac118, km118, kc118, E118, Fm118, Fc118, Ff118, Fe118, Fb118, Vm118, Vc118, Ga118, Gm118, Gc118, n1118, n2118, n3118⟩ := id P0
  have hz0 : h0.size ≤ h0.size := Nat.le_refl _
  obtain ⟨T119, X119, e119, st119⟩ := getF X0 hx hZ hown (host := "") (Or.inl (own_w hw 23 rfl)) Via.refl e0 Ff118 (g := (mkF m 1 #[.val (.ref a1), .val (.long q2), .second] [(.ref a1)])) rfl rfl (hb hby d4_1)
  obtain ⟨T120, X120, e120, st120⟩ := getF X119 hx hZ hown (host := "") (Or.inl (own_w hw 25 rfl)) Via.refl e119 Fe118 (g := (mkF m 5 #[.val (.ref a1), .val (.long q2), .second] [(.ref a1), (.int (0 : Int32))])) rfl rfl (hb hby d4_5)
  have pre121 : ∀ t, Steps p.tables e below (T120.setTop (mkF m 51 #[.val (.ref a1), .val (.long q2), .second] [])) t → Steps p.tables e below (s₁.setTop (entryFrame m #[(.ref a1), (.long q2)] 3)) t := fun t kt => pre0 t (by
    show Steps p.tables e below (s₁.setTop (mkF m 0 #[.val (.ref a1), .val (.long q2), .second] [])) _
    refine XS.aloadN X0.here hx rfl (hb hby d4_0) rfl rfl ?_
    refine st119 _ ?_
    refine XS.aloadN X119.here hx rfl (hb hby d4_4) rfl rfl ?_
    refine st120 _ ?_
    refine XS.icmpYes X120.here hx rfl (pc0 := 8) (pc' := 51) rfl (hb hby d4_8) rfl (flt (by decide : ¬ ((0 : Int32) < (0 : Int32)))).2.1 (by decide) (by decide) ?_
    exact kt)
  have hz : h0.size ≤ h0.size := Nat.le_refl _
  have hQ : QFgt002_0 Z a1 q2 x0 x1 y0 y1 b h0 n0 none h0 _ := ⟨rfl, N0, hz, ⟨am118, ac118, km118, kc118, E118, Fm118, Fc118, Ff118, Fe118, Fb118, Vm118, Vc118, Ga118, Gm118, Gc118, n1118, n2118, n3118⟩⟩
  exact own_retV X120 hx Bd.notSynchronized Bd.returns (hb hby d4_51) pre121 (show QFgt002_0 Z a1 q2 x0 x1 y0 y1 b h0 n0 _ _ _ from (by rw [e120]; exact hQ)) (by decide) (by decide)
theorem pd_34 : parseMethodDescriptor "(J)V" = some ⟨[.long], none⟩ := by decide +kernel
abbrev own_y_35 : MethodName := (⟨"com/example/viral_counter/viralcounter/PostTrend", "isEmpty", "()Z"⟩ : MethodName)
theorem ef_36 (m : MethodId) (x0 : Addr) : entryFrame m #[(.ref x0)] 1 = mkF m 0 #[.val (.ref x0)] [] := by first | (simp [entryFrame, mkF, argsToLocals, Value.category]; done) | rfl
theorem d5_0 : decode prog_25_method_5_code 0 = .ok (.aload_n 0, 1) := by decide +kernel
theorem d5_1 : decode prog_25_method_5_code 1 = .ok (.getfield 17, 3) := by decide +kernel
theorem d5_4 : decode prog_25_method_5_code 4 = .ok (.aload_n 0, 1) := by decide +kernel
theorem d5_5 : decode prog_25_method_5_code 5 = .ok (.getfield 21, 3) := by decide +kernel
theorem d5_8 : decode prog_25_method_5_code 8 = .ok (.if_icmp .ne 7, 3) := by decide +kernel
theorem d5_11 : decode prog_25_method_5_code 11 = .ok (.iconst 1, 1) := by decide +kernel
theorem d5_12 : decode prog_25_method_5_code 12 = .ok (.goto 4, 3) := by decide +kernel
theorem d5_16 : decode prog_25_method_5_code 16 = .ok (.ireturn, 1) := by decide +kernel
def QEmp (z : Int32) (h0 : Heap) (n0 : Nat) (v : Option Value) (h : Heap) (L : List Loc) : Prop := v = some (.int z) ∧ Fr n0 L ∧ h = h0
set_option maxRecDepth 65536 in
set_option maxHeartbeats 40000000 in
theorem rmEmpT (l : Launch) (Z : State) (a0 : Array Value) (hw : ∀ d ∈ tables_1, d.before a0 Z = true) (ws : List Jvm.Cond) (a1 : Addr) (fi en cap : Int32) (xs ys : List Value) (b : Int32) (h0 : Heap) (n0 : Nat) (Z0 : n0 ≤ h0.size) (P0 : PT Z h0 n0 a1 fi en cap xs ys b) (hq : fi = en) :
    MetFree l own_y_35 (head1 (Jvm.Cond.code own_y_35 prog_25_method_5_code 1 (some .boolean) :: ws) ({ frames := 0, cells := 0, slots := 0, locals := 0 } : Room)) (fun a U => a = #[(.ref a1)] ∧ Z.Warmed39 U.vm ∧ U.heap = h0) (fun _ _ _ _ _ => True) (fun _ U o U' => ∃ v L, o = .returned v ∧ QEmp (1 : Int32) h0 n0 v U'.heap L ∧ FrameEnd U o U' L ({ frames := 0, cells := 0, slots := 0, locals := 0 } : Room).cells ({ frames := 0, cells := 0, slots := 0, locals := 0 } : Room).slots) := by
  refine MetFree.of_bodySF (plainFor_of_name pn_2) hisR ?_
  intro p e s m args below meth c s₁ Bd hml0 hP hK
  obtain ⟨rfl, hZ, hh⟩ := hP
  have hx := Bd.exec
  have hby := Bd.bytes
  have hml : c.maxLocals = 1 := hml0
  have hown : s.vm.findClass "com/example/viral_counter/viralcounter/PostTrend" = some m.cls := findClass_of_methodNamed Bd.named
  have hnm := (name_of_methodNamed Bd.named Bd.method).1
  have X0 : Stand p l e ({ frames := 0, cells := 0, slots := 0, locals := 0 } : Room) s m #[(.ref a1)] below meth c s₁ [] 0 0 := Stand.of_body Bd
  have e0 : s₁.heap = h0 := by rw [← hh, Bd.state]; rfl
  have N0 := Fr.nil n0
  have pre0 : ∀ t, Steps p.tables e below (s₁.setTop (mkF m 0 #[.val (.ref a1)] [])) t → Steps p.tables e below (s₁.setTop (entryFrame m #[(.ref a1)] 1)) t := fun t k => castTop (ef_36 m a1) k
  obtain ⟨am, ac, km, kc, E0, Fm, Fc, Ff, Fe, -⟩ := id P0
  obtain ⟨T124, X124, e124, st124⟩ := getF X0 hx hZ hown (host := "") (Or.inl (own_w hw 23 rfl)) Via.refl e0 Ff (g := (mkF m 1 #[.val (.ref a1)] [(.ref a1)])) rfl rfl (hb hby d5_1)
  obtain ⟨T125, X125, e125, st125⟩ := getF X124 hx hZ hown (host := "") (Or.inl (own_w hw 25 rfl)) Via.refl e124 Fe (g := (mkF m 5 #[.val (.ref a1)] [(.ref a1), (.int fi)])) rfl rfl (hb hby d5_5)
  have pre126 : ∀ t, Steps p.tables e below (T125.setTop (mkF m 16 #[.val (.ref a1)] [(.int (1 : Int32))])) t → Steps p.tables e below (s₁.setTop (entryFrame m #[(.ref a1)] 1)) t := fun t kt => pre0 t (by
    show Steps p.tables e below (s₁.setTop (mkF m 0 #[.val (.ref a1)] [])) _
    refine XS.aloadN X0.here hx rfl (hb hby d5_0) rfl rfl ?_
    refine st124 _ ?_
    refine XS.aloadN X124.here hx rfl (hb hby d5_4) rfl rfl ?_
    refine st125 _ ?_
    refine XS.icmpNo X125.here hx rfl (hb hby d5_8) rfl (teq hq).2 ?_
    refine XS.iconst X125.here hx rfl (hb hby d5_11) ?_
    refine XS.goto X125.here hx rfl (pc0 := 12) (pc' := 16) rfl (hb hby d5_12) (by decide) (by decide) ?_
    exact kt)
  exact own_retN X125 hx Bd.notSynchronized (t := .boolean) Bd.returns (by simp) (hb hby d5_16) pre126 (show QEmp (1 : Int32) h0 n0 _ _ _ from ⟨rfl, N0, e125⟩) (by decide) (by decide)
theorem pd_45 : parseMethodDescriptor "()Z" = some ⟨[], some .boolean⟩ := by decide +kernel
abbrev own_y_46 : MethodName := (⟨"com/example/viral_counter/viralcounter/PostTrend", "gainedSince", "(J)I"⟩ : MethodName)
theorem ef_47 (m : MethodId) (x0 : Addr) (x1 : Int64) : entryFrame m #[(.ref x0), (.long x1)] 6 = mkF m 0 #[.val (.ref x0), .val (.long x1), .second, .unset, .unset, .unset] [] := by first | (simp [entryFrame, mkF, argsToLocals, Value.category]; done) | rfl
theorem d6_0 : decode prog_25_method_3_code 0 = .ok (.aload_n 0, 1) := by decide +kernel
theorem d6_1 : decode prog_25_method_3_code 1 = .ok (.getfield 17, 3) := by decide +kernel
theorem d6_4 : decode prog_25_method_3_code 4 = .ok (.aload_n 0, 1) := by decide +kernel
theorem d6_5 : decode prog_25_method_3_code 5 = .ok (.getfield 21, 3) := by decide +kernel
theorem d6_8 : decode prog_25_method_3_code 8 = .ok (.if_icmp .ne 5, 3) := by decide +kernel
theorem d6_11 : decode prog_25_method_3_code 11 = .ok (.iconst 0, 1) := by decide +kernel
theorem d6_12 : decode prog_25_method_3_code 12 = .ok (.ireturn, 1) := by decide +kernel
def QRi (r : Int32) (h0 : Heap) (n0 : Nat) (v : Option Value) (h : Heap) (L : List Loc) : Prop := v = some (.int r) ∧ Fr n0 L ∧ h = h0
set_option maxRecDepth 65536 in
set_option maxHeartbeats 40000000 in
theorem rmGnE (l : Launch) (Z : State) (a0 : Array Value) (hw : ∀ d ∈ tables_1, d.before a0 Z = true) (ws : List Jvm.Cond) (a1 : Addr) (q2 : Int64) (fi en cap : Int32) (xs ys : List Value) (b : Int32) (h0 : Heap) (n0 : Nat) (Z0 : n0 ≤ h0.size) (P0 : PT Z h0 n0 a1 fi en cap xs ys b) (hq : fi = en) :
    MetFree l own_y_46 (head1 (Jvm.Cond.code own_y_46 prog_25_method_3_code 6 (some .int) :: ws) ({ frames := 0, cells := 0, slots := 0, locals := 0 } : Room)) (fun a U => a = #[(.ref a1), (.long q2)] ∧ Z.Warmed39 U.vm ∧ U.heap = h0) (fun _ _ _ _ _ => True) (fun _ U o U' => ∃ v L, o = .returned v ∧ QRi (0 : Int32) h0 n0 v U'.heap L ∧ FrameEnd U o U' L ({ frames := 0, cells := 0, slots := 0, locals := 0 } : Room).cells ({ frames := 0, cells := 0, slots := 0, locals := 0 } : Room).slots) := by
  refine MetFree.of_bodySF (plainFor_of_name pn_2) hisR ?_
  intro p e s m args below meth c s₁ Bd hml0 hP hK
  obtain ⟨rfl, hZ, hh⟩ := hP
  have hx := Bd.exec
  have hby := Bd.bytes
  have hml : c.maxLocals = 6 := hml0
  have hown : s.vm.findClass "com/example/viral_counter/viralcounter/PostTrend" = some m.cls := findClass_of_methodNamed Bd.named
  have hnm := (name_of_methodNamed Bd.named Bd.method).1
  have X0 : Stand p l e ({ frames := 0, cells := 0, slots := 0, locals := 0 } : Room) s m #[(.ref a1), (.long q2)] below meth c s₁ [] 0 0 := Stand.of_body Bd
  have e0 : s₁.heap = h0 := by rw [← hh, Bd.state]; rfl
  have N0 := Fr.nil n0
  have pre0 : ∀ t, Steps p.tables e below (s₁.setTop (mkF m 0 #[.val (.ref a1), .val (.long q2), .second, .unset, .unset, .unset] [])) t → Steps p.tables e below (s₁.setTop (entryFrame m #[(.ref a1), (.long q2)] 6)) t := fun t k => castTop (ef_47 m a1 q2) k
  obtain ⟨am, ac, km, kc, E0, Fm, Fc, Ff, Fe, -⟩ := id P0
  obtain ⟨T128, X128, e128, st128⟩ := getF X0 hx hZ hown (host := "") (Or.inl (own_w hw 23 rfl)) Via.refl e0 Ff (g := (mkF m 1 #[.val (.ref a1), .val (.long q2), .second, .unset, .unset, .unset] [(.ref a1)])) rfl rfl (hb hby d6_1)
  obtain ⟨T129, X129, e129, st129⟩ := getF X128 hx hZ hown (host := "") (Or.inl (own_w hw 25 rfl)) Via.refl e128 Fe (g := (mkF m 5 #[.val (.ref a1), .val (.long q2), .second, .unset, .unset, .unset] [(.ref a1), (.int fi)])) rfl rfl (hb hby d6_5)
  have pre130 : ∀ t, Steps p.tables e below (T129.setTop (mkF m 12 #[.val (.ref a1), .val (.long q2), .second, .unset, .unset, .unset] [(.int (0 : Int32))])) t → Steps p.tables e below (s₁.setTop (entryFrame m #[(.ref a1), (.long q2)] 6)) t := fun t kt => pre0 t (by
    show Steps p.tables e below (s₁.setTop (mkF m 0 #[.val (.ref a1), .val (.long q2), .second, .unset, .unset, .unset] [])) _
    refine XS.aloadN X0.here hx rfl (hb hby d6_0) rfl rfl ?_
    refine st128 _ ?_
    refine XS.aloadN X128.here hx rfl (hb hby d6_4) rfl rfl ?_
    refine st129 _ ?_
    refine XS.icmpNo X129.here hx rfl (hb hby d6_8) rfl (teq hq).2 ?_
    refine XS.iconst X129.here hx rfl (hb hby d6_11) ?_
    exact kt)
  exact own_retI X129 hx Bd.notSynchronized Bd.returns (hb hby d6_12) pre130 (show QRi (0 : Int32) h0 n0 _ _ _ from ⟨rfl, N0, e129⟩) (by decide) (by decide)
theorem pd_55 : parseMethodDescriptor "(J)I" = some ⟨[.long], some .int⟩ := by decide +kernel
theorem d3_0 : decode prog_25_method_2_code 0 = .ok (.aload_n 0, 1) := by decide +kernel
theorem d3_1 : decode prog_25_method_2_code 1 = .ok (.getfield 17, 3) := by decide +kernel
theorem d3_4 : decode prog_25_method_2_code 4 = .ok (.aload_n 0, 1) := by decide +kernel
theorem d3_5 : decode prog_25_method_2_code 5 = .ok (.getfield 21, 3) := by decide +kernel
theorem d3_8 : decode prog_25_method_2_code 8 = .ok (.if_icmp .ne 21, 3) := by decide +kernel
theorem d3_11 : decode prog_25_method_2_code 11 = .ok (.aload_n 0, 1) := by decide +kernel
theorem d3_12 : decode prog_25_method_2_code 12 = .ok (.iload 4, 2) := by decide +kernel
theorem d3_14 : decode prog_25_method_2_code 14 = .ok (.ifCond .eq 9, 3) := by decide +kernel
theorem d3_23 : decode prog_25_method_2_code 23 = .ok (.iload_n 3, 1) := by decide +kernel
theorem d3_24 : decode prog_25_method_2_code 24 = .ok (.iconst 1, 1) := by decide +kernel
theorem d3_25 : decode prog_25_method_2_code 25 = .ok (.iadd, 1) := by decide +kernel
theorem d3_17 : decode prog_25_method_2_code 17 = .ok (.iload_n 3, 1) := by decide +kernel
theorem d3_18 : decode prog_25_method_2_code 18 = .ok (.iconst 1, 1) := by decide +kernel
theorem d3_19 : decode prog_25_method_2_code 19 = .ok (.isub, 1) := by decide +kernel
theorem d3_20 : decode prog_25_method_2_code 20 = .ok (.goto 6, 3) := by decide +kernel
theorem d3_26 : decode prog_25_method_2_code 26 = .ok (.putfield 24, 3) := by decide +kernel
theorem own_sn_72 {Z : State} {a0 : Array Value} (hw : ∀ d ∈ tables_1, d.before a0 Z = true) : Jvm.RoadKit.slotOf Z "com/example/viral_counter/viralcounter/PostTrend" "minutes" "[J" ≠ Jvm.RoadKit.slotOf Z "com/example/viral_counter/viralcounter/PostTrend" "before" "I" := slot_ne (C := "com/example/viral_counter/viralcounter/PostTrend") (Or.inl (own_w hw 14 rfl)) (Or.inl (own_w hw 28 rfl)) (by decide) (t := (.array .long)) (t' := .int) (by decide) (by decide)
theorem own_sn_73 {Z : State} {a0 : Array Value} (hw : ∀ d ∈ tables_1, d.before a0 Z = true) : Jvm.RoadKit.slotOf Z "com/example/viral_counter/viralcounter/PostTrend" "counts" "[I" ≠ Jvm.RoadKit.slotOf Z "com/example/viral_counter/viralcounter/PostTrend" "before" "I" := slot_ne (C := "com/example/viral_counter/viralcounter/PostTrend") (Or.inl (own_w hw 17 rfl)) (Or.inl (own_w hw 28 rfl)) (by decide) (t := (.array .int)) (t' := .int) (by decide) (by decide)
theorem own_sn_74 {Z : State} {a0 : Array Value} (hw : ∀ d ∈ tables_1, d.before a0 Z = true) : Jvm.RoadKit.slotOf Z "com/example/viral_counter/viralcounter/PostTrend" "first" "I" ≠ Jvm.RoadKit.slotOf Z "com/example/viral_counter/viralcounter/PostTrend" "before" "I" := slot_ne (C := "com/example/viral_counter/viralcounter/PostTrend") (Or.inl (own_w hw 24 rfl)) (Or.inl (own_w hw 28 rfl)) (by decide) (t := .int) (t' := .int) (by decide) (by decide)
theorem own_sn_75 {Z : State} {a0 : Array Value} (hw : ∀ d ∈ tables_1, d.before a0 Z = true) : Jvm.RoadKit.slotOf Z "com/example/viral_counter/viralcounter/PostTrend" "end" "I" ≠ Jvm.RoadKit.slotOf Z "com/example/viral_counter/viralcounter/PostTrend" "before" "I" := slot_ne (C := "com/example/viral_counter/viralcounter/PostTrend") (Or.inl (own_w hw 26 rfl)) (Or.inl (own_w hw 28 rfl)) (by decide) (t := .int) (t' := .int) (by decide) (by decide)
theorem d3_29 : decode prog_25_method_2_code 29 = .ok (.aload_n 0, 1) := by decide +kernel
theorem d3_30 : decode prog_25_method_2_code 30 = .ok (.getfield 17, 3) := by decide +kernel
theorem d3_33 : decode prog_25_method_2_code 33 = .ok (.aload_n 0, 1) := by decide +kernel
theorem d3_34 : decode prog_25_method_2_code 34 = .ok (.getfield 21, 3) := by decide +kernel
theorem d3_37 : decode prog_25_method_2_code 37 = .ok (.if_icmp .ge 34, 3) := by decide +kernel
theorem d3_71 : decode prog_25_method_2_code 71 = .ok (.aload_n 0, 1) := by decide +kernel
theorem d3_72 : decode prog_25_method_2_code 72 = .ok (.getfield 21, 3) := by decide +kernel
theorem d3_75 : decode prog_25_method_2_code 75 = .ok (.aload_n 0, 1) := by decide +kernel
theorem d3_76 : decode prog_25_method_2_code 76 = .ok (.getfield 9, 3) := by decide +kernel
theorem d3_79 : decode prog_25_method_2_code 79 = .ok (.arraylength, 1) := by decide +kernel
theorem d3_80 : decode prog_25_method_2_code 80 = .ok (.if_icmp .ne 7, 3) := by decide +kernel
theorem d3_87 : decode prog_25_method_2_code 87 = .ok (.aload_n 0, 1) := by decide +kernel
theorem d3_88 : decode prog_25_method_2_code 88 = .ok (.getfield 9, 3) := by decide +kernel
theorem d3_91 : decode prog_25_method_2_code 91 = .ok (.aload_n 0, 1) := by decide +kernel
theorem d3_92 : decode prog_25_method_2_code 92 = .ok (.getfield 21, 3) := by decide +kernel
theorem d3_95 : decode prog_25_method_2_code 95 = .ok (.lload_n 1, 1) := by decide +kernel
theorem d3_96 : decode prog_25_method_2_code 96 = .ok (.lastore, 1) := by decide +kernel
theorem d3_97 : decode prog_25_method_2_code 97 = .ok (.aload_n 0, 1) := by decide +kernel
theorem d3_98 : decode prog_25_method_2_code 98 = .ok (.getfield 13, 3) := by decide +kernel
theorem d3_101 : decode prog_25_method_2_code 101 = .ok (.aload_n 0, 1) := by decide +kernel
theorem d3_102 : decode prog_25_method_2_code 102 = .ok (.getfield 21, 3) := by decide +kernel
theorem d3_105 : decode prog_25_method_2_code 105 = .ok (.iload_n 3, 1) := by decide +kernel
theorem d3_106 : decode prog_25_method_2_code 106 = .ok (.iastore, 1) := by decide +kernel
theorem d3_107 : decode prog_25_method_2_code 107 = .ok (.aload_n 0, 1) := by decide +kernel
theorem d3_108 : decode prog_25_method_2_code 108 = .ok (.dup, 1) := by decide +kernel
theorem d3_109 : decode prog_25_method_2_code 109 = .ok (.getfield 21, 3) := by decide +kernel
theorem d3_112 : decode prog_25_method_2_code 112 = .ok (.iconst 1, 1) := by decide +kernel
theorem d3_113 : decode prog_25_method_2_code 113 = .ok (.iadd, 1) := by decide +kernel
theorem d3_114 : decode prog_25_method_2_code 114 = .ok (.putfield 21, 3) := by decide +kernel
theorem own_sn_105 {Z : State} {a0 : Array Value} (hw : ∀ d ∈ tables_1, d.before a0 Z = true) : Jvm.RoadKit.slotOf Z "com/example/viral_counter/viralcounter/PostTrend" "minutes" "[J" ≠ Jvm.RoadKit.slotOf Z "com/example/viral_counter/viralcounter/PostTrend" "end" "I" := slot_ne (C := "com/example/viral_counter/viralcounter/PostTrend") (Or.inl (own_w hw 14 rfl)) (Or.inl (own_w hw 26 rfl)) (by decide) (t := (.array .long)) (t' := .int) (by decide) (by decide)
theorem own_sn_106 {Z : State} {a0 : Array Value} (hw : ∀ d ∈ tables_1, d.before a0 Z = true) : Jvm.RoadKit.slotOf Z "com/example/viral_counter/viralcounter/PostTrend" "counts" "[I" ≠ Jvm.RoadKit.slotOf Z "com/example/viral_counter/viralcounter/PostTrend" "end" "I" := slot_ne (C := "com/example/viral_counter/viralcounter/PostTrend") (Or.inl (own_w hw 17 rfl)) (Or.inl (own_w hw 26 rfl)) (by decide) (t := (.array .int)) (t' := .int) (by decide) (by decide)
theorem own_sn_107 {Z : State} {a0 : Array Value} (hw : ∀ d ∈ tables_1, d.before a0 Z = true) : Jvm.RoadKit.slotOf Z "com/example/viral_counter/viralcounter/PostTrend" "first" "I" ≠ Jvm.RoadKit.slotOf Z "com/example/viral_counter/viralcounter/PostTrend" "end" "I" := slot_ne (C := "com/example/viral_counter/viralcounter/PostTrend") (Or.inl (own_w hw 24 rfl)) (Or.inl (own_w hw 26 rfl)) (by decide) (t := .int) (t' := .int) (by decide) (by decide)
theorem own_sn_108 {Z : State} {a0 : Array Value} (hw : ∀ d ∈ tables_1, d.before a0 Z = true) : Jvm.RoadKit.slotOf Z "com/example/viral_counter/viralcounter/PostTrend" "before" "I" ≠ Jvm.RoadKit.slotOf Z "com/example/viral_counter/viralcounter/PostTrend" "end" "I" := slot_ne (C := "com/example/viral_counter/viralcounter/PostTrend") (Or.inl (own_w hw 28 rfl)) (Or.inl (own_w hw 26 rfl)) (by decide) (t := .int) (t' := .int) (by decide) (by decide)
theorem d3_117 : decode prog_25_method_2_code 117 = .ok (.return_, 1) := by decide +kernel
abbrev own_y_110 : MethodName := (⟨"com/example/viral_counter/viralcounter/PostTrend", "counted", "(JIZ)V"⟩ : MethodName)
theorem ef_111 (m : MethodId) (x0 : Addr) (x1 : Int64) (x2 : Int32) (x3 : Int32) : entryFrame m #[(.ref x0), (.long x1), (.int x2), (.int x3)] 5 = mkF m 0 #[.val (.ref x0), .val (.long x1), .second, .val (.int x2), .val (.int x3)] [] := by first | (simp [entryFrame, mkF, argsToLocals, Value.category]; done) | rfl
def QCnt002a (Z : State) (a1 : Addr) (q2 : Int64) (p4 p5 : Int32) (x0 : Int64) (x1 : Int64) (y0 : Int32) (y1 : Int32) (b : Int32) (h0 : Heap) (n0 : Nat) (v : Option Value) (h : Heap) (L : List Loc) : Prop := v = none ∧ Fr n0 L ∧ h0.size ≤ h.size ∧ PT Z h n0 a1 (0 : Int32) (1 : Int32) (2 : Int32) [(.long q2), (.long x1)] [(.int p4), (.int y1)] (if p5 = (0 : Int32) then (p4 + (1 : Int32)) else (p4 - (1 : Int32)))
set_option maxRecDepth 65536 in
set_option maxHeartbeats 40000000 in
theorem rmCnt002a (l : Launch) (Z : State) (a0 : Array Value) (hw : ∀ d ∈ tables_1, d.before a0 Z = true) (ws : List Jvm.Cond) (a1 : Addr) (q2 : Int64) (p4 p5 : Int32) (x0 : Int64) (x1 : Int64) (y0 : Int32) (y1 : Int32) (b : Int32) (h0 : Heap) (n0 : Nat) (Z0 : n0 ≤ h0.size) (P0 : PT Z h0 n0 a1 (0 : Int32) (0 : Int32) (2 : Int32) [(.long x0), (.long x1)] [(.int y0), (.int y1)] b) :
    MetFree l own_y_110 (head1 (Jvm.Cond.code own_y_110 prog_25_method_2_code 5 none :: ws) ({ frames := 0, cells := 0, slots := 0, locals := 0 } : Room)) (fun a U => a = #[(.ref a1), (.long q2), (.int p4), (.int p5)] ∧ Z.Warmed39 U.vm ∧ U.heap = h0) (fun _ _ _ _ _ => True) (fun _ U o U' => ∃ v L, o = .returned v ∧ QCnt002a Z a1 q2 p4 p5 x0 x1 y0 y1 b h0 n0  v U'.heap L ∧ FrameEnd U o U' L ({ frames := 0, cells := 0, slots := 0, locals := 0 } : Room).cells ({ frames := 0, cells := 0, slots := 0, locals := 0 } : Room).slots) := by
  refine MetFree.of_bodySF (plainFor_of_name pn_2) hisR ?_
  intro p e s m args below meth c s₁ Bd hml0 hP hK
  obtain ⟨rfl, hZ, hh⟩ := hP
  have hx := Bd.exec
  have hby := Bd.bytes
  have hml : c.maxLocals = 5 := hml0
  have hown : s.vm.findClass "com/example/viral_counter/viralcounter/PostTrend" = some m.cls := findClass_of_methodNamed Bd.named
  have hnm := (name_of_methodNamed Bd.named Bd.method).1
  have X0 : Stand p l e ({ frames := 0, cells := 0, slots := 0, locals := 0 } : Room) s m #[(.ref a1), (.long q2), (.int p4), (.int p5)] below meth c s₁ [] 0 0 := Stand.of_body Bd
  have e0 : s₁.heap = h0 := by rw [← hh, Bd.state]; rfl
  have N0 := Fr.nil n0
  have pre0 : ∀ t, Steps p.tables e below (s₁.setTop (mkF m 0 #[.val (.ref a1), .val (.long q2), .second, .val (.int p4), .val (.int p5)] [])) t → Steps p.tables e below (s₁.setTop (entryFrame m #[(.ref a1), (.long q2), (.int p4), (.int p5)] 5)) t := fun t k => castTop (ef_111 m a1 q2 p4 p5) k
  obtain ⟨am135, ac135, km135, kc135, E135, Fm135, Fc135, Ff135, Fe135, Fb135, Vm135, Vc135, Ga135, Gm135, Gc135, n1135, n2135, n3135⟩ := id P0
  obtain ⟨T136, X136, e136, st136⟩ := getF X0 hx hZ hown (host := "") (Or.inl (own_w hw 23 rfl)) Via.refl e0 Ff135 (g := (mkF m 1 #[.val (.ref a1), .val (.long q2), .second, .val (.int p4), .val (.int p5)] [(.ref a1)])) rfl rfl (hb hby d3_1)
  obtain ⟨T137, X137, e137, st137⟩ := getF X136 hx hZ hown (host := "") (Or.inl (own_w hw 25 rfl)) Via.refl e136 Fe135 (g := (mkF m 5 #[.val (.ref a1), .val (.long q2), .second, .val (.int p4), .val (.int p5)] [(.ref a1), (.int (0 : Int32))])) rfl rfl (hb hby d3_5)
  have pre138 : ∀ t, Steps p.tables e below (T137.setTop (mkF m 14 #[.val (.ref a1), .val (.long q2), .second, .val (.int p4), .val (.int p5)] [(.int p5), (.ref a1)])) t → Steps p.tables e below (s₁.setTop (entryFrame m #[(.ref a1), (.long q2), (.int p4), (.int p5)] 5)) t := fun t kt => pre0 t (by
    show Steps p.tables e below (s₁.setTop (mkF m 0 #[.val (.ref a1), .val (.long q2), .second, .val (.int p4), .val (.int p5)] [])) _
    refine XS.aloadN X0.here hx rfl (hb hby d3_0) rfl rfl ?_
    refine st136 _ ?_
    refine XS.aloadN X136.here hx rfl (hb hby d3_4) rfl rfl ?_
    refine st137 _ ?_
    refine XS.icmpNo X137.here hx rfl (hb hby d3_8) rfl (teq (by decide : (0 : Int32) = (0 : Int32))).2 ?_
    refine XS.aloadN X137.here hx rfl (hb hby d3_11) rfl rfl ?_
    refine XS.iload X137.here hx rfl (hb hby d3_12) rfl ?_
    exact kt)
  obtain ⟨bb, hbb⟩ : ∃ z : Int32, z = (if p5 = (0 : Int32) then (p4 + (1 : Int32)) else (p4 - (1 : Int32))) := ⟨_, rfl⟩
  have pre140 : ∀ t, Steps p.tables e below (T137.setTop (mkF m 26 #[.val (.ref a1), .val (.long q2), .second, .val (.int p4), .val (.int p5)] [(.int bb), (.ref a1)])) t → Steps p.tables e below (s₁.setTop (entryFrame m #[(.ref a1), (.long q2), (.int p4), (.int p5)] 5)) t := fun t kt => pre138 t (by
    by_cases hc139 : p5 = (0 : Int32)
    case pos =>
      show Steps p.tables e below (T137.setTop (mkF m 14 #[.val (.ref a1), .val (.long q2), .second, .val (.int p4), .val (.int p5)] [(.int p5), (.ref a1)])) _
      refine XS.ifYes X137.here hx rfl (pc0 := 14) (pc' := 23) rfl (hb hby d3_14) rfl ((if0 _ _).trans (teq hc139).1) (by decide) (by decide) ?_
      refine XS.iloadN X137.here hx rfl (hb hby d3_23) rfl ?_
      refine XS.iconst X137.here hx rfl (hb hby d3_24) ?_
      refine XS.iadd X137.here hx rfl (hb hby d3_25) rfl ?_
      rw [show bb = (p4 + (1 : Int32)) from (hbb.trans (if_pos hc139))] at kt
      exact kt
    case neg =>
      show Steps p.tables e below (T137.setTop (mkF m 14 #[.val (.ref a1), .val (.long q2), .second, .val (.int p4), .val (.int p5)] [(.int p5), (.ref a1)])) _
      refine XS.ifNo X137.here hx rfl (hb hby d3_14) rfl ((if0 _ _).trans (feq hc139).1) ?_
      refine XS.iloadN X137.here hx rfl (hb hby d3_17) rfl ?_
      refine XS.iconst X137.here hx rfl (hb hby d3_18) ?_
      refine XS.isub X137.here hx rfl (hb hby d3_19) rfl ?_
      refine XS.goto X137.here hx rfl (pc0 := 20) (pc' := 26) rfl (hb hby d3_20) (by decide) (by decide) ?_
      rw [show bb = (p4 - (1 : Int32)) from (hbb.trans (if_neg hc139))] at kt
      exact kt)
  obtain ⟨T141, h141, X141, e141, W141, st141⟩ := putF X137 hx hZ hown (host := "") (Or.inl (own_w hw 27 rfl)) Via.refl e137 Fb135 E135 (Or.inl (own_w hw 28 rfl)) (own_w hw 4 rfl) (ty := .int) (by decide) rfl rfl (g := (mkF m 26 #[.val (.ref a1), .val (.long q2), .second, .val (.int p4), .val (.int p5)] [(.int bb), (.ref a1)])) rfl rfl (hb hby d3_26)
  have Fw141 := Fb135.same W141
  have N141 := Fr.snoc X141 N0 Ga135
  have z142 : n0 ≤ h141.size := Nat.le_trans Z0 (Keep.of_wr W141).1
  have c143 := E135.wr W141
  have c144 := Fm135.other W141 (Or.inr (own_sn_72 hw))
  have c145 := Fc135.other W141 (Or.inr (own_sn_73 hw))
  have c146 := Ff135.other W141 (Or.inr (own_sn_74 hw))
  have c147 := Fe135.other W141 (Or.inr (own_sn_75 hw))
  have c149 := Vm135.other W141 (Ne.symm n1135)
  have c150 := Vc135.other W141 (Ne.symm n2135)
  obtain ⟨T151, X151, e151, st151⟩ := getF X141 hx hZ hown (host := "") (Or.inl (own_w hw 23 rfl)) Via.refl e141 c146 (g := (mkF m 30 #[.val (.ref a1), .val (.long q2), .second, .val (.int p4), .val (.int p5)] [(.ref a1)])) rfl rfl (hb hby d3_30)
  obtain ⟨T152, X152, e152, st152⟩ := getF X151 hx hZ hown (host := "") (Or.inl (own_w hw 25 rfl)) Via.refl e151 c147 (g := (mkF m 34 #[.val (.ref a1), .val (.long q2), .second, .val (.int p4), .val (.int p5)] [(.ref a1), (.int (0 : Int32))])) rfl rfl (hb hby d3_34)
  obtain ⟨T153, X153, e153, st153⟩ := getF X152 hx hZ hown (host := "") (Or.inl (own_w hw 25 rfl)) Via.refl e152 c147 (g := (mkF m 72 #[.val (.ref a1), .val (.long q2), .second, .val (.int p4), .val (.int p5)] [(.ref a1)])) rfl rfl (hb hby d3_72)
  obtain ⟨T154, X154, e154, st154⟩ := getF X153 hx hZ hown (host := "") (Or.inl (own_w hw 13 rfl)) Via.refl e153 c144 (g := (mkF m 76 #[.val (.ref a1), .val (.long q2), .second, .val (.int p4), .val (.int p5)] [(.ref a1), (.int (0 : Int32))])) rfl rfl (hb hby d3_76)
  obtain ⟨cl155, A155, q155, S155, M155, H155, J155⟩ := id c149
  obtain ⟨T156, X156, e156, st156⟩ := getF X154 hx hZ hown (host := "") (Or.inl (own_w hw 13 rfl)) Via.refl e154 c144 (g := (mkF m 88 #[.val (.ref a1), .val (.long q2), .second, .val (.int p4), .val (.int p5)] [(.ref a1)])) rfl rfl (hb hby d3_88)
  obtain ⟨T157, X157, e157, st157⟩ := getF X156 hx hZ hown (host := "") (Or.inl (own_w hw 25 rfl)) Via.refl e156 c147 (g := (mkF m 92 #[.val (.ref a1), .val (.long q2), .second, .val (.int p4), .val (.int p5)] [(.ref a1), (.ref am135)])) rfl rfl (hb hby d3_92)
  obtain ⟨cl158, Ar158, q158, S158, M158, H158, J158⟩ := id c149
  have hin158 : ¬ ((0 : Int32) < 0 ∨ cl158.slots.size ≤ ((0 : Int32)).toNatClampNeg) := inb_of S158 ⟨by decide, by decide⟩
  obtain ⟨T159, h159, X159, e159, W159, st159⟩ := stJ X157 hx hZ e157 Ar158 (j := (0 : Int32)) hin158 (g := (mkF m 96 #[.val (.ref a1), .val (.long q2), .second, .val (.int p4), .val (.int p5)] [(.long q2), (.int (0 : Int32)), (.ref am135)])) rfl rfl (hb hby d3_96)
  have V159 : Arv Z h159 am135 km135 .long (2 : Int32) [(.long q2), (.long x1)] (.long (0 : Int64)) := Arv.set Ar158 q158 S158 M158 H158 J158 rfl W159 0 rfl (Nat.le_of_ble_eq_true rfl)
  have N159 := Fr.snoc X159 N141 Gm135
  have z160 : n0 ≤ h159.size := Nat.le_trans z142 (Keep.of_wr W159).1
  have c161 := c143.wr W159
  have c162 := c144.other W159 (Or.inl n1135)
  have c163 := c145.other W159 (Or.inl n1135)
  have c164 := c146.other W159 (Or.inl n1135)
  have c165 := c147.other W159 (Or.inl n1135)
  have c167 := c150.other W159 (Ne.symm n3135)
  have c168 := Fw141.other W159 (Or.inl n1135)
  obtain ⟨T169, X169, e169, st169⟩ := getF X159 hx hZ hown (host := "") (Or.inl (own_w hw 16 rfl)) Via.refl e159 c163 (g := (mkF m 98 #[.val (.ref a1), .val (.long q2), .second, .val (.int p4), .val (.int p5)] [(.ref a1)])) rfl rfl (hb hby d3_98)
  obtain ⟨T170, X170, e170, st170⟩ := getF X169 hx hZ hown (host := "") (Or.inl (own_w hw 25 rfl)) Via.refl e169 c165 (g := (mkF m 102 #[.val (.ref a1), .val (.long q2), .second, .val (.int p4), .val (.int p5)] [(.ref a1), (.ref ac135)])) rfl rfl (hb hby d3_102)
  obtain ⟨cl171, Ar171, q171, S171, M171, H171, J171⟩ := id c167
  have hin171 : ¬ ((0 : Int32) < 0 ∨ cl171.slots.size ≤ ((0 : Int32)).toNatClampNeg) := inb_of S171 ⟨by decide, by decide⟩
  obtain ⟨T172, h172, X172, e172, W172, st172⟩ := stI X170 hx hZ e170 Ar171 (j := (0 : Int32)) hin171 (g := (mkF m 106 #[.val (.ref a1), .val (.long q2), .second, .val (.int p4), .val (.int p5)] [(.int p4), (.int (0 : Int32)), (.ref ac135)])) rfl rfl (hb hby d3_106)
  have V172 : Arv Z h172 ac135 kc135 .int (2 : Int32) [(.int p4), (.int y1)] (.int (0 : Int32)) := Arv.set Ar171 q171 S171 M171 H171 J171 rfl W172 0 rfl (Nat.le_of_ble_eq_true rfl)
  have N172 := Fr.snoc X172 N159 Gc135
  have z173 : n0 ≤ h172.size := Nat.le_trans z160 (Keep.of_wr W172).1
  have c174 := c161.wr W172
  have c175 := c162.other W172 (Or.inl n2135)
  have c176 := c163.other W172 (Or.inl n2135)
  have c177 := c164.other W172 (Or.inl n2135)
  have c178 := c165.other W172 (Or.inl n2135)
  have c180 := c168.other W172 (Or.inl n2135)
  have c181 := V159.other W172 n3135
  obtain ⟨T182, X182, e182, st182⟩ := getF X172 hx hZ hown (host := "") (Or.inl (own_w hw 25 rfl)) Via.refl e172 c178 (g := (mkF m 109 #[.val (.ref a1), .val (.long q2), .second, .val (.int p4), .val (.int p5)] [(.ref a1), (.ref a1)])) rfl rfl (hb hby d3_109)
  obtain ⟨T183, h183, X183, e183, W183, st183⟩ := putF X182 hx hZ hown (host := "") (Or.inl (own_w hw 25 rfl)) Via.refl e182 c178 c174 (Or.inl (own_w hw 26 rfl)) (own_w hw 4 rfl) (ty := .int) (by decide) rfl rfl (g := (mkF m 114 #[.val (.ref a1), .val (.long q2), .second, .val (.int p4), .val (.int p5)] [(.int (1 : Int32)), (.ref a1)])) rfl rfl (hb hby d3_114)
  have Fw183 := c178.same W183
  have N183 := Fr.snoc X183 N172 Ga135
  have z184 : n0 ≤ h183.size := Nat.le_trans z173 (Keep.of_wr W183).1
  have c185 := c174.wr W183
  have c186 := c175.other W183 (Or.inr (own_sn_105 hw))
  have c187 := c176.other W183 (Or.inr (own_sn_106 hw))
  have c188 := c177.other W183 (Or.inr (own_sn_107 hw))
  have c190 := c180.other W183 (Or.inr (own_sn_108 hw))
  have c191 := c181.other W183 (Ne.symm n1135)
  have c192 := V172.other W183 (Ne.symm n2135)
  have pre193 : ∀ t, Steps p.tables e below (T183.setTop (mkF m 117 #[.val (.ref a1), .val (.long q2), .second, .val (.int p4), .val (.int p5)] [])) t → Steps p.tables e below (s₁.setTop (entryFrame m #[(.ref a1), (.long q2), (.int p4), (.int p5)] 5)) t := fun t kt => pre140 t (by
    show Steps p.tables e below (T137.setTop (mkF m 26 #[.val (.ref a1), .val (.long q2), .second, .val (.int p4), .val (.int p5)] [(.int bb), (.ref a1)])) _
    refine st141 _ ?_
    refine XS.aloadN X141.here hx rfl (hb hby d3_29) rfl rfl ?_
    refine st151 _ ?_
    refine XS.aloadN X151.here hx rfl (hb hby d3_33) rfl rfl ?_
    refine st152 _ ?_
    refine XS.icmpYes X152.here hx rfl (pc0 := 37) (pc' := 71) rfl (hb hby d3_37) rfl (flt (by decide : ¬ ((0 : Int32) < (0 : Int32)))).2.1 (by decide) (by decide) ?_
    refine XS.aloadN X152.here hx rfl (hb hby d3_71) rfl rfl ?_
    refine st153 _ ?_
    refine XS.aloadN X153.here hx rfl (hb hby d3_75) rfl rfl ?_
    refine st154 _ ?_
    refine X154.arraylength hx (by rw [e154]; exact A155.1) (State.isArrayOf_alike hZ.alike A155.2.1) (g := (mkF m 79 #[.val (.ref a1), .val (.long q2), .second, .val (.int p4), .val (.int p5)] [(.ref am135), (.int (0 : Int32))])) rfl rfl (hb hby d3_79) _ ?_
    rw [len_of S155 M155]
    refine XS.icmpYes X154.here hx rfl (pc0 := 80) (pc' := 87) rfl (hb hby d3_80) rfl (feq (by decide : ¬ ((0 : Int32) = (2 : Int32)))).2 (by decide) (by decide) ?_
    show Steps p.tables e below (T154.setTop (mkF m 87 #[.val (.ref a1), .val (.long q2), .second, .val (.int p4), .val (.int p5)] [])) _
    refine XS.aloadN X154.here hx rfl (hb hby d3_87) rfl rfl ?_
    refine st156 _ ?_
    refine XS.aloadN X156.here hx rfl (hb hby d3_91) rfl rfl ?_
    refine st157 _ ?_
    refine XS.lloadN X157.here hx rfl (hb hby d3_95) rfl ?_
    refine st159 _ ?_
    refine XS.aloadN X159.here hx rfl (hb hby d3_97) rfl rfl ?_
    refine st169 _ ?_
    refine XS.aloadN X169.here hx rfl (hb hby d3_101) rfl rfl ?_
    refine st170 _ ?_
    refine XS.iloadN X170.here hx rfl (hb hby d3_105) rfl ?_
    refine st172 _ ?_
    show Steps p.tables e below (T172.setTop (mkF m 107 #[.val (.ref a1), .val (.long q2), .second, .val (.int p4), .val (.int p5)] [])) _
    refine XS.aloadN X172.here hx rfl (hb hby d3_107) rfl rfl ?_
    refine XS.dup X172.here hx rfl (hb hby d3_108) rfl rfl ?_
    refine st182 _ ?_
    refine XS.iconst X182.here hx rfl (hb hby d3_112) ?_
    refine XS.iadd X182.here hx rfl (hb hby d3_113) rfl ?_
    refine st183 _ ?_
    exact kt)
  have hz : h0.size ≤ h183.size := Nat.le_trans (Nat.le_trans (Nat.le_trans (Nat.le_trans (Nat.le_refl _) (Keep.of_wr W141).1) (Keep.of_wr W159).1) (Keep.of_wr W172).1) (Keep.of_wr W183).1
  have hP : PT Z h183 n0 a1 (0 : Int32) (1 : Int32) (2 : Int32) [(.long q2), (.long x1)] [(.int p4), (.int y1)] bb := ⟨am135, ac135, km135, kc135, c185, c186, c187, c188, Fw183, c190, c191, c192, Ga135, Gm135, Gc135, n1135, n2135, n3135⟩
  rw [hbb] at hP
  have hQ : QCnt002a Z a1 q2 p4 p5 x0 x1 y0 y1 b h0 n0 none h183 _ := ⟨rfl, N183, hz, hP⟩
  exact own_retV X183 hx Bd.notSynchronized Bd.returns (hb hby d3_117) pre193 (show QCnt002a Z a1 q2 p4 p5 x0 x1 y0 y1 b h0 n0 _ _ _ from (by rw [e183]; exact hQ)) (by decide) (by decide)
theorem pd_112 : parseMethodDescriptor "(JIZ)V" = some ⟨[.long, .int, .boolean], none⟩ := by decide +kernel
theorem d4_11 : decode prog_25_method_4_code 11 = .ok (.aload_n 0, 1) := by decide +kernel
theorem d4_12 : decode prog_25_method_4_code 12 = .ok (.getfield 9, 3) := by decide +kernel
theorem d4_15 : decode prog_25_method_4_code 15 = .ok (.aload_n 0, 1) := by decide +kernel
theorem d4_16 : decode prog_25_method_4_code 16 = .ok (.getfield 17, 3) := by decide +kernel
theorem d4_19 : decode prog_25_method_4_code 19 = .ok (.laload, 1) := by decide +kernel
theorem d4_20 : decode prog_25_method_4_code 20 = .ok (.lload_n 1, 1) := by decide +kernel
theorem d4_21 : decode prog_25_method_4_code 21 = .ok (.lcmp, 1) := by decide +kernel
theorem d4_22 : decode prog_25_method_4_code 22 = .ok (.ifCond .ge 29, 3) := by decide +kernel
theorem d4_25 : decode prog_25_method_4_code 25 = .ok (.aload_n 0, 1) := by decide +kernel
theorem d4_26 : decode prog_25_method_4_code 26 = .ok (.aload_n 0, 1) := by decide +kernel
theorem d4_27 : decode prog_25_method_4_code 27 = .ok (.getfield 13, 3) := by decide +kernel
theorem d4_30 : decode prog_25_method_4_code 30 = .ok (.aload_n 0, 1) := by decide +kernel
theorem d4_31 : decode prog_25_method_4_code 31 = .ok (.getfield 17, 3) := by decide +kernel
theorem d4_34 : decode prog_25_method_4_code 34 = .ok (.iaload, 1) := by decide +kernel
theorem d4_35 : decode prog_25_method_4_code 35 = .ok (.putfield 24, 3) := by decide +kernel
theorem d4_38 : decode prog_25_method_4_code 38 = .ok (.aload_n 0, 1) := by decide +kernel
theorem d4_39 : decode prog_25_method_4_code 39 = .ok (.dup, 1) := by decide +kernel
theorem d4_40 : decode prog_25_method_4_code 40 = .ok (.getfield 17, 3) := by decide +kernel
theorem d4_43 : decode prog_25_method_4_code 43 = .ok (.iconst 1, 1) := by decide +kernel
theorem d4_44 : decode prog_25_method_4_code 44 = .ok (.iadd, 1) := by decide +kernel
theorem d4_45 : decode prog_25_method_4_code 45 = .ok (.putfield 17, 3) := by decide +kernel
theorem own_sn_134 {Z : State} {a0 : Array Value} (hw : ∀ d ∈ tables_1, d.before a0 Z = true) : Jvm.RoadKit.slotOf Z "com/example/viral_counter/viralcounter/PostTrend" "minutes" "[J" ≠ Jvm.RoadKit.slotOf Z "com/example/viral_counter/viralcounter/PostTrend" "first" "I" := slot_ne (C := "com/example/viral_counter/viralcounter/PostTrend") (Or.inl (own_w hw 14 rfl)) (Or.inl (own_w hw 24 rfl)) (by decide) (t := (.array .long)) (t' := .int) (by decide) (by decide)
theorem own_sn_135 {Z : State} {a0 : Array Value} (hw : ∀ d ∈ tables_1, d.before a0 Z = true) : Jvm.RoadKit.slotOf Z "com/example/viral_counter/viralcounter/PostTrend" "counts" "[I" ≠ Jvm.RoadKit.slotOf Z "com/example/viral_counter/viralcounter/PostTrend" "first" "I" := slot_ne (C := "com/example/viral_counter/viralcounter/PostTrend") (Or.inl (own_w hw 17 rfl)) (Or.inl (own_w hw 24 rfl)) (by decide) (t := (.array .int)) (t' := .int) (by decide) (by decide)
theorem own_sn_136 {Z : State} {a0 : Array Value} (hw : ∀ d ∈ tables_1, d.before a0 Z = true) : Jvm.RoadKit.slotOf Z "com/example/viral_counter/viralcounter/PostTrend" "end" "I" ≠ Jvm.RoadKit.slotOf Z "com/example/viral_counter/viralcounter/PostTrend" "first" "I" := slot_ne (C := "com/example/viral_counter/viralcounter/PostTrend") (Or.inl (own_w hw 26 rfl)) (Or.inl (own_w hw 24 rfl)) (by decide) (t := .int) (t' := .int) (by decide) (by decide)
theorem own_sn_137 {Z : State} {a0 : Array Value} (hw : ∀ d ∈ tables_1, d.before a0 Z = true) : Jvm.RoadKit.slotOf Z "com/example/viral_counter/viralcounter/PostTrend" "before" "I" ≠ Jvm.RoadKit.slotOf Z "com/example/viral_counter/viralcounter/PostTrend" "first" "I" := slot_ne (C := "com/example/viral_counter/viralcounter/PostTrend") (Or.inl (own_w hw 28 rfl)) (Or.inl (own_w hw 24 rfl)) (by decide) (t := .int) (t' := .int) (by decide) (by decide)
theorem d4_48 : decode prog_25_method_4_code 48 = .ok (.goto (-48), 3) := by decide +kernel
def QFgt012_1 (Z : State) (a1 : Addr) (q2 : Int64) (x0 : Int64) (x1 : Int64) (y0 : Int32) (y1 : Int32) (b : Int32) (h0 : Heap) (n0 : Nat) (v : Option Value) (h : Heap) (L : List Loc) : Prop := v = none ∧ Fr n0 L ∧ h0.size ≤ h.size ∧ PT Z h n0 a1 (1 : Int32) (1 : Int32) (2 : Int32) [(.long x0), (.long x1)] [(.int y0), (.int y1)] y0
set_option maxRecDepth 65536 in
set_option maxHeartbeats 40000000 in
theorem rmFgt012_1 (l : Launch) (Z : State) (a0 : Array Value) (hw : ∀ d ∈ tables_1, d.before a0 Z = true) (ws : List Jvm.Cond) (a1 : Addr) (q2 : Int64) (x0 : Int64) (x1 : Int64) (y0 : Int32) (y1 : Int32) (b : Int32) (h0 : Heap) (n0 : Nat) (Z0 : n0 ≤ h0.size) (P0 : PT Z h0 n0 a1 (0 : Int32) (1 : Int32) (2 : Int32) [(.long x0), (.long x1)] [(.int y0), (.int y1)] b) (c0 : x0 < q2) :
    MetFree l own_y_32 (head1 (Jvm.Cond.code own_y_32 prog_25_method_4_code 3 none :: ws) ({ frames := 0, cells := 0, slots := 0, locals := 0 } : Room)) (fun a U => a = #[(.ref a1), (.long q2)] ∧ Z.Warmed39 U.vm ∧ U.heap = h0) (fun _ _ _ _ _ => True) (fun _ U o U' => ∃ v L, o = .returned v ∧ QFgt012_1 Z a1 q2 x0 x1 y0 y1 b h0 n0 v U'.heap L ∧ FrameEnd U o U' L ({ frames := 0, cells := 0, slots := 0, locals := 0 } : Room).cells ({ frames := 0, cells := 0, slots := 0, locals := 0 } : Room).slots) := by
  refine MetFree.of_bodySF (plainFor_of_name pn_2) hisR ?_
  intro p e s m args below meth c s₁ Bd hml0 hP hK
  obtain ⟨rfl, hZ, hh⟩ := hP
  have hx := Bd.exec
  have hby := Bd.bytes
  have hml : c.maxLocals = 3 := hml0
  have hown : s.vm.findClass "com/example/viral_counter/viralcounter/PostTrend" = some m.cls := findClass_of_methodNamed Bd.named
  have hnm := (name_of_methodNamed Bd.named Bd.method).1
  have X0 : Stand p l e ({ frames := 0, cells := 0, slots := 0, locals := 0 } : Room) s m #[(.ref a1), (.long q2)] below meth c s₁ [] 0 0 := Stand.of_body Bd
  have e0 : s₁.heap = h0 := by rw [← hh, Bd.state]; rfl
  have N0 := Fr.nil n0
  have pre0 : ∀ t, Steps p.tables e below (s₁.setTop (mkF m 0 #[.val (.ref a1), .val (.long q2), .second] [])) t → Steps p.tables e below (s₁.setTop (entryFrame m #[(.ref a1), (.long q2)] 3)) t := fun t k => castTop (ef_33 m a1 q2) k
  obtain ⟨am198, ac198, km198, kc198, E198, Fm198, Fc198, Ff198, Fe198, Fb198, Vm198, Vc198, Ga198, Gm198, Gc198, n1198, n2198, n3198⟩ := id P0
  have hz0 : h0.size ≤ h0.size := Nat.le_refl _
  obtain ⟨T199, X199, e199, st199⟩ := getF X0 hx hZ hown (host := "") (Or.inl (own_w hw 23 rfl)) Via.refl e0 Ff198 (g := (mkF m 1 #[.val (.ref a1), .val (.long q2), .second] [(.ref a1)])) rfl rfl (hb hby d4_1)
  obtain ⟨T200, X200, e200, st200⟩ := getF X199 hx hZ hown (host := "") (Or.inl (own_w hw 25 rfl)) Via.refl e199 Fe198 (g := (mkF m 5 #[.val (.ref a1), .val (.long q2), .second] [(.ref a1), (.int (0 : Int32))])) rfl rfl (hb hby d4_5)
  obtain ⟨T201, X201, e201, st201⟩ := getF X200 hx hZ hown (host := "") (Or.inl (own_w hw 13 rfl)) Via.refl e200 Fm198 (g := (mkF m 12 #[.val (.ref a1), .val (.long q2), .second] [(.ref a1)])) rfl rfl (hb hby d4_12)
  obtain ⟨T202, X202, e202, st202⟩ := getF X201 hx hZ hown (host := "") (Or.inl (own_w hw 23 rfl)) Via.refl e201 Ff198 (g := (mkF m 16 #[.val (.ref a1), .val (.long q2), .second] [(.ref a1), (.ref am198)])) rfl rfl (hb hby d4_16)
  obtain ⟨cl203, A203, q203, S203, M203, H203, J203⟩ := id Vm198
  have hin203 : ¬ ((0 : Int32) < 0 ∨ cl203.slots.size ≤ ((0 : Int32)).toNatClampNeg) := inb_of S203 ⟨by decide, by decide⟩
  have hat203 : cl203.slots[((0 : Int32)).toNatClampNeg]? = some (.long x0) := H203.at hin203 rfl
  obtain ⟨T204, X204, e204, st204⟩ := getF X202 hx hZ hown (host := "") (Or.inl (own_w hw 16 rfl)) Via.refl e202 Fc198 (g := (mkF m 27 #[.val (.ref a1), .val (.long q2), .second] [(.ref a1), (.ref a1)])) rfl rfl (hb hby d4_27)
  obtain ⟨T205, X205, e205, st205⟩ := getF X204 hx hZ hown (host := "") (Or.inl (own_w hw 23 rfl)) Via.refl e204 Ff198 (g := (mkF m 31 #[.val (.ref a1), .val (.long q2), .second] [(.ref a1), (.ref ac198), (.ref a1)])) rfl rfl (hb hby d4_31)
  obtain ⟨cl206, A206, q206, S206, M206, H206, J206⟩ := id Vc198
  have hin206 : ¬ ((0 : Int32) < 0 ∨ cl206.slots.size ≤ ((0 : Int32)).toNatClampNeg) := inb_of S206 ⟨by decide, by decide⟩
  have hat206 : cl206.slots[((0 : Int32)).toNatClampNeg]? = some (.int y0) := H206.at hin206 rfl
  obtain ⟨T207, h207, X207, e207, W207, st207⟩ := putF X205 hx hZ hown (host := "") (Or.inl (own_w hw 27 rfl)) Via.refl e205 Fb198 E198 (Or.inl (own_w hw 28 rfl)) (own_w hw 4 rfl) (ty := .int) (by decide) rfl rfl (g := (mkF m 35 #[.val (.ref a1), .val (.long q2), .second] [(.int y0), (.ref a1)])) rfl rfl (hb hby d4_35)
  have Fw207 := Fb198.same W207
  have N207 := Fr.snoc X207 N0 Ga198
  have z208 : n0 ≤ h207.size := Nat.le_trans Z0 (Keep.of_wr W207).1
  have c209 := E198.wr W207
  have c210 := Fm198.other W207 (Or.inr (own_sn_72 hw))
  have c211 := Fc198.other W207 (Or.inr (own_sn_73 hw))
  have c212 := Ff198.other W207 (Or.inr (own_sn_74 hw))
  have c213 := Fe198.other W207 (Or.inr (own_sn_75 hw))
  have c215 := Vm198.other W207 (Ne.symm n1198)
  have c216 := Vc198.other W207 (Ne.symm n2198)
  obtain ⟨T217, X217, e217, st217⟩ := getF X207 hx hZ hown (host := "") (Or.inl (own_w hw 23 rfl)) Via.refl e207 c212 (g := (mkF m 40 #[.val (.ref a1), .val (.long q2), .second] [(.ref a1), (.ref a1)])) rfl rfl (hb hby d4_40)
  obtain ⟨T218, h218, X218, e218, W218, st218⟩ := putF X217 hx hZ hown (host := "") (Or.inl (own_w hw 23 rfl)) Via.refl e217 c212 c209 (Or.inl (own_w hw 24 rfl)) (own_w hw 4 rfl) (ty := .int) (by decide) rfl rfl (g := (mkF m 45 #[.val (.ref a1), .val (.long q2), .second] [(.int (1 : Int32)), (.ref a1)])) rfl rfl (hb hby d4_45)
  have Fw218 := c212.same W218
  have N218 := Fr.snoc X218 N207 Ga198
  have z219 : n0 ≤ h218.size := Nat.le_trans z208 (Keep.of_wr W218).1
  have c220 := c209.wr W218
  have c221 := c210.other W218 (Or.inr (own_sn_134 hw))
  have c222 := c211.other W218 (Or.inr (own_sn_135 hw))
  have c224 := c213.other W218 (Or.inr (own_sn_136 hw))
  have c225 := c215.other W218 (Ne.symm n1198)
  have c226 := c216.other W218 (Ne.symm n2198)
  have c227 := Fw207.other W218 (Or.inr (own_sn_137 hw))
  obtain ⟨T228, X228, e228, st228⟩ := getF X218 hx hZ hown (host := "") (Or.inl (own_w hw 23 rfl)) Via.refl e218 Fw218 (g := (mkF m 1 #[.val (.ref a1), .val (.long q2), .second] [(.ref a1)])) rfl rfl (hb hby d4_1)
  obtain ⟨T229, X229, e229, st229⟩ := getF X228 hx hZ hown (host := "") (Or.inl (own_w hw 25 rfl)) Via.refl e228 c224 (g := (mkF m 5 #[.val (.ref a1), .val (.long q2), .second] [(.ref a1), (.int (1 : Int32))])) rfl rfl (hb hby d4_5)
  have pre230 : ∀ t, Steps p.tables e below (T229.setTop (mkF m 51 #[.val (.ref a1), .val (.long q2), .second] [])) t → Steps p.tables e below (s₁.setTop (entryFrame m #[(.ref a1), (.long q2)] 3)) t := fun t kt => pre0 t (by
    show Steps p.tables e below (s₁.setTop (mkF m 0 #[.val (.ref a1), .val (.long q2), .second] [])) _
    refine XS.aloadN X0.here hx rfl (hb hby d4_0) rfl rfl ?_
    refine st199 _ ?_
    refine XS.aloadN X199.here hx rfl (hb hby d4_4) rfl rfl ?_
    refine st200 _ ?_
    refine XS.icmpNo X200.here hx rfl (hb hby d4_8) rfl (tlt (by decide : (0 : Int32) < (1 : Int32))).2.1 ?_
    refine XS.aloadN X200.here hx rfl (hb hby d4_11) rfl rfl ?_
    refine st201 _ ?_
    refine XS.aloadN X201.here hx rfl (hb hby d4_15) rfl rfl ?_
    refine st202 _ ?_
    refine X202.laload hx (j := (0 : Int32)) (v := (.long x0)) (by rw [e202]; exact A203.1) (State.isArrayOf_alike hZ.alike A203.2.1) A203.2.2 hin203 hat203 (g := (mkF m 19 #[.val (.ref a1), .val (.long q2), .second] [(.int (0 : Int32)), (.ref am198)])) rfl rfl (hb hby d4_19) _ ?_
    refine XS.lloadN X202.here hx rfl (hb hby d4_20) rfl ?_
    refine XS.lcmp X202.here hx rfl (hb hby d4_21) rfl ?_
    show Steps p.tables e below (T202.setTop (mkF m 22 #[.val (.ref a1), .val (.long q2), .second] [(.int (lcmpW x0 q2))])) _
    refine XS.ifNo X202.here hx rfl (hb hby d4_22) rfl ((if0 _ _).trans (tlt ((lw_lt _ _).mpr c0)).2.1) ?_
    refine XS.aloadN X202.here hx rfl (hb hby d4_25) rfl rfl ?_
    refine XS.aloadN X202.here hx rfl (hb hby d4_26) rfl rfl ?_
    refine st204 _ ?_
    refine XS.aloadN X204.here hx rfl (hb hby d4_30) rfl rfl ?_
    refine st205 _ ?_
    refine X205.iaload hx (j := (0 : Int32)) (v := (.int y0)) (by rw [e205]; exact A206.1) (State.isArrayOf_alike hZ.alike A206.2.1) A206.2.2 hin206 hat206 (g := (mkF m 34 #[.val (.ref a1), .val (.long q2), .second] [(.int (0 : Int32)), (.ref ac198), (.ref a1)])) rfl rfl (hb hby d4_34) _ ?_
    refine st207 _ ?_
    refine XS.aloadN X207.here hx rfl (hb hby d4_38) rfl rfl ?_
    refine XS.dup X207.here hx rfl (hb hby d4_39) rfl rfl ?_
    refine st217 _ ?_
    refine XS.iconst X217.here hx rfl (hb hby d4_43) ?_
    show Steps p.tables e below (T217.setTop (mkF m 44 #[.val (.ref a1), .val (.long q2), .second] [(.int (1 : Int32)), (.int (0 : Int32)), (.ref a1)])) _
    refine XS.iadd X217.here hx rfl (hb hby d4_44) rfl ?_
    refine st218 _ ?_
    refine XS.goto X218.here hx rfl (pc0 := 48) (pc' := 0) rfl (hb hby d4_48) (by decide) (by decide) ?_
    refine XS.aloadN X218.here hx rfl (hb hby d4_0) rfl rfl ?_
    refine st228 _ ?_
    refine XS.aloadN X228.here hx rfl (hb hby d4_4) rfl rfl ?_
    refine st229 _ ?_
    refine XS.icmpYes X229.here hx rfl (pc0 := 8) (pc' := 51) rfl (hb hby d4_8) rfl (flt (by decide : ¬ ((1 : Int32) < (1 : Int32)))).2.1 (by decide) (by decide) ?_
    exact kt)
  have hz : h0.size ≤ h218.size := Nat.le_trans (Nat.le_trans (Nat.le_refl _) (Keep.of_wr W207).1) (Keep.of_wr W218).1
  have hQ : QFgt012_1 Z a1 q2 x0 x1 y0 y1 b h0 n0 none h218 _ := ⟨rfl, N218, hz, ⟨am198, ac198, km198, kc198, c220, c221, c222, Fw218, c224, c227, c225, c226, Ga198, Gm198, Gc198, n1198, n2198, n3198⟩⟩
  exact own_retV X229 hx Bd.notSynchronized Bd.returns (hb hby d4_51) pre230 (show QFgt012_1 Z a1 q2 x0 x1 y0 y1 b h0 n0 _ _ _ from (by rw [e229]; exact hQ)) (by decide) (by decide)
def QFgt012_0 (Z : State) (a1 : Addr) (q2 : Int64) (x0 : Int64) (x1 : Int64) (y0 : Int32) (y1 : Int32) (b : Int32) (h0 : Heap) (n0 : Nat) (v : Option Value) (h : Heap) (L : List Loc) : Prop := v = none ∧ Fr n0 L ∧ h0.size ≤ h.size ∧ PT Z h n0 a1 (0 : Int32) (1 : Int32) (2 : Int32) [(.long x0), (.long x1)] [(.int y0), (.int y1)] b
set_option maxRecDepth 65536 in
set_option maxHeartbeats 40000000 in
theorem rmFgt012_0 (l : Launch) (Z : State) (a0 : Array Value) (hw : ∀ d ∈ tables_1, d.before a0 Z = true) (ws : List Jvm.Cond) (a1 : Addr) (q2 : Int64) (x0 : Int64) (x1 : Int64) (y0 : Int32) (y1 : Int32) (b : Int32) (h0 : Heap) (n0 : Nat) (Z0 : n0 ≤ h0.size) (P0 : PT Z h0 n0 a1 (0 : Int32) (1 : Int32) (2 : Int32) [(.long x0), (.long x1)] [(.int y0), (.int y1)] b) (c0 : ¬ (x0 < q2)) :
    MetFree l own_y_32 (head1 (Jvm.Cond.code own_y_32 prog_25_method_4_code 3 none :: ws) ({ frames := 0, cells := 0, slots := 0, locals := 0 } : Room)) (fun a U => a = #[(.ref a1), (.long q2)] ∧ Z.Warmed39 U.vm ∧ U.heap = h0) (fun _ _ _ _ _ => True) (fun _ U o U' => ∃ v L, o = .returned v ∧ QFgt012_0 Z a1 q2 x0 x1 y0 y1 b h0 n0 v U'.heap L ∧ FrameEnd U o U' L ({ frames := 0, cells := 0, slots := 0, locals := 0 } : Room).cells ({ frames := 0, cells := 0, slots := 0, locals := 0 } : Room).slots) := by
  refine MetFree.of_bodySF (plainFor_of_name pn_2) hisR ?_
  intro p e s m args below meth c s₁ Bd hml0 hP hK
  obtain ⟨rfl, hZ, hh⟩ := hP
  have hx := Bd.exec
  have hby := Bd.bytes
  have hml : c.maxLocals = 3 := hml0
  have hown : s.vm.findClass "com/example/viral_counter/viralcounter/PostTrend" = some m.cls := findClass_of_methodNamed Bd.named
  have hnm := (name_of_methodNamed Bd.named Bd.method).1
  have X0 : Stand p l e ({ frames := 0, cells := 0, slots := 0, locals := 0 } : Room) s m #[(.ref a1), (.long q2)] below meth c s₁ [] 0 0 := Stand.of_body Bd
  have e0 : s₁.heap = h0 := by rw [← hh, Bd.state]; rfl
  have N0 := Fr.nil n0
  have pre0 : ∀ t, Steps p.tables e below (s₁.setTop (mkF m 0 #[.val (.ref a1), .val (.long q2), .second] [])) t → Steps p.tables e below (s₁.setTop (entryFrame m #[(.ref a1), (.long q2)] 3)) t := fun t k => castTop (ef_33 m a1 q2) k
  obtain ⟨am237, ac237, km237, kc237, E237, Fm237, Fc237, Ff237, Fe237, Fb237, Vm237, Vc237, Ga237, Gm237, Gc237, n1237, n2237, n3237⟩ := id P0
  have hz0 : h0.size ≤ h0.size := Nat.le_refl _
  obtain ⟨T238, X238, e238, st238⟩ := getF X0 hx hZ hown (host := "") (Or.inl (own_w hw 23 rfl)) Via.refl e0 Ff237 (g := (mkF m 1 #[.val (.ref a1), .val (.long q2), .second] [(.ref a1)])) rfl rfl (hb hby d4_1)
  obtain ⟨T239, X239, e239, st239⟩ := getF X238 hx hZ hown (host := "") (Or.inl (own_w hw 25 rfl)) Via.refl e238 Fe237 (g := (mkF m 5 #[.val (.ref a1), .val (.long q2), .second] [(.ref a1), (.int (0 : Int32))])) rfl rfl (hb hby d4_5)
  obtain ⟨T240, X240, e240, st240⟩ := getF X239 hx hZ hown (host := "") (Or.inl (own_w hw 13 rfl)) Via.refl e239 Fm237 (g := (mkF m 12 #[.val (.ref a1), .val (.long q2), .second] [(.ref a1)])) rfl rfl (hb hby d4_12)
  obtain ⟨T241, X241, e241, st241⟩ := getF X240 hx hZ hown (host := "") (Or.inl (own_w hw 23 rfl)) Via.refl e240 Ff237 (g := (mkF m 16 #[.val (.ref a1), .val (.long q2), .second] [(.ref a1), (.ref am237)])) rfl rfl (hb hby d4_16)
  obtain ⟨cl242, A242, q242, S242, M242, H242, J242⟩ := id Vm237
  have hin242 : ¬ ((0 : Int32) < 0 ∨ cl242.slots.size ≤ ((0 : Int32)).toNatClampNeg) := inb_of S242 ⟨by decide, by decide⟩
  have hat242 : cl242.slots[((0 : Int32)).toNatClampNeg]? = some (.long x0) := H242.at hin242 rfl
  have pre243 : ∀ t, Steps p.tables e below (T241.setTop (mkF m 51 #[.val (.ref a1), .val (.long q2), .second] [])) t → Steps p.tables e below (s₁.setTop (entryFrame m #[(.ref a1), (.long q2)] 3)) t := fun t kt => pre0 t (by
    show Steps p.tables e below (s₁.setTop (mkF m 0 #[.val (.ref a1), .val (.long q2), .second] [])) _
    refine XS.aloadN X0.here hx rfl (hb hby d4_0) rfl rfl ?_
    refine st238 _ ?_
    refine XS.aloadN X238.here hx rfl (hb hby d4_4) rfl rfl ?_
    refine st239 _ ?_
    refine XS.icmpNo X239.here hx rfl (hb hby d4_8) rfl (tlt (by decide : (0 : Int32) < (1 : Int32))).2.1 ?_
    refine XS.aloadN X239.here hx rfl (hb hby d4_11) rfl rfl ?_
    refine st240 _ ?_
    refine XS.aloadN X240.here hx rfl (hb hby d4_15) rfl rfl ?_
    refine st241 _ ?_
    refine X241.laload hx (j := (0 : Int32)) (v := (.long x0)) (by rw [e241]; exact A242.1) (State.isArrayOf_alike hZ.alike A242.2.1) A242.2.2 hin242 hat242 (g := (mkF m 19 #[.val (.ref a1), .val (.long q2), .second] [(.int (0 : Int32)), (.ref am237)])) rfl rfl (hb hby d4_19) _ ?_
    refine XS.lloadN X241.here hx rfl (hb hby d4_20) rfl ?_
    refine XS.lcmp X241.here hx rfl (hb hby d4_21) rfl ?_
    show Steps p.tables e below (T241.setTop (mkF m 22 #[.val (.ref a1), .val (.long q2), .second] [(.int (lcmpW x0 q2))])) _
    refine XS.ifYes X241.here hx rfl (pc0 := 22) (pc' := 51) rfl (hb hby d4_22) rfl ((if0 _ _).trans (flt (fun q => c0 ((lw_lt _ _).mp q))).2.1) (by decide) (by decide) ?_
    exact kt)
  have hz : h0.size ≤ h0.size := Nat.le_refl _
  have hQ : QFgt012_0 Z a1 q2 x0 x1 y0 y1 b h0 n0 none h0 _ := ⟨rfl, N0, hz, ⟨am237, ac237, km237, kc237, E237, Fm237, Fc237, Ff237, Fe237, Fb237, Vm237, Vc237, Ga237, Gm237, Gc237, n1237, n2237, n3237⟩⟩
  exact own_retV X241 hx Bd.notSynchronized Bd.returns (hb hby d4_51) pre243 (show QFgt012_0 Z a1 q2 x0 x1 y0 y1 b h0 n0 _ _ _ from (by rw [e241]; exact hQ)) (by decide) (by decide)
theorem d5_15 : decode prog_25_method_5_code 15 = .ok (.iconst 0, 1) := by decide +kernel
set_option maxRecDepth 65536 in
set_option maxHeartbeats 40000000 in
theorem rmEmpF (l : Launch) (Z : State) (a0 : Array Value) (hw : ∀ d ∈ tables_1, d.before a0 Z = true) (ws : List Jvm.Cond) (a1 : Addr) (fi en cap : Int32) (xs ys : List Value) (b : Int32) (h0 : Heap) (n0 : Nat) (Z0 : n0 ≤ h0.size) (P0 : PT Z h0 n0 a1 fi en cap xs ys b) (hq : ¬ (fi = en)) :
    MetFree l own_y_35 (head1 (Jvm.Cond.code own_y_35 prog_25_method_5_code 1 (some .boolean) :: ws) ({ frames := 0, cells := 0, slots := 0, locals := 0 } : Room)) (fun a U => a = #[(.ref a1)] ∧ Z.Warmed39 U.vm ∧ U.heap = h0) (fun _ _ _ _ _ => True) (fun _ U o U' => ∃ v L, o = .returned v ∧ QEmp (0 : Int32) h0 n0 v U'.heap L ∧ FrameEnd U o U' L ({ frames := 0, cells := 0, slots := 0, locals := 0 } : Room).cells ({ frames := 0, cells := 0, slots := 0, locals := 0 } : Room).slots) := by
  refine MetFree.of_bodySF (plainFor_of_name pn_2) hisR ?_
  intro p e s m args below meth c s₁ Bd hml0 hP hK
  obtain ⟨rfl, hZ, hh⟩ := hP
  have hx := Bd.exec
  have hby := Bd.bytes
  have hml : c.maxLocals = 1 := hml0
  have hown : s.vm.findClass "com/example/viral_counter/viralcounter/PostTrend" = some m.cls := findClass_of_methodNamed Bd.named
  have hnm := (name_of_methodNamed Bd.named Bd.method).1
  have X0 : Stand p l e ({ frames := 0, cells := 0, slots := 0, locals := 0 } : Room) s m #[(.ref a1)] below meth c s₁ [] 0 0 := Stand.of_body Bd
  have e0 : s₁.heap = h0 := by rw [← hh, Bd.state]; rfl
  have N0 := Fr.nil n0
  have pre0 : ∀ t, Steps p.tables e below (s₁.setTop (mkF m 0 #[.val (.ref a1)] [])) t → Steps p.tables e below (s₁.setTop (entryFrame m #[(.ref a1)] 1)) t := fun t k => castTop (ef_36 m a1) k
  obtain ⟨am, ac, km, kc, E0, Fm, Fc, Ff, Fe, -⟩ := id P0
  obtain ⟨T246, X246, e246, st246⟩ := getF X0 hx hZ hown (host := "") (Or.inl (own_w hw 23 rfl)) Via.refl e0 Ff (g := (mkF m 1 #[.val (.ref a1)] [(.ref a1)])) rfl rfl (hb hby d5_1)
  obtain ⟨T247, X247, e247, st247⟩ := getF X246 hx hZ hown (host := "") (Or.inl (own_w hw 25 rfl)) Via.refl e246 Fe (g := (mkF m 5 #[.val (.ref a1)] [(.ref a1), (.int fi)])) rfl rfl (hb hby d5_5)
  have pre248 : ∀ t, Steps p.tables e below (T247.setTop (mkF m 16 #[.val (.ref a1)] [(.int (0 : Int32))])) t → Steps p.tables e below (s₁.setTop (entryFrame m #[(.ref a1)] 1)) t := fun t kt => pre0 t (by
    show Steps p.tables e below (s₁.setTop (mkF m 0 #[.val (.ref a1)] [])) _
    refine XS.aloadN X0.here hx rfl (hb hby d5_0) rfl rfl ?_
    refine st246 _ ?_
    refine XS.aloadN X246.here hx rfl (hb hby d5_4) rfl rfl ?_
    refine st247 _ ?_
    refine XS.icmpYes X247.here hx rfl (pc0 := 8) (pc' := 15) rfl (hb hby d5_8) rfl (feq hq).2 (by decide) (by decide) ?_
    refine XS.iconst X247.here hx rfl (hb hby d5_15) ?_
    exact kt)
  exact own_retN X247 hx Bd.notSynchronized (t := .boolean) Bd.returns (by simp) (hb hby d5_16) pre248 (show QEmp (0 : Int32) h0 n0 _ _ _ from ⟨rfl, N0, e247⟩) (by decide) (by decide)
theorem d9_0 : decode jdk_65_method_56_code 0 = .ok (.iload_n 1, 1) := by decide +kernel
theorem d9_1 : decode jdk_65_method_56_code 1 = .ok (.istore 5, 2) := by decide +kernel
theorem d9_3 : decode jdk_65_method_56_code 3 = .ok (.iload_n 2, 1) := by decide +kernel
theorem d9_4 : decode jdk_65_method_56_code 4 = .ok (.iconst 1, 1) := by decide +kernel
theorem d9_5 : decode jdk_65_method_56_code 5 = .ok (.isub, 1) := by decide +kernel
theorem d9_6 : decode jdk_65_method_56_code 6 = .ok (.istore 6, 2) := by decide +kernel
theorem d9_8 : decode jdk_65_method_56_code 8 = .ok (.iload 5, 2) := by decide +kernel
theorem d9_10 : decode jdk_65_method_56_code 10 = .ok (.iload 6, 2) := by decide +kernel
theorem d9_12 : decode jdk_65_method_56_code 12 = .ok (.if_icmp .gt 56, 3) := by decide +kernel
theorem d9_15 : decode jdk_65_method_56_code 15 = .ok (.iload 5, 2) := by decide +kernel
theorem d9_17 : decode jdk_65_method_56_code 17 = .ok (.iload 6, 2) := by decide +kernel
theorem d9_19 : decode jdk_65_method_56_code 19 = .ok (.iadd, 1) := by decide +kernel
theorem d9_20 : decode jdk_65_method_56_code 20 = .ok (.iconst 1, 1) := by decide +kernel
theorem d9_21 : decode jdk_65_method_56_code 21 = .ok (.iushr, 1) := by decide +kernel
theorem d9_22 : decode jdk_65_method_56_code 22 = .ok (.istore 7, 2) := by decide +kernel
theorem d9_24 : decode jdk_65_method_56_code 24 = .ok (.aload_n 0, 1) := by decide +kernel
theorem d9_25 : decode jdk_65_method_56_code 25 = .ok (.iload 7, 2) := by decide +kernel
theorem d9_27 : decode jdk_65_method_56_code 27 = .ok (.laload, 1) := by decide +kernel
theorem d9_28 : decode jdk_65_method_56_code 28 = .ok (.lstore 8, 2) := by decide +kernel
theorem d9_30 : decode jdk_65_method_56_code 30 = .ok (.lload 8, 2) := by decide +kernel
theorem d9_32 : decode jdk_65_method_56_code 32 = .ok (.lload_n 3, 1) := by decide +kernel
theorem d9_33 : decode jdk_65_method_56_code 33 = .ok (.lcmp, 1) := by decide +kernel
theorem d9_34 : decode jdk_65_method_56_code 34 = .ok (.ifCond .ge 12, 3) := by decide +kernel
theorem d9_37 : decode jdk_65_method_56_code 37 = .ok (.iload 7, 2) := by decide +kernel
theorem d9_39 : decode jdk_65_method_56_code 39 = .ok (.iconst 1, 1) := by decide +kernel
theorem d9_40 : decode jdk_65_method_56_code 40 = .ok (.iadd, 1) := by decide +kernel
theorem d9_41 : decode jdk_65_method_56_code 41 = .ok (.istore 5, 2) := by decide +kernel
theorem d9_43 : decode jdk_65_method_56_code 43 = .ok (.goto 22, 3) := by decide +kernel
theorem d9_65 : decode jdk_65_method_56_code 65 = .ok (.goto (-57), 3) := by decide +kernel
theorem d9_68 : decode jdk_65_method_56_code 68 = .ok (.iload 5, 2) := by decide +kernel
theorem d9_70 : decode jdk_65_method_56_code 70 = .ok (.iconst 1, 1) := by decide +kernel
theorem d9_71 : decode jdk_65_method_56_code 71 = .ok (.iadd, 1) := by decide +kernel
theorem d9_72 : decode jdk_65_method_56_code 72 = .ok (.ineg, 1) := by decide +kernel
theorem d9_73 : decode jdk_65_method_56_code 73 = .ok (.ireturn, 1) := by decide +kernel
theorem d9_46 : decode jdk_65_method_56_code 46 = .ok (.lload 8, 2) := by decide +kernel
theorem d9_48 : decode jdk_65_method_56_code 48 = .ok (.lload_n 3, 1) := by decide +kernel
theorem d9_49 : decode jdk_65_method_56_code 49 = .ok (.lcmp, 1) := by decide +kernel
theorem d9_50 : decode jdk_65_method_56_code 50 = .ok (.ifCond .le 12, 3) := by decide +kernel
theorem d9_53 : decode jdk_65_method_56_code 53 = .ok (.iload 7, 2) := by decide +kernel
theorem d9_55 : decode jdk_65_method_56_code 55 = .ok (.iconst 1, 1) := by decide +kernel
theorem d9_56 : decode jdk_65_method_56_code 56 = .ok (.isub, 1) := by decide +kernel
theorem d9_57 : decode jdk_65_method_56_code 57 = .ok (.istore 6, 2) := by decide +kernel
theorem d9_59 : decode jdk_65_method_56_code 59 = .ok (.goto 6, 3) := by decide +kernel
theorem d9_62 : decode jdk_65_method_56_code 62 = .ok (.iload 7, 2) := by decide +kernel
theorem d9_64 : decode jdk_65_method_56_code 64 = .ok (.ireturn, 1) := by decide +kernel
abbrev own_y_185 : MethodName := (⟨"java/util/Arrays", "binarySearch0", "([JIIJ)I"⟩ : MethodName)
theorem ef_186 (m : MethodId) (x0 : Addr) (x1 : Int32) (x2 : Int32) (x3 : Int64) : entryFrame m #[(.ref x0), (.int x1), (.int x2), (.long x3)] 10 = mkF m 0 #[.val (.ref x0), .val (.int x1), .val (.int x2), .val (.long x3), .second, .unset, .unset, .unset, .unset, .unset] [] := by first | (simp [entryFrame, mkF, argsToLocals, Value.category]; done) | rfl
theorem pn_187 : plainName "java/util/Arrays" = true := by first | (simp [plainName, overriddenIn]; done) | decide +kernel
def QBs (r : Int32) (h0 : Heap) (n0 : Nat) (v : Option Value) (h : Heap) (L : List Loc) : Prop := v = some (.int r) ∧ Fr n0 L ∧ h = h0
set_option maxRecDepth 65536 in
set_option maxHeartbeats 40000000 in
theorem rmBs012 (l : Launch) (Z : State) (a0 : Array Value) (hw : ∀ d ∈ tables_1, d.before a0 Z = true) (ws : List Jvm.Cond) (a1 : Addr) (q4 : Int64) (k0 : ClassId) (x0 : Int64) (x1 : Int64) (r : Int32) (h0 : Heap) (n0 : Nat) (Z0 : n0 ≤ h0.size) (V0 : Arv Z h0 a1 k0 .long (2 : Int32) [(.long x0), (.long x1)] (.long (0 : Int64))) (er : (if x0 < q4 then (-2 : Int32) else (if q4 < x0 then (-1 : Int32) else (0 : Int32))) = r) :
    MetFree l own_y_185 (head1 (Jvm.Cond.code own_y_185 jdk_65_method_56_code 10 (some .int) :: ws) ({ frames := 0, cells := 0, slots := 0, locals := 0 } : Room)) (fun a U => a = #[(.ref a1), (.int (0 : Int32)), (.int (1 : Int32)), (.long q4)] ∧ Z.Warmed39 U.vm ∧ U.heap = h0) (fun _ _ _ _ _ => True) (fun _ U o U' => ∃ v L, o = .returned v ∧ QBs r h0 n0 v U'.heap L ∧ FrameEnd U o U' L ({ frames := 0, cells := 0, slots := 0, locals := 0 } : Room).cells ({ frames := 0, cells := 0, slots := 0, locals := 0 } : Room).slots) := by
  refine MetFree.of_bodySF (plainFor_of_name pn_187) hisR ?_
  intro p e s m args below meth c s₁ Bd hml0 hP hK
  obtain ⟨rfl, hZ, hh⟩ := hP
  have hx := Bd.exec
  have hby := Bd.bytes
  have hml : c.maxLocals = 10 := hml0
  have hown : s.vm.findClass "java/util/Arrays" = some m.cls := findClass_of_methodNamed Bd.named
  have hnm := (name_of_methodNamed Bd.named Bd.method).1
  have X0 : Stand p l e ({ frames := 0, cells := 0, slots := 0, locals := 0 } : Room) s m #[(.ref a1), (.int (0 : Int32)), (.int (1 : Int32)), (.long q4)] below meth c s₁ [] 0 0 := Stand.of_body Bd
  have e0 : s₁.heap = h0 := by rw [← hh, Bd.state]; rfl
  have N0 := Fr.nil n0
  have pre0 : ∀ t, Steps p.tables e below (s₁.setTop (mkF m 0 #[.val (.ref a1), .val (.int (0 : Int32)), .val (.int (1 : Int32)), .val (.long q4), .second, .unset, .unset, .unset, .unset, .unset] [])) t → Steps p.tables e below (s₁.setTop (entryFrame m #[(.ref a1), (.int (0 : Int32)), (.int (1 : Int32)), (.long q4)] 10)) t := fun t k => castTop (ef_186 m a1 (0 : Int32) (1 : Int32) q4) k
  obtain ⟨cl250, A250, q250, S250, M250, H250, J250⟩ := id V0
  have hin250 : ¬ ((0 : Int32) < 0 ∨ cl250.slots.size ≤ ((0 : Int32)).toNatClampNeg) := inb_of S250 ⟨by decide, by decide⟩
  have hat250 : cl250.slots[((0 : Int32)).toNatClampNeg]? = some (.long x0) := H250.at hin250 rfl
  have pre251 : ∀ t, Steps p.tables e below (s₁.setTop (mkF m 34 #[.val (.ref a1), .val (.int (0 : Int32)), .val (.int (1 : Int32)), .val (.long q4), .second, .val (.int (0 : Int32)), .val (.int (0 : Int32)), .val (.int (0 : Int32)), .val (.long x0), .second] [(.int (lcmpW x0 q4))])) t → Steps p.tables e below (s₁.setTop (entryFrame m #[(.ref a1), (.int (0 : Int32)), (.int (1 : Int32)), (.long q4)] 10)) t := fun t kt => pre0 t (by
    show Steps p.tables e below (s₁.setTop (mkF m 0 #[.val (.ref a1), .val (.int (0 : Int32)), .val (.int (1 : Int32)), .val (.long q4), .second, .unset, .unset, .unset, .unset, .unset] [])) _
    refine XS.iloadN X0.here hx rfl (hb hby d9_0) rfl ?_
    refine XS.istore X0.here hx rfl (hb hby d9_1) rfl (l' := #[.val (.ref a1), .val (.int (0 : Int32)), .val (.int (1 : Int32)), .val (.long q4), .second, .val (.int (0 : Int32)), .unset, .unset, .unset, .unset]) rfl ?_
    refine XS.iloadN X0.here hx rfl (hb hby d9_3) rfl ?_
    refine XS.iconst X0.here hx rfl (hb hby d9_4) ?_
    refine XS.isub X0.here hx rfl (hb hby d9_5) rfl ?_
    refine XS.istore X0.here hx rfl (hb hby d9_6) rfl (l' := #[.val (.ref a1), .val (.int (0 : Int32)), .val (.int (1 : Int32)), .val (.long q4), .second, .val (.int (0 : Int32)), .val (.int (0 : Int32)), .unset, .unset, .unset]) rfl ?_
    refine XS.iload X0.here hx rfl (hb hby d9_8) rfl ?_
    refine XS.iload X0.here hx rfl (hb hby d9_10) rfl ?_
    refine XS.icmpNo X0.here hx rfl (hb hby d9_12) rfl (flt (by decide : ¬ ((0 : Int32) < (0 : Int32)))).2.2.1 ?_
    refine XS.iload X0.here hx rfl (hb hby d9_15) rfl ?_
    refine XS.iload X0.here hx rfl (hb hby d9_17) rfl ?_
    refine XS.iadd X0.here hx rfl (hb hby d9_19) rfl ?_
    show Steps p.tables e below (s₁.setTop (mkF m 20 #[.val (.ref a1), .val (.int (0 : Int32)), .val (.int (1 : Int32)), .val (.long q4), .second, .val (.int (0 : Int32)), .val (.int (0 : Int32)), .unset, .unset, .unset] [(.int (0 : Int32))])) _
    refine XS.iconst X0.here hx rfl (hb hby d9_20) ?_
    refine XS.iushr X0.here hx rfl (hb hby d9_21) rfl ?_
    refine XS.istore X0.here hx rfl (hb hby d9_22) rfl (l' := #[.val (.ref a1), .val (.int (0 : Int32)), .val (.int (1 : Int32)), .val (.long q4), .second, .val (.int (0 : Int32)), .val (.int (0 : Int32)), .val (.int (0 : Int32)), .unset, .unset]) rfl ?_
    refine XS.aloadN X0.here hx rfl (hb hby d9_24) rfl rfl ?_
    refine XS.iload X0.here hx rfl (hb hby d9_25) rfl ?_
    refine X0.laload hx (j := (0 : Int32)) (v := (.long x0)) (by rw [e0]; exact A250.1) (State.isArrayOf_alike hZ.alike A250.2.1) A250.2.2 hin250 hat250 (g := (mkF m 27 #[.val (.ref a1), .val (.int (0 : Int32)), .val (.int (1 : Int32)), .val (.long q4), .second, .val (.int (0 : Int32)), .val (.int (0 : Int32)), .val (.int (0 : Int32)), .unset, .unset] [(.int (0 : Int32)), (.ref a1)])) rfl rfl (hb hby d9_27) _ ?_
    refine XS.lstore X0.here hx rfl (hb hby d9_28) rfl (l' := #[.val (.ref a1), .val (.int (0 : Int32)), .val (.int (1 : Int32)), .val (.long q4), .second, .val (.int (0 : Int32)), .val (.int (0 : Int32)), .val (.int (0 : Int32)), .val (.long x0), .second]) rfl ?_
    refine XS.lload X0.here hx rfl (hb hby d9_30) rfl ?_
    refine XS.lloadN X0.here hx rfl (hb hby d9_32) rfl ?_
    refine XS.lcmp X0.here hx rfl (hb hby d9_33) rfl ?_
    exact kt)
  by_cases hc252 : x0 < q4
  case pos =>
    have pre255 : ∀ t, Steps p.tables e below (s₁.setTop (mkF m 73 #[.val (.ref a1), .val (.int (0 : Int32)), .val (.int (1 : Int32)), .val (.long q4), .second, .val (.int (1 : Int32)), .val (.int (0 : Int32)), .val (.int (0 : Int32)), .val (.long x0), .second] [(.int (-2 : Int32))])) t → Steps p.tables e below (s₁.setTop (entryFrame m #[(.ref a1), (.int (0 : Int32)), (.int (1 : Int32)), (.long q4)] 10)) t := fun t kt => pre251 t (by
      show Steps p.tables e below (s₁.setTop (mkF m 34 #[.val (.ref a1), .val (.int (0 : Int32)), .val (.int (1 : Int32)), .val (.long q4), .second, .val (.int (0 : Int32)), .val (.int (0 : Int32)), .val (.int (0 : Int32)), .val (.long x0), .second] [(.int (lcmpW x0 q4))])) _
      refine XS.ifNo X0.here hx rfl (hb hby d9_34) rfl ((if0 _ _).trans (tlt ((lw_lt _ _).mpr hc252)).2.1) ?_
      refine XS.iload X0.here hx rfl (hb hby d9_37) rfl ?_
      refine XS.iconst X0.here hx rfl (hb hby d9_39) ?_
      refine XS.iadd X0.here hx rfl (hb hby d9_40) rfl ?_
      refine XS.istore X0.here hx rfl (hb hby d9_41) rfl (l' := #[.val (.ref a1), .val (.int (0 : Int32)), .val (.int (1 : Int32)), .val (.long q4), .second, .val (.int (1 : Int32)), .val (.int (0 : Int32)), .val (.int (0 : Int32)), .val (.long x0), .second]) rfl ?_
      refine XS.goto X0.here hx rfl (pc0 := 43) (pc' := 65) rfl (hb hby d9_43) (by decide) (by decide) ?_
      refine XS.goto X0.here hx rfl (pc0 := 65) (pc' := 8) rfl (hb hby d9_65) (by decide) (by decide) ?_
      refine XS.iload X0.here hx rfl (hb hby d9_8) rfl ?_
      refine XS.iload X0.here hx rfl (hb hby d9_10) rfl ?_
      refine XS.icmpYes X0.here hx rfl (pc0 := 12) (pc' := 68) rfl (hb hby d9_12) rfl (tlt (by decide : (0 : Int32) < (1 : Int32))).2.2.1 (by decide) (by decide) ?_
      refine XS.iload X0.here hx rfl (hb hby d9_68) rfl ?_
      refine XS.iconst X0.here hx rfl (hb hby d9_70) ?_
      show Steps p.tables e below (s₁.setTop (mkF m 71 #[.val (.ref a1), .val (.int (0 : Int32)), .val (.int (1 : Int32)), .val (.long q4), .second, .val (.int (1 : Int32)), .val (.int (0 : Int32)), .val (.int (0 : Int32)), .val (.long x0), .second] [(.int (1 : Int32)), (.int (1 : Int32))])) _
      refine XS.iadd X0.here hx rfl (hb hby d9_71) rfl ?_
      refine XS.ineg X0.here hx rfl (hb hby d9_72) rfl ?_
      exact kt)
    have ev : r = (-2 : Int32) := er.symm.trans (if_pos hc252)
    exact own_retI X0 hx Bd.notSynchronized Bd.returns (hb hby d9_73) pre255 (show QBs r h0 n0 _ _ _ from ⟨by rw [ev], N0, e0⟩) (by decide) (by decide)
  case neg =>
    have pre253 : ∀ t, Steps p.tables e below (s₁.setTop (mkF m 50 #[.val (.ref a1), .val (.int (0 : Int32)), .val (.int (1 : Int32)), .val (.long q4), .second, .val (.int (0 : Int32)), .val (.int (0 : Int32)), .val (.int (0 : Int32)), .val (.long x0), .second] [(.int (lcmpW x0 q4))])) t → Steps p.tables e below (s₁.setTop (entryFrame m #[(.ref a1), (.int (0 : Int32)), (.int (1 : Int32)), (.long q4)] 10)) t := fun t kt => pre251 t (by
      show Steps p.tables e below (s₁.setTop (mkF m 34 #[.val (.ref a1), .val (.int (0 : Int32)), .val (.int (1 : Int32)), .val (.long q4), .second, .val (.int (0 : Int32)), .val (.int (0 : Int32)), .val (.int (0 : Int32)), .val (.long x0), .second] [(.int (lcmpW x0 q4))])) _
      refine XS.ifYes X0.here hx rfl (pc0 := 34) (pc' := 46) rfl (hb hby d9_34) rfl ((if0 _ _).trans (flt (fun q => hc252 ((lw_lt _ _).mp q))).2.1) (by decide) (by decide) ?_
      refine XS.lload X0.here hx rfl (hb hby d9_46) rfl ?_
      refine XS.lloadN X0.here hx rfl (hb hby d9_48) rfl ?_
      refine XS.lcmp X0.here hx rfl (hb hby d9_49) rfl ?_
      exact kt)
    by_cases hc254 : q4 < x0
    case pos =>
      have pre256 : ∀ t, Steps p.tables e below (s₁.setTop (mkF m 73 #[.val (.ref a1), .val (.int (0 : Int32)), .val (.int (1 : Int32)), .val (.long q4), .second, .val (.int (0 : Int32)), .val (.int (-1 : Int32)), .val (.int (0 : Int32)), .val (.long x0), .second] [(.int (-1 : Int32))])) t → Steps p.tables e below (s₁.setTop (entryFrame m #[(.ref a1), (.int (0 : Int32)), (.int (1 : Int32)), (.long q4)] 10)) t := fun t kt => pre253 t (by
        show Steps p.tables e below (s₁.setTop (mkF m 50 #[.val (.ref a1), .val (.int (0 : Int32)), .val (.int (1 : Int32)), .val (.long q4), .second, .val (.int (0 : Int32)), .val (.int (0 : Int32)), .val (.int (0 : Int32)), .val (.long x0), .second] [(.int (lcmpW x0 q4))])) _
        refine XS.ifNo X0.here hx rfl (hb hby d9_50) rfl ((if0 _ _).trans (tlt ((lw_gt _ _).mpr hc254)).2.2.2) ?_
        refine XS.iload X0.here hx rfl (hb hby d9_53) rfl ?_
        refine XS.iconst X0.here hx rfl (hb hby d9_55) ?_
        refine XS.isub X0.here hx rfl (hb hby d9_56) rfl ?_
        refine XS.istore X0.here hx rfl (hb hby d9_57) rfl (l' := #[.val (.ref a1), .val (.int (0 : Int32)), .val (.int (1 : Int32)), .val (.long q4), .second, .val (.int (0 : Int32)), .val (.int (-1 : Int32)), .val (.int (0 : Int32)), .val (.long x0), .second]) rfl ?_
        refine XS.goto X0.here hx rfl (pc0 := 59) (pc' := 65) rfl (hb hby d9_59) (by decide) (by decide) ?_
        refine XS.goto X0.here hx rfl (pc0 := 65) (pc' := 8) rfl (hb hby d9_65) (by decide) (by decide) ?_
        refine XS.iload X0.here hx rfl (hb hby d9_8) rfl ?_
        refine XS.iload X0.here hx rfl (hb hby d9_10) rfl ?_
        refine XS.icmpYes X0.here hx rfl (pc0 := 12) (pc' := 68) rfl (hb hby d9_12) rfl (tlt (by decide : (-1 : Int32) < (0 : Int32))).2.2.1 (by decide) (by decide) ?_
        refine XS.iload X0.here hx rfl (hb hby d9_68) rfl ?_
        refine XS.iconst X0.here hx rfl (hb hby d9_70) ?_
        show Steps p.tables e below (s₁.setTop (mkF m 71 #[.val (.ref a1), .val (.int (0 : Int32)), .val (.int (1 : Int32)), .val (.long q4), .second, .val (.int (0 : Int32)), .val (.int (-1 : Int32)), .val (.int (0 : Int32)), .val (.long x0), .second] [(.int (1 : Int32)), (.int (0 : Int32))])) _
        refine XS.iadd X0.here hx rfl (hb hby d9_71) rfl ?_
        refine XS.ineg X0.here hx rfl (hb hby d9_72) rfl ?_
        exact kt)
      have ev : r = (-1 : Int32) := er.symm.trans ((if_neg hc252).trans (if_pos hc254))
      exact own_retI X0 hx Bd.notSynchronized Bd.returns (hb hby d9_73) pre256 (show QBs r h0 n0 _ _ _ from ⟨by rw [ev], N0, e0⟩) (by decide) (by decide)
    case neg =>
      have pre257 : ∀ t, Steps p.tables e below (s₁.setTop (mkF m 64 #[.val (.ref a1), .val (.int (0 : Int32)), .val (.int (1 : Int32)), .val (.long q4), .second, .val (.int (0 : Int32)), .val (.int (0 : Int32)), .val (.int (0 : Int32)), .val (.long x0), .second] [(.int (0 : Int32))])) t → Steps p.tables e below (s₁.setTop (entryFrame m #[(.ref a1), (.int (0 : Int32)), (.int (1 : Int32)), (.long q4)] 10)) t := fun t kt => pre253 t (by
        show Steps p.tables e below (s₁.setTop (mkF m 50 #[.val (.ref a1), .val (.int (0 : Int32)), .val (.int (1 : Int32)), .val (.long q4), .second, .val (.int (0 : Int32)), .val (.int (0 : Int32)), .val (.int (0 : Int32)), .val (.long x0), .second] [(.int (lcmpW x0 q4))])) _
        refine XS.ifYes X0.here hx rfl (pc0 := 50) (pc' := 62) rfl (hb hby d9_50) rfl ((if0 _ _).trans (flt (fun q => hc254 ((lw_gt _ _).mp q))).2.2.2) (by decide) (by decide) ?_
        refine XS.iload X0.here hx rfl (hb hby d9_62) rfl ?_
        exact kt)
      have ev : r = (0 : Int32) := er.symm.trans ((if_neg hc252).trans (if_neg hc254))
      exact own_retI X0 hx Bd.notSynchronized Bd.returns (hb hby d9_64) pre257 (show QBs r h0 n0 _ _ _ from ⟨by rw [ev], N0, e0⟩) (by decide) (by decide)
abbrev own_y_188 : MethodName := (⟨"java/util/Arrays", "rangeCheck", "(III)V"⟩ : MethodName)
theorem ef_189 (m : MethodId) (x0 : Int32) (x1 : Int32) (x2 : Int32) : entryFrame m #[(.int x0), (.int x1), (.int x2)] 3 = mkF m 0 #[.val (.int x0), .val (.int x1), .val (.int x2)] [] := by first | (simp [entryFrame, mkF, argsToLocals, Value.category]; done) | rfl
theorem d8_0 : decode jdk_65_method_30_code 0 = .ok (.iload_n 1, 1) := by decide +kernel
theorem d8_1 : decode jdk_65_method_30_code 1 = .ok (.iload_n 2, 1) := by decide +kernel
theorem d8_2 : decode jdk_65_method_30_code 2 = .ok (.if_icmp .le 44, 3) := by decide +kernel
theorem d8_46 : decode jdk_65_method_30_code 46 = .ok (.iload_n 1, 1) := by decide +kernel
theorem d8_47 : decode jdk_65_method_30_code 47 = .ok (.ifCond .ge 12, 3) := by decide +kernel
theorem d8_59 : decode jdk_65_method_30_code 59 = .ok (.iload_n 2, 1) := by decide +kernel
theorem d8_60 : decode jdk_65_method_30_code 60 = .ok (.iload_n 0, 1) := by decide +kernel
theorem d8_61 : decode jdk_65_method_30_code 61 = .ok (.if_icmp .le 12, 3) := by decide +kernel
theorem d8_73 : decode jdk_65_method_30_code 73 = .ok (.return_, 1) := by decide +kernel
def QRc (h0 : Heap) (n0 : Nat) (v : Option Value) (h : Heap) (L : List Loc) : Prop := v = none ∧ Fr n0 L ∧ h = h0
set_option maxRecDepth 65536 in
set_option maxHeartbeats 40000000 in
theorem rmRcBs012 (l : Launch) (Z : State) (a0 : Array Value) (hw : ∀ d ∈ tables_1, d.before a0 Z = true) (ws : List Jvm.Cond)  (h0 : Heap) (n0 : Nat) (Z0 : n0 ≤ h0.size) :
    MetFree l own_y_188 (head1 (Jvm.Cond.code own_y_188 jdk_65_method_30_code 3 none :: ws) ({ frames := 0, cells := 0, slots := 0, locals := 0 } : Room)) (fun a U => a = #[(.int (2 : Int32)), (.int (0 : Int32)), (.int (1 : Int32))] ∧ Z.Warmed39 U.vm ∧ U.heap = h0) (fun _ _ _ _ _ => True) (fun _ U o U' => ∃ v L, o = .returned v ∧ QRc h0 n0 v U'.heap L ∧ FrameEnd U o U' L ({ frames := 0, cells := 0, slots := 0, locals := 0 } : Room).cells ({ frames := 0, cells := 0, slots := 0, locals := 0 } : Room).slots) := by
  refine MetFree.of_bodySF (plainFor_of_name pn_187) hisR ?_
  intro p e s m args below meth c s₁ Bd hml0 hP hK
  obtain ⟨rfl, hZ, hh⟩ := hP
  have hx := Bd.exec
  have hby := Bd.bytes
  have hml : c.maxLocals = 3 := hml0
  have hown : s.vm.findClass "java/util/Arrays" = some m.cls := findClass_of_methodNamed Bd.named
  have hnm := (name_of_methodNamed Bd.named Bd.method).1
  have X0 : Stand p l e ({ frames := 0, cells := 0, slots := 0, locals := 0 } : Room) s m #[(.int (2 : Int32)), (.int (0 : Int32)), (.int (1 : Int32))] below meth c s₁ [] 0 0 := Stand.of_body Bd
  have e0 : s₁.heap = h0 := by rw [← hh, Bd.state]; rfl
  have N0 := Fr.nil n0
  have pre0 : ∀ t, Steps p.tables e below (s₁.setTop (mkF m 0 #[.val (.int (2 : Int32)), .val (.int (0 : Int32)), .val (.int (1 : Int32))] [])) t → Steps p.tables e below (s₁.setTop (entryFrame m #[(.int (2 : Int32)), (.int (0 : Int32)), (.int (1 : Int32))] 3)) t := fun t k => castTop (ef_189 m (2 : Int32) (0 : Int32) (1 : Int32)) k
  have pre258 : ∀ t, Steps p.tables e below (s₁.setTop (mkF m 73 #[.val (.int (2 : Int32)), .val (.int (0 : Int32)), .val (.int (1 : Int32))] [])) t → Steps p.tables e below (s₁.setTop (entryFrame m #[(.int (2 : Int32)), (.int (0 : Int32)), (.int (1 : Int32))] 3)) t := fun t kt => pre0 t (by
    show Steps p.tables e below (s₁.setTop (mkF m 0 #[.val (.int (2 : Int32)), .val (.int (0 : Int32)), .val (.int (1 : Int32))] [])) _
    refine XS.iloadN X0.here hx rfl (hb hby d8_0) rfl ?_
    refine XS.iloadN X0.here hx rfl (hb hby d8_1) rfl ?_
    refine XS.icmpYes X0.here hx rfl (pc0 := 2) (pc' := 46) rfl (hb hby d8_2) rfl (flt (by decide : ¬ ((1 : Int32) < (0 : Int32)))).2.2.2 (by decide) (by decide) ?_
    refine XS.iloadN X0.here hx rfl (hb hby d8_46) rfl ?_
    refine XS.ifYes X0.here hx rfl (pc0 := 47) (pc' := 59) rfl (hb hby d8_47) rfl ((if0 _ _).trans (flt (by decide : ¬ ((0 : Int32) < (0 : Int32)))).2.1) (by decide) (by decide) ?_
    refine XS.iloadN X0.here hx rfl (hb hby d8_59) rfl ?_
    refine XS.iloadN X0.here hx rfl (hb hby d8_60) rfl ?_
    refine XS.icmpYes X0.here hx rfl (pc0 := 61) (pc' := 73) rfl (hb hby d8_61) rfl (flt (by decide : ¬ ((2 : Int32) < (1 : Int32)))).2.2.2 (by decide) (by decide) ?_
    exact kt)
  exact own_retV X0 hx Bd.notSynchronized Bd.returns (hb hby d8_73) pre258 (show QRc h0 n0 _ _ _ from ⟨rfl, N0, e0⟩) (by decide) (by decide)
abbrev own_y_199 : MethodName := (⟨"java/util/Arrays", "binarySearch", "([JIIJ)I"⟩ : MethodName)
theorem ef_200 (m : MethodId) (x0 : Addr) (x1 : Int32) (x2 : Int32) (x3 : Int64) : entryFrame m #[(.ref x0), (.int x1), (.int x2), (.long x3)] 5 = mkF m 0 #[.val (.ref x0), .val (.int x1), .val (.int x2), .val (.long x3), .second] [] := by first | (simp [entryFrame, mkF, argsToLocals, Value.category]; done) | rfl
theorem d7_0 : decode jdk_65_method_55_code 0 = .ok (.aload_n 0, 1) := by decide +kernel
theorem d7_1 : decode jdk_65_method_55_code 1 = .ok (.arraylength, 1) := by decide +kernel
theorem d7_2 : decode jdk_65_method_55_code 2 = .ok (.iload_n 1, 1) := by decide +kernel
theorem d7_3 : decode jdk_65_method_55_code 3 = .ok (.iload_n 2, 1) := by decide +kernel
theorem d7_4 : decode jdk_65_method_55_code 4 = .ok (.invokestatic 13, 3) := by decide +kernel
theorem pd_206 : parseMethodDescriptor "(III)V" = some ⟨[.int, .int, .int], none⟩ := by decide +kernel
theorem d7_7 : decode jdk_65_method_55_code 7 = .ok (.aload_n 0, 1) := by decide +kernel
theorem d7_8 : decode jdk_65_method_55_code 8 = .ok (.iload_n 1, 1) := by decide +kernel
theorem d7_9 : decode jdk_65_method_55_code 9 = .ok (.iload_n 2, 1) := by decide +kernel
theorem d7_10 : decode jdk_65_method_55_code 10 = .ok (.lload_n 3, 1) := by decide +kernel
theorem d7_11 : decode jdk_65_method_55_code 11 = .ok (.invokestatic 205, 3) := by decide +kernel
theorem pd_212 : parseMethodDescriptor "([JIIJ)I" = some ⟨[(.array .long), .int, .int, .long], some .int⟩ := by decide +kernel
theorem d7_14 : decode jdk_65_method_55_code 14 = .ok (.ireturn, 1) := by decide +kernel
set_option maxRecDepth 65536 in
set_option maxHeartbeats 40000000 in
theorem rmSBs012 (l : Launch) (Z : State) (a0 : Array Value) (hw : ∀ d ∈ tables_1, d.before a0 Z = true) (ws : List Jvm.Cond) (a1 : Addr) (q4 : Int64) (k0 : ClassId) (x0 : Int64) (x1 : Int64) (r : Int32) (h0 : Heap) (n0 : Nat) (Z0 : n0 ≤ h0.size) (V0 : Arv Z h0 a1 k0 .long (2 : Int32) [(.long x0), (.long x1)] (.long (0 : Int64))) (er : (if x0 < q4 then (-2 : Int32) else (if q4 < x0 then (-1 : Int32) else (0 : Int32))) = r) :
    MetFree l own_y_199 (head1 (Jvm.Cond.code own_y_199 jdk_65_method_55_code 5 (some .int) :: ws) ({ frames := 1, cells := 0, slots := 0, locals := 21 } : Room)) (fun a U => a = #[(.ref a1), (.int (0 : Int32)), (.int (1 : Int32)), (.long q4)] ∧ Z.Warmed39 U.vm ∧ U.heap = h0) (fun _ _ _ _ _ => True) (fun _ U o U' => ∃ v L, o = .returned v ∧ QBs r h0 n0 v U'.heap L ∧ FrameEnd U o U' L ({ frames := 1, cells := 0, slots := 0, locals := 21 } : Room).cells ({ frames := 1, cells := 0, slots := 0, locals := 21 } : Room).slots) := by
  refine MetFree.of_bodySF (plainFor_of_name pn_187) hisR ?_
  intro p e s m args below meth c s₁ Bd hml0 hP hK
  obtain ⟨rfl, hZ, hh⟩ := hP
  have hx := Bd.exec
  have hby := Bd.bytes
  have hml : c.maxLocals = 5 := hml0
  have hown : s.vm.findClass "java/util/Arrays" = some m.cls := findClass_of_methodNamed Bd.named
  have hnm := (name_of_methodNamed Bd.named Bd.method).1
  have X0 : Stand p l e ({ frames := 1, cells := 0, slots := 0, locals := 21 } : Room) s m #[(.ref a1), (.int (0 : Int32)), (.int (1 : Int32)), (.long q4)] below meth c s₁ [] 0 0 := Stand.of_body Bd
  have e0 : s₁.heap = h0 := by rw [← hh, Bd.state]; rfl
  have N0 := Fr.nil n0
  have pre0 : ∀ t, Steps p.tables e below (s₁.setTop (mkF m 0 #[.val (.ref a1), .val (.int (0 : Int32)), .val (.int (1 : Int32)), .val (.long q4), .second] [])) t → Steps p.tables e below (s₁.setTop (entryFrame m #[(.ref a1), (.int (0 : Int32)), (.int (1 : Int32)), (.long q4)] 5)) t := fun t k => castTop (ef_200 m a1 (0 : Int32) (1 : Int32) q4) k
  obtain ⟨cl259, A259, q259, S259, M259, H259, J259⟩ := id V0
  obtain ⟨_, _, ⟨T260, L260, k260, n260⟩, -, X260, ⟨Lc260, hQ260, l260, y260, z260⟩, st260⟩ := Jvm.LawKit.callS X0 hx (y := own_y_188) hown (mvT hZ (own_w hw 49 rfl)) (mvT hZ (own_w hw 50 rfl)) (mvT hZ (own_w hw 47 rfl)) (mvT hZ (own_w hw 51 rfl)) (by decide) (backOf (W := 0) (rmRcBs012 l Z a0 hw [] h0 n0 Z0) hZ (own_w hw 51 rfl) (own_w hw 47 rfl) (by decide) (by decide)) (g := (mkF m 4 #[.val (.ref a1), .val (.int (0 : Int32)), .val (.int (1 : Int32)), .val (.long q4), .second] [(.int (1 : Int32)), (.int (0 : Int32)), (.int (2 : Int32))])) rfl (by rw [hml]; rfl) (argsL := [(.int (2 : Int32)), (.int (0 : Int32)), (.int (1 : Int32))]) (rest := []) (lenOf pd_206 rfl) rfl (by show 2 * 0 + _ ≤ _; exact Nat.le_of_eq rfl) (hb hby d7_4) (fun _ _ => ⟨rfl, e0, (by decide : 0 + 0 ≤ _), (by decide : 0 + 0 ≤ _)⟩)
  dsimp only [Pt.U, Pt.locs, Pt.cells, Pt.slots] at X260 l260 y260 z260 st260 hQ260
  subst l260 y260 z260
  obtain ⟨rfl, Nq260, e260⟩ := hQ260
  have N260 := Fr.app N0 Nq260
  obtain ⟨_, _, ⟨T261, L261, k261, n261⟩, -, X261, ⟨Lc261, hQ261, l261, y261, z261⟩, st261⟩ := Jvm.LawKit.callS X260 hx (y := own_y_185) hown (mvT hZ (own_w hw 52 rfl)) (mvT hZ (own_w hw 53 rfl)) (mvT hZ (own_w hw 47 rfl)) (mvT hZ (own_w hw 54 rfl)) (by decide) (backOf (W := 0) (rmBs012 l Z a0 hw [] a1 q4 k0 x0 x1 r h0 n0 Z0 V0 er) hZ (own_w hw 54 rfl) (own_w hw 47 rfl) (by decide) (by decide)) (g := (mkF m 11 #[.val (.ref a1), .val (.int (0 : Int32)), .val (.int (1 : Int32)), .val (.long q4), .second] [(.long q4), (.int (1 : Int32)), (.int (0 : Int32)), (.ref a1)])) rfl (by rw [hml]; rfl) (argsL := [(.ref a1), (.int (0 : Int32)), (.int (1 : Int32)), (.long q4)]) (rest := []) (lenOf pd_212 rfl) rfl (by show 2 * 0 + _ ≤ _; exact Nat.le_of_eq rfl) (hb hby d7_11) (fun _ _ => ⟨rfl, e260, (by decide : 0 + 0 ≤ _), (by decide : 0 + 0 ≤ _)⟩)
  dsimp only [Pt.U, Pt.locs, Pt.cells, Pt.slots] at X261 l261 y261 z261 st261 hQ261
  subst l261 y261 z261
  obtain ⟨rfl, Nq261, e261⟩ := hQ261
  have N261 := Fr.app N260 Nq261
  have pre262 : ∀ t, Steps p.tables e below (T261.setTop (mkF m 14 #[.val (.ref a1), .val (.int (0 : Int32)), .val (.int (1 : Int32)), .val (.long q4), .second] [(.int r)])) t → Steps p.tables e below (s₁.setTop (entryFrame m #[(.ref a1), (.int (0 : Int32)), (.int (1 : Int32)), (.long q4)] 5)) t := fun t kt => pre0 t (by
    show Steps p.tables e below (s₁.setTop (mkF m 0 #[.val (.ref a1), .val (.int (0 : Int32)), .val (.int (1 : Int32)), .val (.long q4), .second] [])) _
    refine XS.aloadN X0.here hx rfl (hb hby d7_0) rfl rfl ?_
    refine X0.arraylength hx (by rw [e0]; exact A259.1) (State.isArrayOf_alike hZ.alike A259.2.1) (g := (mkF m 1 #[.val (.ref a1), .val (.int (0 : Int32)), .val (.int (1 : Int32)), .val (.long q4), .second] [(.ref a1)])) rfl rfl (hb hby d7_1) _ ?_
    rw [len_of S259 M259]
    refine XS.iloadN X0.here hx rfl (hb hby d7_2) rfl ?_
    refine XS.iloadN X0.here hx rfl (hb hby d7_3) rfl ?_
    refine st260 _ ?_
    refine XS.aloadN X260.here hx rfl (hb hby d7_7) rfl rfl ?_
    refine XS.iloadN X260.here hx rfl (hb hby d7_8) rfl ?_
    refine XS.iloadN X260.here hx rfl (hb hby d7_9) rfl ?_
    refine XS.lloadN X260.here hx rfl (hb hby d7_10) rfl ?_
    refine st261 _ ?_
    exact kt)
  exact own_retI X261 hx Bd.notSynchronized Bd.returns (hb hby d7_14) pre262 (show QBs r h0 n0 _ _ _ from ⟨rfl, N261, e261⟩) (by decide) (by decide)
theorem d6_13 : decode prog_25_method_3_code 13 = .ok (.aload_n 0, 1) := by decide +kernel
theorem d6_14 : decode prog_25_method_3_code 14 = .ok (.getfield 9, 3) := by decide +kernel
theorem d6_17 : decode prog_25_method_3_code 17 = .ok (.aload_n 0, 1) := by decide +kernel
theorem d6_18 : decode prog_25_method_3_code 18 = .ok (.getfield 17, 3) := by decide +kernel
theorem d6_21 : decode prog_25_method_3_code 21 = .ok (.aload_n 0, 1) := by decide +kernel
theorem d6_22 : decode prog_25_method_3_code 22 = .ok (.getfield 21, 3) := by decide +kernel
theorem d6_25 : decode prog_25_method_3_code 25 = .ok (.lload_n 1, 1) := by decide +kernel
theorem d6_26 : decode prog_25_method_3_code 26 = .ok (.invokestatic 30, 3) := by decide +kernel
theorem d6_29 : decode prog_25_method_3_code 29 = .ok (.istore_n 3, 1) := by decide +kernel
theorem d6_30 : decode prog_25_method_3_code 30 = .ok (.iload_n 3, 1) := by decide +kernel
theorem d6_31 : decode prog_25_method_3_code 31 = .ok (.ifCond .lt 7, 3) := by decide +kernel
theorem d6_38 : decode prog_25_method_3_code 38 = .ok (.iload_n 3, 1) := by decide +kernel
theorem d6_39 : decode prog_25_method_3_code 39 = .ok (.ineg, 1) := by decide +kernel
theorem d6_40 : decode prog_25_method_3_code 40 = .ok (.iconst 1, 1) := by decide +kernel
theorem d6_41 : decode prog_25_method_3_code 41 = .ok (.isub, 1) := by decide +kernel
theorem d6_42 : decode prog_25_method_3_code 42 = .ok (.iconst 1, 1) := by decide +kernel
theorem d6_43 : decode prog_25_method_3_code 43 = .ok (.isub, 1) := by decide +kernel
theorem d6_44 : decode prog_25_method_3_code 44 = .ok (.istore 4, 2) := by decide +kernel
theorem d6_46 : decode prog_25_method_3_code 46 = .ok (.iload 4, 2) := by decide +kernel
theorem d6_48 : decode prog_25_method_3_code 48 = .ok (.aload_n 0, 1) := by decide +kernel
theorem d6_49 : decode prog_25_method_3_code 49 = .ok (.getfield 17, 3) := by decide +kernel
theorem d6_52 : decode prog_25_method_3_code 52 = .ok (.if_icmp .ge 10, 3) := by decide +kernel
theorem d6_62 : decode prog_25_method_3_code 62 = .ok (.aload_n 0, 1) := by decide +kernel
theorem d6_63 : decode prog_25_method_3_code 63 = .ok (.getfield 13, 3) := by decide +kernel
theorem d6_66 : decode prog_25_method_3_code 66 = .ok (.iload 4, 2) := by decide +kernel
theorem d6_68 : decode prog_25_method_3_code 68 = .ok (.iaload, 1) := by decide +kernel
theorem d6_69 : decode prog_25_method_3_code 69 = .ok (.istore 5, 2) := by decide +kernel
theorem d6_71 : decode prog_25_method_3_code 71 = .ok (.aload_n 0, 1) := by decide +kernel
theorem d6_72 : decode prog_25_method_3_code 72 = .ok (.getfield 13, 3) := by decide +kernel
theorem d6_75 : decode prog_25_method_3_code 75 = .ok (.aload_n 0, 1) := by decide +kernel
theorem d6_76 : decode prog_25_method_3_code 76 = .ok (.getfield 21, 3) := by decide +kernel
theorem d6_79 : decode prog_25_method_3_code 79 = .ok (.iconst 1, 1) := by decide +kernel
theorem d6_80 : decode prog_25_method_3_code 80 = .ok (.isub, 1) := by decide +kernel
theorem d6_81 : decode prog_25_method_3_code 81 = .ok (.iaload, 1) := by decide +kernel
theorem d6_82 : decode prog_25_method_3_code 82 = .ok (.iload 5, 2) := by decide +kernel
theorem d6_84 : decode prog_25_method_3_code 84 = .ok (.isub, 1) := by decide +kernel
theorem d6_85 : decode prog_25_method_3_code 85 = .ok (.ireturn, 1) := by decide +kernel
theorem d6_55 : decode prog_25_method_3_code 55 = .ok (.aload_n 0, 1) := by decide +kernel
theorem d6_56 : decode prog_25_method_3_code 56 = .ok (.getfield 24, 3) := by decide +kernel
theorem d6_59 : decode prog_25_method_3_code 59 = .ok (.goto 10, 3) := by decide +kernel
theorem d6_34 : decode prog_25_method_3_code 34 = .ok (.iload_n 3, 1) := by decide +kernel
theorem d6_35 : decode prog_25_method_3_code 35 = .ok (.goto 7, 3) := by decide +kernel
set_option maxRecDepth 65536 in
set_option maxHeartbeats 40000000 in
theorem rmGn012 (l : Launch) (Z : State) (a0 : Array Value) (hw : ∀ d ∈ tables_1, d.before a0 Z = true) (ws : List Jvm.Cond) (a1 : Addr) (q2 : Int64) (x0 : Int64) (x1 : Int64) (y0 : Int32) (y1 : Int32) (b : Int32) (h0 : Heap) (n0 : Nat) (Z0 : n0 ≤ h0.size) (P0 : PT Z h0 n0 a1 (0 : Int32) (1 : Int32) (2 : Int32) [(.long x0), (.long x1)] [(.int y0), (.int y1)] b) :
    MetFree l own_y_46 (head1 (Jvm.Cond.code own_y_46 prog_25_method_3_code 6 (some .int) :: ws) ({ frames := 2, cells := 0, slots := 0, locals := 60 } : Room)) (fun a U => a = #[(.ref a1), (.long q2)] ∧ Z.Warmed39 U.vm ∧ U.heap = h0) (fun _ _ _ _ _ => True) (fun _ U o U' => ∃ v L, o = .returned v ∧ QRi (y0 - (if x0 < q2 then y0 else b)) h0 n0 v U'.heap L ∧ FrameEnd U o U' L ({ frames := 2, cells := 0, slots := 0, locals := 60 } : Room).cells ({ frames := 2, cells := 0, slots := 0, locals := 60 } : Room).slots) := by
  refine MetFree.of_bodySF (plainFor_of_name pn_2) hisR ?_
  intro p e s m args below meth c s₁ Bd hml0 hP hK
  obtain ⟨rfl, hZ, hh⟩ := hP
  have hx := Bd.exec
  have hby := Bd.bytes
  have hml : c.maxLocals = 6 := hml0
  have hown : s.vm.findClass "com/example/viral_counter/viralcounter/PostTrend" = some m.cls := findClass_of_methodNamed Bd.named
  have hnm := (name_of_methodNamed Bd.named Bd.method).1
  have X0 : Stand p l e ({ frames := 2, cells := 0, slots := 0, locals := 60 } : Room) s m #[(.ref a1), (.long q2)] below meth c s₁ [] 0 0 := Stand.of_body Bd
  have e0 : s₁.heap = h0 := by rw [← hh, Bd.state]; rfl
  have N0 := Fr.nil n0
  have pre0 : ∀ t, Steps p.tables e below (s₁.setTop (mkF m 0 #[.val (.ref a1), .val (.long q2), .second, .unset, .unset, .unset] [])) t → Steps p.tables e below (s₁.setTop (entryFrame m #[(.ref a1), (.long q2)] 6)) t := fun t k => castTop (ef_47 m a1 q2) k
  obtain ⟨am263, ac263, km263, kc263, E263, Fm263, Fc263, Ff263, Fe263, Fb263, Vm263, Vc263, Ga263, Gm263, Gc263, n1263, n2263, n3263⟩ := id P0
  obtain ⟨T264, X264, e264, st264⟩ := getF X0 hx hZ hown (host := "") (Or.inl (own_w hw 23 rfl)) Via.refl e0 Ff263 (g := (mkF m 1 #[.val (.ref a1), .val (.long q2), .second, .unset, .unset, .unset] [(.ref a1)])) rfl rfl (hb hby d6_1)
  obtain ⟨T265, X265, e265, st265⟩ := getF X264 hx hZ hown (host := "") (Or.inl (own_w hw 25 rfl)) Via.refl e264 Fe263 (g := (mkF m 5 #[.val (.ref a1), .val (.long q2), .second, .unset, .unset, .unset] [(.ref a1), (.int (0 : Int32))])) rfl rfl (hb hby d6_5)
  obtain ⟨T266, X266, e266, st266⟩ := getF X265 hx hZ hown (host := "") (Or.inl (own_w hw 13 rfl)) Via.refl e265 Fm263 (g := (mkF m 14 #[.val (.ref a1), .val (.long q2), .second, .unset, .unset, .unset] [(.ref a1)])) rfl rfl (hb hby d6_14)
  obtain ⟨T267, X267, e267, st267⟩ := getF X266 hx hZ hown (host := "") (Or.inl (own_w hw 23 rfl)) Via.refl e266 Ff263 (g := (mkF m 18 #[.val (.ref a1), .val (.long q2), .second, .unset, .unset, .unset] [(.ref a1), (.ref am263)])) rfl rfl (hb hby d6_18)
  obtain ⟨T268, X268, e268, st268⟩ := getF X267 hx hZ hown (host := "") (Or.inl (own_w hw 25 rfl)) Via.refl e267 Fe263 (g := (mkF m 22 #[.val (.ref a1), .val (.long q2), .second, .unset, .unset, .unset] [(.ref a1), (.int (0 : Int32)), (.ref am263)])) rfl rfl (hb hby d6_22)
  have pre269 : ∀ t, Steps p.tables e below (T268.setTop (mkF m 26 #[.val (.ref a1), .val (.long q2), .second, .unset, .unset, .unset] [(.long q2), (.int (1 : Int32)), (.int (0 : Int32)), (.ref am263)])) t → Steps p.tables e below (s₁.setTop (entryFrame m #[(.ref a1), (.long q2)] 6)) t := fun t kt => pre0 t (by
    show Steps p.tables e below (s₁.setTop (mkF m 0 #[.val (.ref a1), .val (.long q2), .second, .unset, .unset, .unset] [])) _
    refine XS.aloadN X0.here hx rfl (hb hby d6_0) rfl rfl ?_
    refine st264 _ ?_
    refine XS.aloadN X264.here hx rfl (hb hby d6_4) rfl rfl ?_
    refine st265 _ ?_
    refine XS.icmpYes X265.here hx rfl (pc0 := 8) (pc' := 13) rfl (hb hby d6_8) rfl (feq (by decide : ¬ ((0 : Int32) = (1 : Int32)))).2 (by decide) (by decide) ?_
    refine XS.aloadN X265.here hx rfl (hb hby d6_13) rfl rfl ?_
    refine st266 _ ?_
    refine XS.aloadN X266.here hx rfl (hb hby d6_17) rfl rfl ?_
    refine st267 _ ?_
    refine XS.aloadN X267.here hx rfl (hb hby d6_21) rfl rfl ?_
    refine st268 _ ?_
    refine XS.lloadN X268.here hx rfl (hb hby d6_25) rfl ?_
    exact kt)
  by_cases hc270 : x0 < q2
  case pos =>
    obtain ⟨_, _, ⟨T271, L271, k271, n271⟩, -, X271, ⟨Lc271, hQ271, l271, y271, z271⟩, st271⟩ := Jvm.LawKit.callS X268 hx (y := own_y_199) hown (mvT hZ (own_w hw 45 rfl)) (mvT hZ (own_w hw 46 rfl)) (mvT hZ (own_w hw 47 rfl)) (mvT hZ (own_w hw 48 rfl)) (by decide) (backOf (W := 0) (rmSBs012 l Z a0 hw [] am263 q2 km263 x0 x1 (-2 : Int32) h0 n0 Z0 Vm263 (if_pos hc270)) hZ (own_w hw 48 rfl) (own_w hw 47 rfl) (by decide) (by decide)) (g := (mkF m 26 #[.val (.ref a1), .val (.long q2), .second, .unset, .unset, .unset] [(.long q2), (.int (1 : Int32)), (.int (0 : Int32)), (.ref am263)])) rfl (by rw [hml]; rfl) (argsL := [(.ref am263), (.int (0 : Int32)), (.int (1 : Int32)), (.long q2)]) (rest := []) (lenOf pd_212 rfl) rfl (by show 2 * 0 + _ ≤ _; exact Nat.le_of_eq rfl) (hb hby d6_26) (fun _ _ => ⟨rfl, e268, (by decide : 0 + 0 ≤ _), (by decide : 0 + 0 ≤ _)⟩)
    dsimp only [Pt.U, Pt.locs, Pt.cells, Pt.slots] at X271 l271 y271 z271 st271 hQ271
    subst l271 y271 z271
    obtain ⟨rfl, Nq271, e271⟩ := hQ271
    have N271 := Fr.app N0 Nq271
    obtain ⟨T272, X272, e272, st272⟩ := getF X271 hx hZ hown (host := "") (Or.inl (own_w hw 23 rfl)) Via.refl e271 Ff263 (g := (mkF m 49 #[.val (.ref a1), .val (.long q2), .second, .val (.int (-2 : Int32)), .val (.int (0 : Int32)), .unset] [(.ref a1), (.int (0 : Int32))])) rfl rfl (hb hby d6_49)
    obtain ⟨T273, X273, e273, st273⟩ := getF X272 hx hZ hown (host := "") (Or.inl (own_w hw 16 rfl)) Via.refl e272 Fc263 (g := (mkF m 63 #[.val (.ref a1), .val (.long q2), .second, .val (.int (-2 : Int32)), .val (.int (0 : Int32)), .unset] [(.ref a1)])) rfl rfl (hb hby d6_63)
    obtain ⟨cl274, A274, q274, S274, M274, H274, J274⟩ := id Vc263
    have hin274 : ¬ ((0 : Int32) < 0 ∨ cl274.slots.size ≤ ((0 : Int32)).toNatClampNeg) := inb_of S274 ⟨by decide, by decide⟩
    have hat274 : cl274.slots[((0 : Int32)).toNatClampNeg]? = some (.int y0) := H274.at hin274 rfl
    obtain ⟨T275, X275, e275, st275⟩ := getF X273 hx hZ hown (host := "") (Or.inl (own_w hw 16 rfl)) Via.refl e273 Fc263 (g := (mkF m 72 #[.val (.ref a1), .val (.long q2), .second, .val (.int (-2 : Int32)), .val (.int (0 : Int32)), .val (.int y0)] [(.ref a1)])) rfl rfl (hb hby d6_72)
    obtain ⟨T276, X276, e276, st276⟩ := getF X275 hx hZ hown (host := "") (Or.inl (own_w hw 25 rfl)) Via.refl e275 Fe263 (g := (mkF m 76 #[.val (.ref a1), .val (.long q2), .second, .val (.int (-2 : Int32)), .val (.int (0 : Int32)), .val (.int y0)] [(.ref a1), (.ref ac263)])) rfl rfl (hb hby d6_76)
    obtain ⟨cl277, A277, q277, S277, M277, H277, J277⟩ := id Vc263
    have hin277 : ¬ ((0 : Int32) < 0 ∨ cl277.slots.size ≤ ((0 : Int32)).toNatClampNeg) := inb_of S277 ⟨by decide, by decide⟩
    have hat277 : cl277.slots[((0 : Int32)).toNatClampNeg]? = some (.int y0) := H277.at hin277 rfl
    have pre278 : ∀ t, Steps p.tables e below (T276.setTop (mkF m 85 #[.val (.ref a1), .val (.long q2), .second, .val (.int (-2 : Int32)), .val (.int (0 : Int32)), .val (.int y0)] [(.int (y0 - y0))])) t → Steps p.tables e below (s₁.setTop (entryFrame m #[(.ref a1), (.long q2)] 6)) t := fun t kt => pre269 t (by
      show Steps p.tables e below (T268.setTop (mkF m 26 #[.val (.ref a1), .val (.long q2), .second, .unset, .unset, .unset] [(.long q2), (.int (1 : Int32)), (.int (0 : Int32)), (.ref am263)])) _
      refine st271 _ ?_
      refine XS.istoreN X271.here hx rfl (hb hby d6_29) rfl (l' := #[.val (.ref a1), .val (.long q2), .second, .val (.int (-2 : Int32)), .unset, .unset]) rfl ?_
      refine XS.iloadN X271.here hx rfl (hb hby d6_30) rfl ?_
      refine XS.ifYes X271.here hx rfl (pc0 := 31) (pc' := 38) rfl (hb hby d6_31) rfl ((if0 _ _).trans (tlt (by decide : (-2 : Int32) < (0 : Int32))).1) (by decide) (by decide) ?_
      refine XS.iloadN X271.here hx rfl (hb hby d6_38) rfl ?_
      refine XS.ineg X271.here hx rfl (hb hby d6_39) rfl ?_
      refine XS.iconst X271.here hx rfl (hb hby d6_40) ?_
      refine XS.isub X271.here hx rfl (hb hby d6_41) rfl ?_
      refine XS.iconst X271.here hx rfl (hb hby d6_42) ?_
      refine XS.isub X271.here hx rfl (hb hby d6_43) rfl ?_
      refine XS.istore X271.here hx rfl (hb hby d6_44) rfl (l' := #[.val (.ref a1), .val (.long q2), .second, .val (.int (-2 : Int32)), .val (.int (0 : Int32)), .unset]) rfl ?_
      refine XS.iload X271.here hx rfl (hb hby d6_46) rfl ?_
      show Steps p.tables e below (T271.setTop (mkF m 48 #[.val (.ref a1), .val (.long q2), .second, .val (.int (-2 : Int32)), .val (.int (0 : Int32)), .unset] [(.int (0 : Int32))])) _
      refine XS.aloadN X271.here hx rfl (hb hby d6_48) rfl rfl ?_
      refine st272 _ ?_
      refine XS.icmpYes X272.here hx rfl (pc0 := 52) (pc' := 62) rfl (hb hby d6_52) rfl (flt (by decide : ¬ ((0 : Int32) < (0 : Int32)))).2.1 (by decide) (by decide) ?_
      refine XS.aloadN X272.here hx rfl (hb hby d6_62) rfl rfl ?_
      refine st273 _ ?_
      refine XS.iload X273.here hx rfl (hb hby d6_66) rfl ?_
      refine X273.iaload hx (j := (0 : Int32)) (v := (.int y0)) (by rw [e273]; exact A274.1) (State.isArrayOf_alike hZ.alike A274.2.1) A274.2.2 hin274 hat274 (g := (mkF m 68 #[.val (.ref a1), .val (.long q2), .second, .val (.int (-2 : Int32)), .val (.int (0 : Int32)), .unset] [(.int (0 : Int32)), (.ref ac263)])) rfl rfl (hb hby d6_68) _ ?_
      refine XS.istore X273.here hx rfl (hb hby d6_69) rfl (l' := #[.val (.ref a1), .val (.long q2), .second, .val (.int (-2 : Int32)), .val (.int (0 : Int32)), .val (.int y0)]) rfl ?_
      refine XS.aloadN X273.here hx rfl (hb hby d6_71) rfl rfl ?_
      refine st275 _ ?_
      refine XS.aloadN X275.here hx rfl (hb hby d6_75) rfl rfl ?_
      refine st276 _ ?_
      show Steps p.tables e below (T276.setTop (mkF m 79 #[.val (.ref a1), .val (.long q2), .second, .val (.int (-2 : Int32)), .val (.int (0 : Int32)), .val (.int y0)] [(.int (1 : Int32)), (.ref ac263)])) _
      refine XS.iconst X276.here hx rfl (hb hby d6_79) ?_
      refine XS.isub X276.here hx rfl (hb hby d6_80) rfl ?_
      refine X276.iaload hx (j := (0 : Int32)) (v := (.int y0)) (by rw [e276]; exact A277.1) (State.isArrayOf_alike hZ.alike A277.2.1) A277.2.2 hin277 hat277 (g := (mkF m 81 #[.val (.ref a1), .val (.long q2), .second, .val (.int (-2 : Int32)), .val (.int (0 : Int32)), .val (.int y0)] [(.int (0 : Int32)), (.ref ac263)])) rfl rfl (hb hby d6_81) _ ?_
      refine XS.iload X276.here hx rfl (hb hby d6_82) rfl ?_
      refine XS.isub X276.here hx rfl (hb hby d6_84) rfl ?_
      exact kt)
    have lt279 : x0 < q2 := by
      rw [Int64.lt_iff_toInt_lt] at hc270 ⊢
      omega
    have ev : (y0 - (if x0 < q2 then y0 else b)) = (y0 - y0) := congrArg (fun z => y0 - z) (if_pos lt279)
    exact own_retI X276 hx Bd.notSynchronized Bd.returns (hb hby d6_85) pre278 (show QRi (y0 - (if x0 < q2 then y0 else b)) h0 n0 _ _ _ from ⟨by rw [ev], N271, e276⟩) (by decide) (by decide)
  case neg =>
    by_cases hc280 : q2 < x0
    case pos =>
      obtain ⟨_, _, ⟨T281, L281, k281, n281⟩, -, X281, ⟨Lc281, hQ281, l281, y281, z281⟩, st281⟩ := Jvm.LawKit.callS X268 hx (y := own_y_199) hown (mvT hZ (own_w hw 45 rfl)) (mvT hZ (own_w hw 46 rfl)) (mvT hZ (own_w hw 47 rfl)) (mvT hZ (own_w hw 48 rfl)) (by decide) (backOf (W := 0) (rmSBs012 l Z a0 hw [] am263 q2 km263 x0 x1 (-1 : Int32) h0 n0 Z0 Vm263 ((if_neg hc270).trans (if_pos hc280))) hZ (own_w hw 48 rfl) (own_w hw 47 rfl) (by decide) (by decide)) (g := (mkF m 26 #[.val (.ref a1), .val (.long q2), .second, .unset, .unset, .unset] [(.long q2), (.int (1 : Int32)), (.int (0 : Int32)), (.ref am263)])) rfl (by rw [hml]; rfl) (argsL := [(.ref am263), (.int (0 : Int32)), (.int (1 : Int32)), (.long q2)]) (rest := []) (lenOf pd_212 rfl) rfl (by show 2 * 0 + _ ≤ _; exact Nat.le_of_eq rfl) (hb hby d6_26) (fun _ _ => ⟨rfl, e268, (by decide : 0 + 0 ≤ _), (by decide : 0 + 0 ≤ _)⟩)
      dsimp only [Pt.U, Pt.locs, Pt.cells, Pt.slots] at X281 l281 y281 z281 st281 hQ281
      subst l281 y281 z281
      obtain ⟨rfl, Nq281, e281⟩ := hQ281
      have N281 := Fr.app N0 Nq281
      obtain ⟨T282, X282, e282, st282⟩ := getF X281 hx hZ hown (host := "") (Or.inl (own_w hw 23 rfl)) Via.refl e281 Ff263 (g := (mkF m 49 #[.val (.ref a1), .val (.long q2), .second, .val (.int (-1 : Int32)), .val (.int (-1 : Int32)), .unset] [(.ref a1), (.int (-1 : Int32))])) rfl rfl (hb hby d6_49)
      obtain ⟨T283, X283, e283, st283⟩ := getF X282 hx hZ hown (host := "") (Or.inl (own_w hw 27 rfl)) Via.refl e282 Fb263 (g := (mkF m 56 #[.val (.ref a1), .val (.long q2), .second, .val (.int (-1 : Int32)), .val (.int (-1 : Int32)), .unset] [(.ref a1)])) rfl rfl (hb hby d6_56)
      obtain ⟨T284, X284, e284, st284⟩ := getF X283 hx hZ hown (host := "") (Or.inl (own_w hw 16 rfl)) Via.refl e283 Fc263 (g := (mkF m 72 #[.val (.ref a1), .val (.long q2), .second, .val (.int (-1 : Int32)), .val (.int (-1 : Int32)), .val (.int b)] [(.ref a1)])) rfl rfl (hb hby d6_72)
      obtain ⟨T285, X285, e285, st285⟩ := getF X284 hx hZ hown (host := "") (Or.inl (own_w hw 25 rfl)) Via.refl e284 Fe263 (g := (mkF m 76 #[.val (.ref a1), .val (.long q2), .second, .val (.int (-1 : Int32)), .val (.int (-1 : Int32)), .val (.int b)] [(.ref a1), (.ref ac263)])) rfl rfl (hb hby d6_76)
      obtain ⟨cl286, A286, q286, S286, M286, H286, J286⟩ := id Vc263
      have hin286 : ¬ ((0 : Int32) < 0 ∨ cl286.slots.size ≤ ((0 : Int32)).toNatClampNeg) := inb_of S286 ⟨by decide, by decide⟩
      have hat286 : cl286.slots[((0 : Int32)).toNatClampNeg]? = some (.int y0) := H286.at hin286 rfl
      have pre287 : ∀ t, Steps p.tables e below (T285.setTop (mkF m 85 #[.val (.ref a1), .val (.long q2), .second, .val (.int (-1 : Int32)), .val (.int (-1 : Int32)), .val (.int b)] [(.int (y0 - b))])) t → Steps p.tables e below (s₁.setTop (entryFrame m #[(.ref a1), (.long q2)] 6)) t := fun t kt => pre269 t (by
        show Steps p.tables e below (T268.setTop (mkF m 26 #[.val (.ref a1), .val (.long q2), .second, .unset, .unset, .unset] [(.long q2), (.int (1 : Int32)), (.int (0 : Int32)), (.ref am263)])) _
        refine st281 _ ?_
        refine XS.istoreN X281.here hx rfl (hb hby d6_29) rfl (l' := #[.val (.ref a1), .val (.long q2), .second, .val (.int (-1 : Int32)), .unset, .unset]) rfl ?_
        refine XS.iloadN X281.here hx rfl (hb hby d6_30) rfl ?_
        refine XS.ifYes X281.here hx rfl (pc0 := 31) (pc' := 38) rfl (hb hby d6_31) rfl ((if0 _ _).trans (tlt (by decide : (-1 : Int32) < (0 : Int32))).1) (by decide) (by decide) ?_
        refine XS.iloadN X281.here hx rfl (hb hby d6_38) rfl ?_
        refine XS.ineg X281.here hx rfl (hb hby d6_39) rfl ?_
        refine XS.iconst X281.here hx rfl (hb hby d6_40) ?_
        refine XS.isub X281.here hx rfl (hb hby d6_41) rfl ?_
        refine XS.iconst X281.here hx rfl (hb hby d6_42) ?_
        refine XS.isub X281.here hx rfl (hb hby d6_43) rfl ?_
        refine XS.istore X281.here hx rfl (hb hby d6_44) rfl (l' := #[.val (.ref a1), .val (.long q2), .second, .val (.int (-1 : Int32)), .val (.int (-1 : Int32)), .unset]) rfl ?_
        refine XS.iload X281.here hx rfl (hb hby d6_46) rfl ?_
        show Steps p.tables e below (T281.setTop (mkF m 48 #[.val (.ref a1), .val (.long q2), .second, .val (.int (-1 : Int32)), .val (.int (-1 : Int32)), .unset] [(.int (-1 : Int32))])) _
        refine XS.aloadN X281.here hx rfl (hb hby d6_48) rfl rfl ?_
        refine st282 _ ?_
        refine XS.icmpNo X282.here hx rfl (hb hby d6_52) rfl (tlt (by decide : (-1 : Int32) < (0 : Int32))).2.1 ?_
        refine XS.aloadN X282.here hx rfl (hb hby d6_55) rfl rfl ?_
        refine st283 _ ?_
        refine XS.goto X283.here hx rfl (pc0 := 59) (pc' := 69) rfl (hb hby d6_59) (by decide) (by decide) ?_
        refine XS.istore X283.here hx rfl (hb hby d6_69) rfl (l' := #[.val (.ref a1), .val (.long q2), .second, .val (.int (-1 : Int32)), .val (.int (-1 : Int32)), .val (.int b)]) rfl ?_
        refine XS.aloadN X283.here hx rfl (hb hby d6_71) rfl rfl ?_
        refine st284 _ ?_
        refine XS.aloadN X284.here hx rfl (hb hby d6_75) rfl rfl ?_
        refine st285 _ ?_
        refine XS.iconst X285.here hx rfl (hb hby d6_79) ?_
        show Steps p.tables e below (T285.setTop (mkF m 80 #[.val (.ref a1), .val (.long q2), .second, .val (.int (-1 : Int32)), .val (.int (-1 : Int32)), .val (.int b)] [(.int (1 : Int32)), (.int (1 : Int32)), (.ref ac263)])) _
        refine XS.isub X285.here hx rfl (hb hby d6_80) rfl ?_
        refine X285.iaload hx (j := (0 : Int32)) (v := (.int y0)) (by rw [e285]; exact A286.1) (State.isArrayOf_alike hZ.alike A286.2.1) A286.2.2 hin286 hat286 (g := (mkF m 81 #[.val (.ref a1), .val (.long q2), .second, .val (.int (-1 : Int32)), .val (.int (-1 : Int32)), .val (.int b)] [(.int (0 : Int32)), (.ref ac263)])) rfl rfl (hb hby d6_81) _ ?_
        refine XS.iload X285.here hx rfl (hb hby d6_82) rfl ?_
        refine XS.isub X285.here hx rfl (hb hby d6_84) rfl ?_
        exact kt)
      have lt288 : ¬ (x0 < q2) := by
        rw [Int64.lt_iff_toInt_lt] at hc270 hc280 ⊢
        omega
      have ev : (y0 - (if x0 < q2 then y0 else b)) = (y0 - b) := congrArg (fun z => y0 - z) (if_neg lt288)
      exact own_retI X285 hx Bd.notSynchronized Bd.returns (hb hby d6_85) pre287 (show QRi (y0 - (if x0 < q2 then y0 else b)) h0 n0 _ _ _ from ⟨by rw [ev], N281, e285⟩) (by decide) (by decide)
    case neg =>
      obtain ⟨_, _, ⟨T289, L289, k289, n289⟩, -, X289, ⟨Lc289, hQ289, l289, y289, z289⟩, st289⟩ := Jvm.LawKit.callS X268 hx (y := own_y_199) hown (mvT hZ (own_w hw 45 rfl)) (mvT hZ (own_w hw 46 rfl)) (mvT hZ (own_w hw 47 rfl)) (mvT hZ (own_w hw 48 rfl)) (by decide) (backOf (W := 0) (rmSBs012 l Z a0 hw [] am263 q2 km263 x0 x1 (0 : Int32) h0 n0 Z0 Vm263 ((if_neg hc270).trans (if_neg hc280))) hZ (own_w hw 48 rfl) (own_w hw 47 rfl) (by decide) (by decide)) (g := (mkF m 26 #[.val (.ref a1), .val (.long q2), .second, .unset, .unset, .unset] [(.long q2), (.int (1 : Int32)), (.int (0 : Int32)), (.ref am263)])) rfl (by rw [hml]; rfl) (argsL := [(.ref am263), (.int (0 : Int32)), (.int (1 : Int32)), (.long q2)]) (rest := []) (lenOf pd_212 rfl) rfl (by show 2 * 0 + _ ≤ _; exact Nat.le_of_eq rfl) (hb hby d6_26) (fun _ _ => ⟨rfl, e268, (by decide : 0 + 0 ≤ _), (by decide : 0 + 0 ≤ _)⟩)
      dsimp only [Pt.U, Pt.locs, Pt.cells, Pt.slots] at X289 l289 y289 z289 st289 hQ289
      subst l289 y289 z289
      obtain ⟨rfl, Nq289, e289⟩ := hQ289
      have N289 := Fr.app N0 Nq289
      obtain ⟨T290, X290, e290, st290⟩ := getF X289 hx hZ hown (host := "") (Or.inl (own_w hw 23 rfl)) Via.refl e289 Ff263 (g := (mkF m 49 #[.val (.ref a1), .val (.long q2), .second, .val (.int (0 : Int32)), .val (.int (-1 : Int32)), .unset] [(.ref a1), (.int (-1 : Int32))])) rfl rfl (hb hby d6_49)
      obtain ⟨T291, X291, e291, st291⟩ := getF X290 hx hZ hown (host := "") (Or.inl (own_w hw 27 rfl)) Via.refl e290 Fb263 (g := (mkF m 56 #[.val (.ref a1), .val (.long q2), .second, .val (.int (0 : Int32)), .val (.int (-1 : Int32)), .unset] [(.ref a1)])) rfl rfl (hb hby d6_56)
      obtain ⟨T292, X292, e292, st292⟩ := getF X291 hx hZ hown (host := "") (Or.inl (own_w hw 16 rfl)) Via.refl e291 Fc263 (g := (mkF m 72 #[.val (.ref a1), .val (.long q2), .second, .val (.int (0 : Int32)), .val (.int (-1 : Int32)), .val (.int b)] [(.ref a1)])) rfl rfl (hb hby d6_72)
      obtain ⟨T293, X293, e293, st293⟩ := getF X292 hx hZ hown (host := "") (Or.inl (own_w hw 25 rfl)) Via.refl e292 Fe263 (g := (mkF m 76 #[.val (.ref a1), .val (.long q2), .second, .val (.int (0 : Int32)), .val (.int (-1 : Int32)), .val (.int b)] [(.ref a1), (.ref ac263)])) rfl rfl (hb hby d6_76)
      obtain ⟨cl294, A294, q294, S294, M294, H294, J294⟩ := id Vc263
      have hin294 : ¬ ((0 : Int32) < 0 ∨ cl294.slots.size ≤ ((0 : Int32)).toNatClampNeg) := inb_of S294 ⟨by decide, by decide⟩
      have hat294 : cl294.slots[((0 : Int32)).toNatClampNeg]? = some (.int y0) := H294.at hin294 rfl
      have pre295 : ∀ t, Steps p.tables e below (T293.setTop (mkF m 85 #[.val (.ref a1), .val (.long q2), .second, .val (.int (0 : Int32)), .val (.int (-1 : Int32)), .val (.int b)] [(.int (y0 - b))])) t → Steps p.tables e below (s₁.setTop (entryFrame m #[(.ref a1), (.long q2)] 6)) t := fun t kt => pre269 t (by
        show Steps p.tables e below (T268.setTop (mkF m 26 #[.val (.ref a1), .val (.long q2), .second, .unset, .unset, .unset] [(.long q2), (.int (1 : Int32)), (.int (0 : Int32)), (.ref am263)])) _
        refine st289 _ ?_
        refine XS.istoreN X289.here hx rfl (hb hby d6_29) rfl (l' := #[.val (.ref a1), .val (.long q2), .second, .val (.int (0 : Int32)), .unset, .unset]) rfl ?_
        refine XS.iloadN X289.here hx rfl (hb hby d6_30) rfl ?_
        refine XS.ifNo X289.here hx rfl (hb hby d6_31) rfl ((if0 _ _).trans (flt (by decide : ¬ ((0 : Int32) < (0 : Int32)))).1) ?_
        refine XS.iloadN X289.here hx rfl (hb hby d6_34) rfl ?_
        refine XS.goto X289.here hx rfl (pc0 := 35) (pc' := 42) rfl (hb hby d6_35) (by decide) (by decide) ?_
        refine XS.iconst X289.here hx rfl (hb hby d6_42) ?_
        refine XS.isub X289.here hx rfl (hb hby d6_43) rfl ?_
        refine XS.istore X289.here hx rfl (hb hby d6_44) rfl (l' := #[.val (.ref a1), .val (.long q2), .second, .val (.int (0 : Int32)), .val (.int (-1 : Int32)), .unset]) rfl ?_
        refine XS.iload X289.here hx rfl (hb hby d6_46) rfl ?_
        refine XS.aloadN X289.here hx rfl (hb hby d6_48) rfl rfl ?_
        refine st290 _ ?_
        show Steps p.tables e below (T290.setTop (mkF m 52 #[.val (.ref a1), .val (.long q2), .second, .val (.int (0 : Int32)), .val (.int (-1 : Int32)), .unset] [(.int (0 : Int32)), (.int (-1 : Int32))])) _
        refine XS.icmpNo X290.here hx rfl (hb hby d6_52) rfl (tlt (by decide : (-1 : Int32) < (0 : Int32))).2.1 ?_
        refine XS.aloadN X290.here hx rfl (hb hby d6_55) rfl rfl ?_
        refine st291 _ ?_
        refine XS.goto X291.here hx rfl (pc0 := 59) (pc' := 69) rfl (hb hby d6_59) (by decide) (by decide) ?_
        refine XS.istore X291.here hx rfl (hb hby d6_69) rfl (l' := #[.val (.ref a1), .val (.long q2), .second, .val (.int (0 : Int32)), .val (.int (-1 : Int32)), .val (.int b)]) rfl ?_
        refine XS.aloadN X291.here hx rfl (hb hby d6_71) rfl rfl ?_
        refine st292 _ ?_
        refine XS.aloadN X292.here hx rfl (hb hby d6_75) rfl rfl ?_
        refine st293 _ ?_
        refine XS.iconst X293.here hx rfl (hb hby d6_79) ?_
        refine XS.isub X293.here hx rfl (hb hby d6_80) rfl ?_
        refine X293.iaload hx (j := (0 : Int32)) (v := (.int y0)) (by rw [e293]; exact A294.1) (State.isArrayOf_alike hZ.alike A294.2.1) A294.2.2 hin294 hat294 (g := (mkF m 81 #[.val (.ref a1), .val (.long q2), .second, .val (.int (0 : Int32)), .val (.int (-1 : Int32)), .val (.int b)] [(.int (0 : Int32)), (.ref ac263)])) rfl rfl (hb hby d6_81) _ ?_
        show Steps p.tables e below (T293.setTop (mkF m 82 #[.val (.ref a1), .val (.long q2), .second, .val (.int (0 : Int32)), .val (.int (-1 : Int32)), .val (.int b)] [(.int y0)])) _
        refine XS.iload X293.here hx rfl (hb hby d6_82) rfl ?_
        refine XS.isub X293.here hx rfl (hb hby d6_84) rfl ?_
        exact kt)
      have lt296 : ¬ (x0 < q2) := by
        rw [Int64.lt_iff_toInt_lt] at hc270 hc280 ⊢
        omega
      have ev : (y0 - (if x0 < q2 then y0 else b)) = (y0 - b) := congrArg (fun z => y0 - z) (if_neg lt296)
      exact own_retI X293 hx Bd.notSynchronized Bd.returns (hb hby d6_85) pre295 (show QRi (y0 - (if x0 < q2 then y0 else b)) h0 n0 _ _ _ from ⟨by rw [ev], N289, e293⟩) (by decide) (by decide)
theorem d3_40 : decode prog_25_method_2_code 40 = .ok (.lload_n 1, 1) := by decide +kernel
theorem d3_41 : decode prog_25_method_2_code 41 = .ok (.aload_n 0, 1) := by decide +kernel
theorem d3_42 : decode prog_25_method_2_code 42 = .ok (.getfield 9, 3) := by decide +kernel
theorem d3_45 : decode prog_25_method_2_code 45 = .ok (.aload_n 0, 1) := by decide +kernel
theorem d3_46 : decode prog_25_method_2_code 46 = .ok (.getfield 21, 3) := by decide +kernel
theorem d3_49 : decode prog_25_method_2_code 49 = .ok (.iconst 1, 1) := by decide +kernel
theorem d3_50 : decode prog_25_method_2_code 50 = .ok (.isub, 1) := by decide +kernel
theorem d3_51 : decode prog_25_method_2_code 51 = .ok (.laload, 1) := by decide +kernel
theorem d3_52 : decode prog_25_method_2_code 52 = .ok (.lcmp, 1) := by decide +kernel
theorem d3_53 : decode prog_25_method_2_code 53 = .ok (.ifCond .gt 18, 3) := by decide +kernel
def QCnt012a (Z : State) (a1 : Addr) (q2 : Int64) (p4 p5 : Int32) (x0 : Int64) (x1 : Int64) (y0 : Int32) (y1 : Int32) (b : Int32) (h0 : Heap) (n0 : Nat) (v : Option Value) (h : Heap) (L : List Loc) : Prop := v = none ∧ Fr n0 L ∧ h0.size ≤ h.size ∧ PT Z h n0 a1 (0 : Int32) (2 : Int32) (2 : Int32) [(.long x0), (.long q2)] [(.int y0), (.int p4)] b
set_option maxRecDepth 65536 in
set_option maxHeartbeats 40000000 in
theorem rmCnt012a (l : Launch) (Z : State) (a0 : Array Value) (hw : ∀ d ∈ tables_1, d.before a0 Z = true) (ws : List Jvm.Cond) (a1 : Addr) (q2 : Int64) (p4 p5 : Int32) (x0 : Int64) (x1 : Int64) (y0 : Int32) (y1 : Int32) (b : Int32) (h0 : Heap) (n0 : Nat) (Z0 : n0 ≤ h0.size) (P0 : PT Z h0 n0 a1 (0 : Int32) (1 : Int32) (2 : Int32) [(.long x0), (.long x1)] [(.int y0), (.int y1)] b) (c0 : x0 < q2) :
    MetFree l own_y_110 (head1 (Jvm.Cond.code own_y_110 prog_25_method_2_code 5 none :: ws) ({ frames := 0, cells := 0, slots := 0, locals := 0 } : Room)) (fun a U => a = #[(.ref a1), (.long q2), (.int p4), (.int p5)] ∧ Z.Warmed39 U.vm ∧ U.heap = h0) (fun _ _ _ _ _ => True) (fun _ U o U' => ∃ v L, o = .returned v ∧ QCnt012a Z a1 q2 p4 p5 x0 x1 y0 y1 b h0 n0 v U'.heap L ∧ FrameEnd U o U' L ({ frames := 0, cells := 0, slots := 0, locals := 0 } : Room).cells ({ frames := 0, cells := 0, slots := 0, locals := 0 } : Room).slots) := by
  refine MetFree.of_bodySF (plainFor_of_name pn_2) hisR ?_
  intro p e s m args below meth c s₁ Bd hml0 hP hK
  obtain ⟨rfl, hZ, hh⟩ := hP
  have hx := Bd.exec
  have hby := Bd.bytes
  have hml : c.maxLocals = 5 := hml0
  have hown : s.vm.findClass "com/example/viral_counter/viralcounter/PostTrend" = some m.cls := findClass_of_methodNamed Bd.named
  have hnm := (name_of_methodNamed Bd.named Bd.method).1
  have X0 : Stand p l e ({ frames := 0, cells := 0, slots := 0, locals := 0 } : Room) s m #[(.ref a1), (.long q2), (.int p4), (.int p5)] below meth c s₁ [] 0 0 := Stand.of_body Bd
  have e0 : s₁.heap = h0 := by rw [← hh, Bd.state]; rfl
  have N0 := Fr.nil n0
  have pre0 : ∀ t, Steps p.tables e below (s₁.setTop (mkF m 0 #[.val (.ref a1), .val (.long q2), .second, .val (.int p4), .val (.int p5)] [])) t → Steps p.tables e below (s₁.setTop (entryFrame m #[(.ref a1), (.long q2), (.int p4), (.int p5)] 5)) t := fun t k => castTop (ef_111 m a1 q2 p4 p5) k
  obtain ⟨am303, ac303, km303, kc303, E303, Fm303, Fc303, Ff303, Fe303, Fb303, Vm303, Vc303, Ga303, Gm303, Gc303, n1303, n2303, n3303⟩ := id P0
  have hz0 : h0.size ≤ h0.size := Nat.le_refl _
  obtain ⟨T304, X304, e304, st304⟩ := getF X0 hx hZ hown (host := "") (Or.inl (own_w hw 23 rfl)) Via.refl e0 Ff303 (g := (mkF m 1 #[.val (.ref a1), .val (.long q2), .second, .val (.int p4), .val (.int p5)] [(.ref a1)])) rfl rfl (hb hby d3_1)
  obtain ⟨T305, X305, e305, st305⟩ := getF X304 hx hZ hown (host := "") (Or.inl (own_w hw 25 rfl)) Via.refl e304 Fe303 (g := (mkF m 5 #[.val (.ref a1), .val (.long q2), .second, .val (.int p4), .val (.int p5)] [(.ref a1), (.int (0 : Int32))])) rfl rfl (hb hby d3_5)
  obtain ⟨T306, X306, e306, st306⟩ := getF X305 hx hZ hown (host := "") (Or.inl (own_w hw 23 rfl)) Via.refl e305 Ff303 (g := (mkF m 30 #[.val (.ref a1), .val (.long q2), .second, .val (.int p4), .val (.int p5)] [(.ref a1)])) rfl rfl (hb hby d3_30)
  obtain ⟨T307, X307, e307, st307⟩ := getF X306 hx hZ hown (host := "") (Or.inl (own_w hw 25 rfl)) Via.refl e306 Fe303 (g := (mkF m 34 #[.val (.ref a1), .val (.long q2), .second, .val (.int p4), .val (.int p5)] [(.ref a1), (.int (0 : Int32))])) rfl rfl (hb hby d3_34)
  obtain ⟨T308, X308, e308, st308⟩ := getF X307 hx hZ hown (host := "") (Or.inl (own_w hw 13 rfl)) Via.refl e307 Fm303 (g := (mkF m 42 #[.val (.ref a1), .val (.long q2), .second, .val (.int p4), .val (.int p5)] [(.ref a1), (.long q2)])) rfl rfl (hb hby d3_42)
  obtain ⟨T309, X309, e309, st309⟩ := getF X308 hx hZ hown (host := "") (Or.inl (own_w hw 25 rfl)) Via.refl e308 Fe303 (g := (mkF m 46 #[.val (.ref a1), .val (.long q2), .second, .val (.int p4), .val (.int p5)] [(.ref a1), (.ref am303), (.long q2)])) rfl rfl (hb hby d3_46)
  obtain ⟨cl310, A310, q310, S310, M310, H310, J310⟩ := id Vm303
  have hin310 : ¬ ((0 : Int32) < 0 ∨ cl310.slots.size ≤ ((0 : Int32)).toNatClampNeg) := inb_of S310 ⟨by decide, by decide⟩
  have hat310 : cl310.slots[((0 : Int32)).toNatClampNeg]? = some (.long x0) := H310.at hin310 rfl
  obtain ⟨T311, X311, e311, st311⟩ := getF X309 hx hZ hown (host := "") (Or.inl (own_w hw 25 rfl)) Via.refl e309 Fe303 (g := (mkF m 72 #[.val (.ref a1), .val (.long q2), .second, .val (.int p4), .val (.int p5)] [(.ref a1)])) rfl rfl (hb hby d3_72)
  obtain ⟨T312, X312, e312, st312⟩ := getF X311 hx hZ hown (host := "") (Or.inl (own_w hw 13 rfl)) Via.refl e311 Fm303 (g := (mkF m 76 #[.val (.ref a1), .val (.long q2), .second, .val (.int p4), .val (.int p5)] [(.ref a1), (.int (1 : Int32))])) rfl rfl (hb hby d3_76)
  obtain ⟨cl313, A313, q313, S313, M313, H313, J313⟩ := id Vm303
  obtain ⟨T314, X314, e314, st314⟩ := getF X312 hx hZ hown (host := "") (Or.inl (own_w hw 13 rfl)) Via.refl e312 Fm303 (g := (mkF m 88 #[.val (.ref a1), .val (.long q2), .second, .val (.int p4), .val (.int p5)] [(.ref a1)])) rfl rfl (hb hby d3_88)
  obtain ⟨T315, X315, e315, st315⟩ := getF X314 hx hZ hown (host := "") (Or.inl (own_w hw 25 rfl)) Via.refl e314 Fe303 (g := (mkF m 92 #[.val (.ref a1), .val (.long q2), .second, .val (.int p4), .val (.int p5)] [(.ref a1), (.ref am303)])) rfl rfl (hb hby d3_92)
  obtain ⟨cl316, Ar316, q316, S316, M316, H316, J316⟩ := id Vm303
  have hin316 : ¬ ((1 : Int32) < 0 ∨ cl316.slots.size ≤ ((1 : Int32)).toNatClampNeg) := inb_of S316 ⟨by decide, by decide⟩
  obtain ⟨T317, h317, X317, e317, W317, st317⟩ := stJ X315 hx hZ e315 Ar316 (j := (1 : Int32)) hin316 (g := (mkF m 96 #[.val (.ref a1), .val (.long q2), .second, .val (.int p4), .val (.int p5)] [(.long q2), (.int (1 : Int32)), (.ref am303)])) rfl rfl (hb hby d3_96)
  have V317 : Arv Z h317 am303 km303 .long (2 : Int32) [(.long x0), (.long q2)] (.long (0 : Int64)) := Arv.set Ar316 q316 S316 M316 H316 J316 rfl W317 1 rfl (Nat.le_of_ble_eq_true rfl)
  have N317 := Fr.snoc X317 N0 Gm303
  have z318 : n0 ≤ h317.size := Nat.le_trans Z0 (Keep.of_wr W317).1
  have c319 := E303.wr W317
  have c320 := Fm303.other W317 (Or.inl n1303)
  have c321 := Fc303.other W317 (Or.inl n1303)
  have c322 := Ff303.other W317 (Or.inl n1303)
  have c323 := Fe303.other W317 (Or.inl n1303)
  have c324 := Fb303.other W317 (Or.inl n1303)
  have c326 := Vc303.other W317 (Ne.symm n3303)
  obtain ⟨T327, X327, e327, st327⟩ := getF X317 hx hZ hown (host := "") (Or.inl (own_w hw 16 rfl)) Via.refl e317 c321 (g := (mkF m 98 #[.val (.ref a1), .val (.long q2), .second, .val (.int p4), .val (.int p5)] [(.ref a1)])) rfl rfl (hb hby d3_98)
  obtain ⟨T328, X328, e328, st328⟩ := getF X327 hx hZ hown (host := "") (Or.inl (own_w hw 25 rfl)) Via.refl e327 c323 (g := (mkF m 102 #[.val (.ref a1), .val (.long q2), .second, .val (.int p4), .val (.int p5)] [(.ref a1), (.ref ac303)])) rfl rfl (hb hby d3_102)
  obtain ⟨cl329, Ar329, q329, S329, M329, H329, J329⟩ := id c326
  have hin329 : ¬ ((1 : Int32) < 0 ∨ cl329.slots.size ≤ ((1 : Int32)).toNatClampNeg) := inb_of S329 ⟨by decide, by decide⟩
  obtain ⟨T330, h330, X330, e330, W330, st330⟩ := stI X328 hx hZ e328 Ar329 (j := (1 : Int32)) hin329 (g := (mkF m 106 #[.val (.ref a1), .val (.long q2), .second, .val (.int p4), .val (.int p5)] [(.int p4), (.int (1 : Int32)), (.ref ac303)])) rfl rfl (hb hby d3_106)
  have V330 : Arv Z h330 ac303 kc303 .int (2 : Int32) [(.int y0), (.int p4)] (.int (0 : Int32)) := Arv.set Ar329 q329 S329 M329 H329 J329 rfl W330 1 rfl (Nat.le_of_ble_eq_true rfl)
  have N330 := Fr.snoc X330 N317 Gc303
  have z331 : n0 ≤ h330.size := Nat.le_trans z318 (Keep.of_wr W330).1
  have c332 := c319.wr W330
  have c333 := c320.other W330 (Or.inl n2303)
  have c334 := c321.other W330 (Or.inl n2303)
  have c335 := c322.other W330 (Or.inl n2303)
  have c336 := c323.other W330 (Or.inl n2303)
  have c337 := c324.other W330 (Or.inl n2303)
  have c339 := V317.other W330 n3303
  obtain ⟨T340, X340, e340, st340⟩ := getF X330 hx hZ hown (host := "") (Or.inl (own_w hw 25 rfl)) Via.refl e330 c336 (g := (mkF m 109 #[.val (.ref a1), .val (.long q2), .second, .val (.int p4), .val (.int p5)] [(.ref a1), (.ref a1)])) rfl rfl (hb hby d3_109)
  obtain ⟨T341, h341, X341, e341, W341, st341⟩ := putF X340 hx hZ hown (host := "") (Or.inl (own_w hw 25 rfl)) Via.refl e340 c336 c332 (Or.inl (own_w hw 26 rfl)) (own_w hw 4 rfl) (ty := .int) (by decide) rfl rfl (g := (mkF m 114 #[.val (.ref a1), .val (.long q2), .second, .val (.int p4), .val (.int p5)] [(.int (2 : Int32)), (.ref a1)])) rfl rfl (hb hby d3_114)
  have Fw341 := c336.same W341
  have N341 := Fr.snoc X341 N330 Ga303
  have z342 : n0 ≤ h341.size := Nat.le_trans z331 (Keep.of_wr W341).1
  have c343 := c332.wr W341
  have c344 := c333.other W341 (Or.inr (own_sn_105 hw))
  have c345 := c334.other W341 (Or.inr (own_sn_106 hw))
  have c346 := c335.other W341 (Or.inr (own_sn_107 hw))
  have c348 := c337.other W341 (Or.inr (own_sn_108 hw))
  have c349 := c339.other W341 (Ne.symm n1303)
  have c350 := V330.other W341 (Ne.symm n2303)
  have pre351 : ∀ t, Steps p.tables e below (T341.setTop (mkF m 117 #[.val (.ref a1), .val (.long q2), .second, .val (.int p4), .val (.int p5)] [])) t → Steps p.tables e below (s₁.setTop (entryFrame m #[(.ref a1), (.long q2), (.int p4), (.int p5)] 5)) t := fun t kt => pre0 t (by
    show Steps p.tables e below (s₁.setTop (mkF m 0 #[.val (.ref a1), .val (.long q2), .second, .val (.int p4), .val (.int p5)] [])) _
    refine XS.aloadN X0.here hx rfl (hb hby d3_0) rfl rfl ?_
    refine st304 _ ?_
    refine XS.aloadN X304.here hx rfl (hb hby d3_4) rfl rfl ?_
    refine st305 _ ?_
    refine XS.icmpYes X305.here hx rfl (pc0 := 8) (pc' := 29) rfl (hb hby d3_8) rfl (feq (by decide : ¬ ((0 : Int32) = (1 : Int32)))).2 (by decide) (by decide) ?_
    refine XS.aloadN X305.here hx rfl (hb hby d3_29) rfl rfl ?_
    refine st306 _ ?_
    refine XS.aloadN X306.here hx rfl (hb hby d3_33) rfl rfl ?_
    refine st307 _ ?_
    refine XS.icmpNo X307.here hx rfl (hb hby d3_37) rfl (tlt (by decide : (0 : Int32) < (1 : Int32))).2.1 ?_
    refine XS.lloadN X307.here hx rfl (hb hby d3_40) rfl ?_
    refine XS.aloadN X307.here hx rfl (hb hby d3_41) rfl rfl ?_
    show Steps p.tables e below (T307.setTop (mkF m 42 #[.val (.ref a1), .val (.long q2), .second, .val (.int p4), .val (.int p5)] [(.ref a1), (.long q2)])) _
    refine st308 _ ?_
    refine XS.aloadN X308.here hx rfl (hb hby d3_45) rfl rfl ?_
    refine st309 _ ?_
    refine XS.iconst X309.here hx rfl (hb hby d3_49) ?_
    refine XS.isub X309.here hx rfl (hb hby d3_50) rfl ?_
    refine X309.laload hx (j := (0 : Int32)) (v := (.long x0)) (by rw [e309]; exact A310.1) (State.isArrayOf_alike hZ.alike A310.2.1) A310.2.2 hin310 hat310 (g := (mkF m 51 #[.val (.ref a1), .val (.long q2), .second, .val (.int p4), .val (.int p5)] [(.int (0 : Int32)), (.ref am303), (.long q2)])) rfl rfl (hb hby d3_51) _ ?_
    refine XS.lcmp X309.here hx rfl (hb hby d3_52) rfl ?_
    refine XS.ifYes X309.here hx rfl (pc0 := 53) (pc' := 71) rfl (hb hby d3_53) rfl ((if0 _ _).trans (tlt ((lw_gt _ _).mpr c0)).2.2.1) (by decide) (by decide) ?_
    refine XS.aloadN X309.here hx rfl (hb hby d3_71) rfl rfl ?_
    refine st311 _ ?_
    refine XS.aloadN X311.here hx rfl (hb hby d3_75) rfl rfl ?_
    refine st312 _ ?_
    show Steps p.tables e below (T312.setTop (mkF m 79 #[.val (.ref a1), .val (.long q2), .second, .val (.int p4), .val (.int p5)] [(.ref am303), (.int (1 : Int32))])) _
    refine X312.arraylength hx (by rw [e312]; exact A313.1) (State.isArrayOf_alike hZ.alike A313.2.1) (g := (mkF m 79 #[.val (.ref a1), .val (.long q2), .second, .val (.int p4), .val (.int p5)] [(.ref am303), (.int (1 : Int32))])) rfl rfl (hb hby d3_79) _ ?_
    rw [len_of S313 M313]
    refine XS.icmpYes X312.here hx rfl (pc0 := 80) (pc' := 87) rfl (hb hby d3_80) rfl (feq (by decide : ¬ ((1 : Int32) = (2 : Int32)))).2 (by decide) (by decide) ?_
    refine XS.aloadN X312.here hx rfl (hb hby d3_87) rfl rfl ?_
    refine st314 _ ?_
    refine XS.aloadN X314.here hx rfl (hb hby d3_91) rfl rfl ?_
    refine st315 _ ?_
    refine XS.lloadN X315.here hx rfl (hb hby d3_95) rfl ?_
    refine st317 _ ?_
    refine XS.aloadN X317.here hx rfl (hb hby d3_97) rfl rfl ?_
    refine st327 _ ?_
    refine XS.aloadN X327.here hx rfl (hb hby d3_101) rfl rfl ?_
    refine st328 _ ?_
    show Steps p.tables e below (T328.setTop (mkF m 105 #[.val (.ref a1), .val (.long q2), .second, .val (.int p4), .val (.int p5)] [(.int (1 : Int32)), (.ref ac303)])) _
    refine XS.iloadN X328.here hx rfl (hb hby d3_105) rfl ?_
    refine st330 _ ?_
    refine XS.aloadN X330.here hx rfl (hb hby d3_107) rfl rfl ?_
    refine XS.dup X330.here hx rfl (hb hby d3_108) rfl rfl ?_
    refine st340 _ ?_
    refine XS.iconst X340.here hx rfl (hb hby d3_112) ?_
    refine XS.iadd X340.here hx rfl (hb hby d3_113) rfl ?_
    refine st341 _ ?_
    exact kt)
  have hz : h0.size ≤ h341.size := Nat.le_trans (Nat.le_trans (Nat.le_trans (Nat.le_refl _) (Keep.of_wr W317).1) (Keep.of_wr W330).1) (Keep.of_wr W341).1
  have hQ : QCnt012a Z a1 q2 p4 p5 x0 x1 y0 y1 b h0 n0 none h341 _ := ⟨rfl, N341, hz, ⟨am303, ac303, km303, kc303, c343, c344, c345, c346, Fw341, c348, c349, c350, Ga303, Gm303, Gc303, n1303, n2303, n3303⟩⟩
  exact own_retV X341 hx Bd.notSynchronized Bd.returns (hb hby d3_117) pre351 (show QCnt012a Z a1 q2 p4 p5 x0 x1 y0 y1 b h0 n0 _ _ _ from (by rw [e341]; exact hQ)) (by decide) (by decide)
def QFgt022_2 (Z : State) (a1 : Addr) (q2 : Int64) (x0 : Int64) (x1 : Int64) (y0 : Int32) (y1 : Int32) (b : Int32) (h0 : Heap) (n0 : Nat) (v : Option Value) (h : Heap) (L : List Loc) : Prop := v = none ∧ Fr n0 L ∧ h0.size ≤ h.size ∧ PT Z h n0 a1 (2 : Int32) (2 : Int32) (2 : Int32) [(.long x0), (.long x1)] [(.int y0), (.int y1)] y1
set_option maxRecDepth 65536 in
set_option maxHeartbeats 40000000 in
theorem rmFgt022_2 (l : Launch) (Z : State) (a0 : Array Value) (hw : ∀ d ∈ tables_1, d.before a0 Z = true) (ws : List Jvm.Cond) (a1 : Addr) (q2 : Int64) (x0 : Int64) (x1 : Int64) (y0 : Int32) (y1 : Int32) (b : Int32) (h0 : Heap) (n0 : Nat) (Z0 : n0 ≤ h0.size) (P0 : PT Z h0 n0 a1 (0 : Int32) (2 : Int32) (2 : Int32) [(.long x0), (.long x1)] [(.int y0), (.int y1)] b) (c0 : x0 < q2) (c1 : x1 < q2) :
    MetFree l own_y_32 (head1 (Jvm.Cond.code own_y_32 prog_25_method_4_code 3 none :: ws) ({ frames := 0, cells := 0, slots := 0, locals := 0 } : Room)) (fun a U => a = #[(.ref a1), (.long q2)] ∧ Z.Warmed39 U.vm ∧ U.heap = h0) (fun _ _ _ _ _ => True) (fun _ U o U' => ∃ v L, o = .returned v ∧ QFgt022_2 Z a1 q2 x0 x1 y0 y1 b h0 n0 v U'.heap L ∧ FrameEnd U o U' L ({ frames := 0, cells := 0, slots := 0, locals := 0 } : Room).cells ({ frames := 0, cells := 0, slots := 0, locals := 0 } : Room).slots) := by
  refine MetFree.of_bodySF (plainFor_of_name pn_2) hisR ?_
  intro p e s m args below meth c s₁ Bd hml0 hP hK
  obtain ⟨rfl, hZ, hh⟩ := hP
  have hx := Bd.exec
  have hby := Bd.bytes
  have hml : c.maxLocals = 3 := hml0
  have hown : s.vm.findClass "com/example/viral_counter/viralcounter/PostTrend" = some m.cls := findClass_of_methodNamed Bd.named
  have hnm := (name_of_methodNamed Bd.named Bd.method).1
  have X0 : Stand p l e ({ frames := 0, cells := 0, slots := 0, locals := 0 } : Room) s m #[(.ref a1), (.long q2)] below meth c s₁ [] 0 0 := Stand.of_body Bd
  have e0 : s₁.heap = h0 := by rw [← hh, Bd.state]; rfl
  have N0 := Fr.nil n0
  have pre0 : ∀ t, Steps p.tables e below (s₁.setTop (mkF m 0 #[.val (.ref a1), .val (.long q2), .second] [])) t → Steps p.tables e below (s₁.setTop (entryFrame m #[(.ref a1), (.long q2)] 3)) t := fun t k => castTop (ef_33 m a1 q2) k
  obtain ⟨am357, ac357, km357, kc357, E357, Fm357, Fc357, Ff357, Fe357, Fb357, Vm357, Vc357, Ga357, Gm357, Gc357, n1357, n2357, n3357⟩ := id P0
  have hz0 : h0.size ≤ h0.size := Nat.le_refl _
  obtain ⟨T358, X358, e358, st358⟩ := getF X0 hx hZ hown (host := "") (Or.inl (own_w hw 23 rfl)) Via.refl e0 Ff357 (g := (mkF m 1 #[.val (.ref a1), .val (.long q2), .second] [(.ref a1)])) rfl rfl (hb hby d4_1)
  obtain ⟨T359, X359, e359, st359⟩ := getF X358 hx hZ hown (host := "") (Or.inl (own_w hw 25 rfl)) Via.refl e358 Fe357 (g := (mkF m 5 #[.val (.ref a1), .val (.long q2), .second] [(.ref a1), (.int (0 : Int32))])) rfl rfl (hb hby d4_5)
  obtain ⟨T360, X360, e360, st360⟩ := getF X359 hx hZ hown (host := "") (Or.inl (own_w hw 13 rfl)) Via.refl e359 Fm357 (g := (mkF m 12 #[.val (.ref a1), .val (.long q2), .second] [(.ref a1)])) rfl rfl (hb hby d4_12)
  obtain ⟨T361, X361, e361, st361⟩ := getF X360 hx hZ hown (host := "") (Or.inl (own_w hw 23 rfl)) Via.refl e360 Ff357 (g := (mkF m 16 #[.val (.ref a1), .val (.long q2), .second] [(.ref a1), (.ref am357)])) rfl rfl (hb hby d4_16)
  obtain ⟨cl362, A362, q362, S362, M362, H362, J362⟩ := id Vm357
  have hin362 : ¬ ((0 : Int32) < 0 ∨ cl362.slots.size ≤ ((0 : Int32)).toNatClampNeg) := inb_of S362 ⟨by decide, by decide⟩
  have hat362 : cl362.slots[((0 : Int32)).toNatClampNeg]? = some (.long x0) := H362.at hin362 rfl
  obtain ⟨T363, X363, e363, st363⟩ := getF X361 hx hZ hown (host := "") (Or.inl (own_w hw 16 rfl)) Via.refl e361 Fc357 (g := (mkF m 27 #[.val (.ref a1), .val (.long q2), .second] [(.ref a1), (.ref a1)])) rfl rfl (hb hby d4_27)
  obtain ⟨T364, X364, e364, st364⟩ := getF X363 hx hZ hown (host := "") (Or.inl (own_w hw 23 rfl)) Via.refl e363 Ff357 (g := (mkF m 31 #[.val (.ref a1), .val (.long q2), .second] [(.ref a1), (.ref ac357), (.ref a1)])) rfl rfl (hb hby d4_31)
  obtain ⟨cl365, A365, q365, S365, M365, H365, J365⟩ := id Vc357
  have hin365 : ¬ ((0 : Int32) < 0 ∨ cl365.slots.size ≤ ((0 : Int32)).toNatClampNeg) := inb_of S365 ⟨by decide, by decide⟩
  have hat365 : cl365.slots[((0 : Int32)).toNatClampNeg]? = some (.int y0) := H365.at hin365 rfl
  obtain ⟨T366, h366, X366, e366, W366, st366⟩ := putF X364 hx hZ hown (host := "") (Or.inl (own_w hw 27 rfl)) Via.refl e364 Fb357 E357 (Or.inl (own_w hw 28 rfl)) (own_w hw 4 rfl) (ty := .int) (by decide) rfl rfl (g := (mkF m 35 #[.val (.ref a1), .val (.long q2), .second] [(.int y0), (.ref a1)])) rfl rfl (hb hby d4_35)
  have Fw366 := Fb357.same W366
  have N366 := Fr.snoc X366 N0 Ga357
  have z367 : n0 ≤ h366.size := Nat.le_trans Z0 (Keep.of_wr W366).1
  have c368 := E357.wr W366
  have c369 := Fm357.other W366 (Or.inr (own_sn_72 hw))
  have c370 := Fc357.other W366 (Or.inr (own_sn_73 hw))
  have c371 := Ff357.other W366 (Or.inr (own_sn_74 hw))
  have c372 := Fe357.other W366 (Or.inr (own_sn_75 hw))
  have c374 := Vm357.other W366 (Ne.symm n1357)
  have c375 := Vc357.other W366 (Ne.symm n2357)
  obtain ⟨T376, X376, e376, st376⟩ := getF X366 hx hZ hown (host := "") (Or.inl (own_w hw 23 rfl)) Via.refl e366 c371 (g := (mkF m 40 #[.val (.ref a1), .val (.long q2), .second] [(.ref a1), (.ref a1)])) rfl rfl (hb hby d4_40)
  obtain ⟨T377, h377, X377, e377, W377, st377⟩ := putF X376 hx hZ hown (host := "") (Or.inl (own_w hw 23 rfl)) Via.refl e376 c371 c368 (Or.inl (own_w hw 24 rfl)) (own_w hw 4 rfl) (ty := .int) (by decide) rfl rfl (g := (mkF m 45 #[.val (.ref a1), .val (.long q2), .second] [(.int (1 : Int32)), (.ref a1)])) rfl rfl (hb hby d4_45)
  have Fw377 := c371.same W377
  have N377 := Fr.snoc X377 N366 Ga357
  have z378 : n0 ≤ h377.size := Nat.le_trans z367 (Keep.of_wr W377).1
  have c379 := c368.wr W377
  have c380 := c369.other W377 (Or.inr (own_sn_134 hw))
  have c381 := c370.other W377 (Or.inr (own_sn_135 hw))
  have c383 := c372.other W377 (Or.inr (own_sn_136 hw))
  have c384 := c374.other W377 (Ne.symm n1357)
  have c385 := c375.other W377 (Ne.symm n2357)
  have c386 := Fw366.other W377 (Or.inr (own_sn_137 hw))
  obtain ⟨T387, X387, e387, st387⟩ := getF X377 hx hZ hown (host := "") (Or.inl (own_w hw 23 rfl)) Via.refl e377 Fw377 (g := (mkF m 1 #[.val (.ref a1), .val (.long q2), .second] [(.ref a1)])) rfl rfl (hb hby d4_1)
  obtain ⟨T388, X388, e388, st388⟩ := getF X387 hx hZ hown (host := "") (Or.inl (own_w hw 25 rfl)) Via.refl e387 c383 (g := (mkF m 5 #[.val (.ref a1), .val (.long q2), .second] [(.ref a1), (.int (1 : Int32))])) rfl rfl (hb hby d4_5)
  obtain ⟨T389, X389, e389, st389⟩ := getF X388 hx hZ hown (host := "") (Or.inl (own_w hw 13 rfl)) Via.refl e388 c380 (g := (mkF m 12 #[.val (.ref a1), .val (.long q2), .second] [(.ref a1)])) rfl rfl (hb hby d4_12)
  obtain ⟨T390, X390, e390, st390⟩ := getF X389 hx hZ hown (host := "") (Or.inl (own_w hw 23 rfl)) Via.refl e389 Fw377 (g := (mkF m 16 #[.val (.ref a1), .val (.long q2), .second] [(.ref a1), (.ref am357)])) rfl rfl (hb hby d4_16)
  obtain ⟨cl391, A391, q391, S391, M391, H391, J391⟩ := id c384
  have hin391 : ¬ ((1 : Int32) < 0 ∨ cl391.slots.size ≤ ((1 : Int32)).toNatClampNeg) := inb_of S391 ⟨by decide, by decide⟩
  have hat391 : cl391.slots[((1 : Int32)).toNatClampNeg]? = some (.long x1) := H391.at hin391 rfl
  obtain ⟨T392, X392, e392, st392⟩ := getF X390 hx hZ hown (host := "") (Or.inl (own_w hw 16 rfl)) Via.refl e390 c381 (g := (mkF m 27 #[.val (.ref a1), .val (.long q2), .second] [(.ref a1), (.ref a1)])) rfl rfl (hb hby d4_27)
  obtain ⟨T393, X393, e393, st393⟩ := getF X392 hx hZ hown (host := "") (Or.inl (own_w hw 23 rfl)) Via.refl e392 Fw377 (g := (mkF m 31 #[.val (.ref a1), .val (.long q2), .second] [(.ref a1), (.ref ac357), (.ref a1)])) rfl rfl (hb hby d4_31)
  obtain ⟨cl394, A394, q394, S394, M394, H394, J394⟩ := id c385
  have hin394 : ¬ ((1 : Int32) < 0 ∨ cl394.slots.size ≤ ((1 : Int32)).toNatClampNeg) := inb_of S394 ⟨by decide, by decide⟩
  have hat394 : cl394.slots[((1 : Int32)).toNatClampNeg]? = some (.int y1) := H394.at hin394 rfl
  obtain ⟨T395, h395, X395, e395, W395, st395⟩ := putF X393 hx hZ hown (host := "") (Or.inl (own_w hw 27 rfl)) Via.refl e393 c386 c379 (Or.inl (own_w hw 28 rfl)) (own_w hw 4 rfl) (ty := .int) (by decide) rfl rfl (g := (mkF m 35 #[.val (.ref a1), .val (.long q2), .second] [(.int y1), (.ref a1)])) rfl rfl (hb hby d4_35)
  have Fw395 := c386.same W395
  have N395 := Fr.snoc X395 N377 Ga357
  have z396 : n0 ≤ h395.size := Nat.le_trans z378 (Keep.of_wr W395).1
  have c397 := c379.wr W395
  have c398 := c380.other W395 (Or.inr (own_sn_72 hw))
  have c399 := c381.other W395 (Or.inr (own_sn_73 hw))
  have c400 := c383.other W395 (Or.inr (own_sn_75 hw))
  have c401 := c384.other W395 (Ne.symm n1357)
  have c402 := c385.other W395 (Ne.symm n2357)
  have c404 := Fw377.other W395 (Or.inr (own_sn_74 hw))
  obtain ⟨T405, X405, e405, st405⟩ := getF X395 hx hZ hown (host := "") (Or.inl (own_w hw 23 rfl)) Via.refl e395 c404 (g := (mkF m 40 #[.val (.ref a1), .val (.long q2), .second] [(.ref a1), (.ref a1)])) rfl rfl (hb hby d4_40)
  obtain ⟨T406, h406, X406, e406, W406, st406⟩ := putF X405 hx hZ hown (host := "") (Or.inl (own_w hw 23 rfl)) Via.refl e405 c404 c397 (Or.inl (own_w hw 24 rfl)) (own_w hw 4 rfl) (ty := .int) (by decide) rfl rfl (g := (mkF m 45 #[.val (.ref a1), .val (.long q2), .second] [(.int (2 : Int32)), (.ref a1)])) rfl rfl (hb hby d4_45)
  have Fw406 := c404.same W406
  have N406 := Fr.snoc X406 N395 Ga357
  have z407 : n0 ≤ h406.size := Nat.le_trans z396 (Keep.of_wr W406).1
  have c408 := c397.wr W406
  have c409 := c398.other W406 (Or.inr (own_sn_134 hw))
  have c410 := c399.other W406 (Or.inr (own_sn_135 hw))
  have c411 := c400.other W406 (Or.inr (own_sn_136 hw))
  have c412 := c401.other W406 (Ne.symm n1357)
  have c413 := c402.other W406 (Ne.symm n2357)
  have c415 := Fw395.other W406 (Or.inr (own_sn_137 hw))
  obtain ⟨T416, X416, e416, st416⟩ := getF X406 hx hZ hown (host := "") (Or.inl (own_w hw 23 rfl)) Via.refl e406 Fw406 (g := (mkF m 1 #[.val (.ref a1), .val (.long q2), .second] [(.ref a1)])) rfl rfl (hb hby d4_1)
  obtain ⟨T417, X417, e417, st417⟩ := getF X416 hx hZ hown (host := "") (Or.inl (own_w hw 25 rfl)) Via.refl e416 c411 (g := (mkF m 5 #[.val (.ref a1), .val (.long q2), .second] [(.ref a1), (.int (2 : Int32))])) rfl rfl (hb hby d4_5)
  have pre418 : ∀ t, Steps p.tables e below (T417.setTop (mkF m 51 #[.val (.ref a1), .val (.long q2), .second] [])) t → Steps p.tables e below (s₁.setTop (entryFrame m #[(.ref a1), (.long q2)] 3)) t := fun t kt => pre0 t (by
    show Steps p.tables e below (s₁.setTop (mkF m 0 #[.val (.ref a1), .val (.long q2), .second] [])) _
    refine XS.aloadN X0.here hx rfl (hb hby d4_0) rfl rfl ?_
    refine st358 _ ?_
    refine XS.aloadN X358.here hx rfl (hb hby d4_4) rfl rfl ?_
    refine st359 _ ?_
    refine XS.icmpNo X359.here hx rfl (hb hby d4_8) rfl (tlt (by decide : (0 : Int32) < (2 : Int32))).2.1 ?_
    refine XS.aloadN X359.here hx rfl (hb hby d4_11) rfl rfl ?_
    refine st360 _ ?_
    refine XS.aloadN X360.here hx rfl (hb hby d4_15) rfl rfl ?_
    refine st361 _ ?_
    refine X361.laload hx (j := (0 : Int32)) (v := (.long x0)) (by rw [e361]; exact A362.1) (State.isArrayOf_alike hZ.alike A362.2.1) A362.2.2 hin362 hat362 (g := (mkF m 19 #[.val (.ref a1), .val (.long q2), .second] [(.int (0 : Int32)), (.ref am357)])) rfl rfl (hb hby d4_19) _ ?_
    refine XS.lloadN X361.here hx rfl (hb hby d4_20) rfl ?_
    refine XS.lcmp X361.here hx rfl (hb hby d4_21) rfl ?_
    show Steps p.tables e below (T361.setTop (mkF m 22 #[.val (.ref a1), .val (.long q2), .second] [(.int (lcmpW x0 q2))])) _
    refine XS.ifNo X361.here hx rfl (hb hby d4_22) rfl ((if0 _ _).trans (tlt ((lw_lt _ _).mpr c0)).2.1) ?_
    refine XS.aloadN X361.here hx rfl (hb hby d4_25) rfl rfl ?_
    refine XS.aloadN X361.here hx rfl (hb hby d4_26) rfl rfl ?_
    refine st363 _ ?_
    refine XS.aloadN X363.here hx rfl (hb hby d4_30) rfl rfl ?_
    refine st364 _ ?_
    refine X364.iaload hx (j := (0 : Int32)) (v := (.int y0)) (by rw [e364]; exact A365.1) (State.isArrayOf_alike hZ.alike A365.2.1) A365.2.2 hin365 hat365 (g := (mkF m 34 #[.val (.ref a1), .val (.long q2), .second] [(.int (0 : Int32)), (.ref ac357), (.ref a1)])) rfl rfl (hb hby d4_34) _ ?_
    refine st366 _ ?_
    refine XS.aloadN X366.here hx rfl (hb hby d4_38) rfl rfl ?_
    refine XS.dup X366.here hx rfl (hb hby d4_39) rfl rfl ?_
    refine st376 _ ?_
    refine XS.iconst X376.here hx rfl (hb hby d4_43) ?_
    show Steps p.tables e below (T376.setTop (mkF m 44 #[.val (.ref a1), .val (.long q2), .second] [(.int (1 : Int32)), (.int (0 : Int32)), (.ref a1)])) _
    refine XS.iadd X376.here hx rfl (hb hby d4_44) rfl ?_
    refine st377 _ ?_
    refine XS.goto X377.here hx rfl (pc0 := 48) (pc' := 0) rfl (hb hby d4_48) (by decide) (by decide) ?_
    refine XS.aloadN X377.here hx rfl (hb hby d4_0) rfl rfl ?_
    refine st387 _ ?_
    refine XS.aloadN X387.here hx rfl (hb hby d4_4) rfl rfl ?_
    refine st388 _ ?_
    refine XS.icmpNo X388.here hx rfl (hb hby d4_8) rfl (tlt (by decide : (1 : Int32) < (2 : Int32))).2.1 ?_
    refine XS.aloadN X388.here hx rfl (hb hby d4_11) rfl rfl ?_
    refine st389 _ ?_
    refine XS.aloadN X389.here hx rfl (hb hby d4_15) rfl rfl ?_
    refine st390 _ ?_
    show Steps p.tables e below (T390.setTop (mkF m 19 #[.val (.ref a1), .val (.long q2), .second] [(.int (1 : Int32)), (.ref am357)])) _
    refine X390.laload hx (j := (1 : Int32)) (v := (.long x1)) (by rw [e390]; exact A391.1) (State.isArrayOf_alike hZ.alike A391.2.1) A391.2.2 hin391 hat391 (g := (mkF m 19 #[.val (.ref a1), .val (.long q2), .second] [(.int (1 : Int32)), (.ref am357)])) rfl rfl (hb hby d4_19) _ ?_
    refine XS.lloadN X390.here hx rfl (hb hby d4_20) rfl ?_
    refine XS.lcmp X390.here hx rfl (hb hby d4_21) rfl ?_
    refine XS.ifNo X390.here hx rfl (hb hby d4_22) rfl ((if0 _ _).trans (tlt ((lw_lt _ _).mpr c1)).2.1) ?_
    refine XS.aloadN X390.here hx rfl (hb hby d4_25) rfl rfl ?_
    refine XS.aloadN X390.here hx rfl (hb hby d4_26) rfl rfl ?_
    refine st392 _ ?_
    refine XS.aloadN X392.here hx rfl (hb hby d4_30) rfl rfl ?_
    refine st393 _ ?_
    refine X393.iaload hx (j := (1 : Int32)) (v := (.int y1)) (by rw [e393]; exact A394.1) (State.isArrayOf_alike hZ.alike A394.2.1) A394.2.2 hin394 hat394 (g := (mkF m 34 #[.val (.ref a1), .val (.long q2), .second] [(.int (1 : Int32)), (.ref ac357), (.ref a1)])) rfl rfl (hb hby d4_34) _ ?_
    refine st395 _ ?_
    refine XS.aloadN X395.here hx rfl (hb hby d4_38) rfl rfl ?_
    show Steps p.tables e below (T395.setTop (mkF m 39 #[.val (.ref a1), .val (.long q2), .second] [(.ref a1)])) _
    refine XS.dup X395.here hx rfl (hb hby d4_39) rfl rfl ?_
    refine st405 _ ?_
    refine XS.iconst X405.here hx rfl (hb hby d4_43) ?_
    refine XS.iadd X405.here hx rfl (hb hby d4_44) rfl ?_
    refine st406 _ ?_
    refine XS.goto X406.here hx rfl (pc0 := 48) (pc' := 0) rfl (hb hby d4_48) (by decide) (by decide) ?_
    refine XS.aloadN X406.here hx rfl (hb hby d4_0) rfl rfl ?_
    refine st416 _ ?_
    refine XS.aloadN X416.here hx rfl (hb hby d4_4) rfl rfl ?_
    refine st417 _ ?_
    refine XS.icmpYes X417.here hx rfl (pc0 := 8) (pc' := 51) rfl (hb hby d4_8) rfl (flt (by decide : ¬ ((2 : Int32) < (2 : Int32)))).2.1 (by decide) (by decide) ?_
    exact kt)
  have hz : h0.size ≤ h406.size := Nat.le_trans (Nat.le_trans (Nat.le_trans (Nat.le_trans (Nat.le_refl _) (Keep.of_wr W366).1) (Keep.of_wr W377).1) (Keep.of_wr W395).1) (Keep.of_wr W406).1
  have hQ : QFgt022_2 Z a1 q2 x0 x1 y0 y1 b h0 n0 none h406 _ := ⟨rfl, N406, hz, ⟨am357, ac357, km357, kc357, c408, c409, c410, Fw406, c411, c415, c412, c413, Ga357, Gm357, Gc357, n1357, n2357, n3357⟩⟩
  exact own_retV X417 hx Bd.notSynchronized Bd.returns (hb hby d4_51) pre418 (show QFgt022_2 Z a1 q2 x0 x1 y0 y1 b h0 n0 _ _ _ from (by rw [e417]; exact hQ)) (by decide) (by decide)
def QFgt022_1 (Z : State) (a1 : Addr) (q2 : Int64) (x0 : Int64) (x1 : Int64) (y0 : Int32) (y1 : Int32) (b : Int32) (h0 : Heap) (n0 : Nat) (v : Option Value) (h : Heap) (L : List Loc) : Prop := v = none ∧ Fr n0 L ∧ h0.size ≤ h.size ∧ PT Z h n0 a1 (1 : Int32) (2 : Int32) (2 : Int32) [(.long x0), (.long x1)] [(.int y0), (.int y1)] y0
set_option maxRecDepth 65536 in
set_option maxHeartbeats 40000000 in
theorem rmFgt022_1 (l : Launch) (Z : State) (a0 : Array Value) (hw : ∀ d ∈ tables_1, d.before a0 Z = true) (ws : List Jvm.Cond) (a1 : Addr) (q2 : Int64) (x0 : Int64) (x1 : Int64) (y0 : Int32) (y1 : Int32) (b : Int32) (h0 : Heap) (n0 : Nat) (Z0 : n0 ≤ h0.size) (P0 : PT Z h0 n0 a1 (0 : Int32) (2 : Int32) (2 : Int32) [(.long x0), (.long x1)] [(.int y0), (.int y1)] b) (c0 : x0 < q2) (c1 : ¬ (x1 < q2)) :
    MetFree l own_y_32 (head1 (Jvm.Cond.code own_y_32 prog_25_method_4_code 3 none :: ws) ({ frames := 0, cells := 0, slots := 0, locals := 0 } : Room)) (fun a U => a = #[(.ref a1), (.long q2)] ∧ Z.Warmed39 U.vm ∧ U.heap = h0) (fun _ _ _ _ _ => True) (fun _ U o U' => ∃ v L, o = .returned v ∧ QFgt022_1 Z a1 q2 x0 x1 y0 y1 b h0 n0 v U'.heap L ∧ FrameEnd U o U' L ({ frames := 0, cells := 0, slots := 0, locals := 0 } : Room).cells ({ frames := 0, cells := 0, slots := 0, locals := 0 } : Room).slots) := by
  refine MetFree.of_bodySF (plainFor_of_name pn_2) hisR ?_
  intro p e s m args below meth c s₁ Bd hml0 hP hK
  obtain ⟨rfl, hZ, hh⟩ := hP
  have hx := Bd.exec
  have hby := Bd.bytes
  have hml : c.maxLocals = 3 := hml0
  have hown : s.vm.findClass "com/example/viral_counter/viralcounter/PostTrend" = some m.cls := findClass_of_methodNamed Bd.named
  have hnm := (name_of_methodNamed Bd.named Bd.method).1
  have X0 : Stand p l e ({ frames := 0, cells := 0, slots := 0, locals := 0 } : Room) s m #[(.ref a1), (.long q2)] below meth c s₁ [] 0 0 := Stand.of_body Bd
  have e0 : s₁.heap = h0 := by rw [← hh, Bd.state]; rfl
  have N0 := Fr.nil n0
  have pre0 : ∀ t, Steps p.tables e below (s₁.setTop (mkF m 0 #[.val (.ref a1), .val (.long q2), .second] [])) t → Steps p.tables e below (s₁.setTop (entryFrame m #[(.ref a1), (.long q2)] 3)) t := fun t k => castTop (ef_33 m a1 q2) k
  obtain ⟨am425, ac425, km425, kc425, E425, Fm425, Fc425, Ff425, Fe425, Fb425, Vm425, Vc425, Ga425, Gm425, Gc425, n1425, n2425, n3425⟩ := id P0
  have hz0 : h0.size ≤ h0.size := Nat.le_refl _
  obtain ⟨T426, X426, e426, st426⟩ := getF X0 hx hZ hown (host := "") (Or.inl (own_w hw 23 rfl)) Via.refl e0 Ff425 (g := (mkF m 1 #[.val (.ref a1), .val (.long q2), .second] [(.ref a1)])) rfl rfl (hb hby d4_1)
  obtain ⟨T427, X427, e427, st427⟩ := getF X426 hx hZ hown (host := "") (Or.inl (own_w hw 25 rfl)) Via.refl e426 Fe425 (g := (mkF m 5 #[.val (.ref a1), .val (.long q2), .second] [(.ref a1), (.int (0 : Int32))])) rfl rfl (hb hby d4_5)
  obtain ⟨T428, X428, e428, st428⟩ := getF X427 hx hZ hown (host := "") (Or.inl (own_w hw 13 rfl)) Via.refl e427 Fm425 (g := (mkF m 12 #[.val (.ref a1), .val (.long q2), .second] [(.ref a1)])) rfl rfl (hb hby d4_12)
  obtain ⟨T429, X429, e429, st429⟩ := getF X428 hx hZ hown (host := "") (Or.inl (own_w hw 23 rfl)) Via.refl e428 Ff425 (g := (mkF m 16 #[.val (.ref a1), .val (.long q2), .second] [(.ref a1), (.ref am425)])) rfl rfl (hb hby d4_16)
  obtain ⟨cl430, A430, q430, S430, M430, H430, J430⟩ := id Vm425
  have hin430 : ¬ ((0 : Int32) < 0 ∨ cl430.slots.size ≤ ((0 : Int32)).toNatClampNeg) := inb_of S430 ⟨by decide, by decide⟩
  have hat430 : cl430.slots[((0 : Int32)).toNatClampNeg]? = some (.long x0) := H430.at hin430 rfl
  obtain ⟨T431, X431, e431, st431⟩ := getF X429 hx hZ hown (host := "") (Or.inl (own_w hw 16 rfl)) Via.refl e429 Fc425 (g := (mkF m 27 #[.val (.ref a1), .val (.long q2), .second] [(.ref a1), (.ref a1)])) rfl rfl (hb hby d4_27)
  obtain ⟨T432, X432, e432, st432⟩ := getF X431 hx hZ hown (host := "") (Or.inl (own_w hw 23 rfl)) Via.refl e431 Ff425 (g := (mkF m 31 #[.val (.ref a1), .val (.long q2), .second] [(.ref a1), (.ref ac425), (.ref a1)])) rfl rfl (hb hby d4_31)
  obtain ⟨cl433, A433, q433, S433, M433, H433, J433⟩ := id Vc425
  have hin433 : ¬ ((0 : Int32) < 0 ∨ cl433.slots.size ≤ ((0 : Int32)).toNatClampNeg) := inb_of S433 ⟨by decide, by decide⟩
  have hat433 : cl433.slots[((0 : Int32)).toNatClampNeg]? = some (.int y0) := H433.at hin433 rfl
  obtain ⟨T434, h434, X434, e434, W434, st434⟩ := putF X432 hx hZ hown (host := "") (Or.inl (own_w hw 27 rfl)) Via.refl e432 Fb425 E425 (Or.inl (own_w hw 28 rfl)) (own_w hw 4 rfl) (ty := .int) (by decide) rfl rfl (g := (mkF m 35 #[.val (.ref a1), .val (.long q2), .second] [(.int y0), (.ref a1)])) rfl rfl (hb hby d4_35)
  have Fw434 := Fb425.same W434
  have N434 := Fr.snoc X434 N0 Ga425
  have z435 : n0 ≤ h434.size := Nat.le_trans Z0 (Keep.of_wr W434).1
  have c436 := E425.wr W434
  have c437 := Fm425.other W434 (Or.inr (own_sn_72 hw))
  have c438 := Fc425.other W434 (Or.inr (own_sn_73 hw))
  have c439 := Ff425.other W434 (Or.inr (own_sn_74 hw))
  have c440 := Fe425.other W434 (Or.inr (own_sn_75 hw))
  have c442 := Vm425.other W434 (Ne.symm n1425)
  have c443 := Vc425.other W434 (Ne.symm n2425)
  obtain ⟨T444, X444, e444, st444⟩ := getF X434 hx hZ hown (host := "") (Or.inl (own_w hw 23 rfl)) Via.refl e434 c439 (g := (mkF m 40 #[.val (.ref a1), .val (.long q2), .second] [(.ref a1), (.ref a1)])) rfl rfl (hb hby d4_40)
  obtain ⟨T445, h445, X445, e445, W445, st445⟩ := putF X444 hx hZ hown (host := "") (Or.inl (own_w hw 23 rfl)) Via.refl e444 c439 c436 (Or.inl (own_w hw 24 rfl)) (own_w hw 4 rfl) (ty := .int) (by decide) rfl rfl (g := (mkF m 45 #[.val (.ref a1), .val (.long q2), .second] [(.int (1 : Int32)), (.ref a1)])) rfl rfl (hb hby d4_45)
  have Fw445 := c439.same W445
  have N445 := Fr.snoc X445 N434 Ga425
  have z446 : n0 ≤ h445.size := Nat.le_trans z435 (Keep.of_wr W445).1
  have c447 := c436.wr W445
  have c448 := c437.other W445 (Or.inr (own_sn_134 hw))
  have c449 := c438.other W445 (Or.inr (own_sn_135 hw))
  have c451 := c440.other W445 (Or.inr (own_sn_136 hw))
  have c452 := c442.other W445 (Ne.symm n1425)
  have c453 := c443.other W445 (Ne.symm n2425)
  have c454 := Fw434.other W445 (Or.inr (own_sn_137 hw))
  obtain ⟨T455, X455, e455, st455⟩ := getF X445 hx hZ hown (host := "") (Or.inl (own_w hw 23 rfl)) Via.refl e445 Fw445 (g := (mkF m 1 #[.val (.ref a1), .val (.long q2), .second] [(.ref a1)])) rfl rfl (hb hby d4_1)
  obtain ⟨T456, X456, e456, st456⟩ := getF X455 hx hZ hown (host := "") (Or.inl (own_w hw 25 rfl)) Via.refl e455 c451 (g := (mkF m 5 #[.val (.ref a1), .val (.long q2), .second] [(.ref a1), (.int (1 : Int32))])) rfl rfl (hb hby d4_5)
  obtain ⟨T457, X457, e457, st457⟩ := getF X456 hx hZ hown (host := "") (Or.inl (own_w hw 13 rfl)) Via.refl e456 c448 (g := (mkF m 12 #[.val (.ref a1), .val (.long q2), .second] [(.ref a1)])) rfl rfl (hb hby d4_12)
  obtain ⟨T458, X458, e458, st458⟩ := getF X457 hx hZ hown (host := "") (Or.inl (own_w hw 23 rfl)) Via.refl e457 Fw445 (g := (mkF m 16 #[.val (.ref a1), .val (.long q2), .second] [(.ref a1), (.ref am425)])) rfl rfl (hb hby d4_16)
  obtain ⟨cl459, A459, q459, S459, M459, H459, J459⟩ := id c452
  have hin459 : ¬ ((1 : Int32) < 0 ∨ cl459.slots.size ≤ ((1 : Int32)).toNatClampNeg) := inb_of S459 ⟨by decide, by decide⟩
  have hat459 : cl459.slots[((1 : Int32)).toNatClampNeg]? = some (.long x1) := H459.at hin459 rfl
  have pre460 : ∀ t, Steps p.tables e below (T458.setTop (mkF m 51 #[.val (.ref a1), .val (.long q2), .second] [])) t → Steps p.tables e below (s₁.setTop (entryFrame m #[(.ref a1), (.long q2)] 3)) t := fun t kt => pre0 t (by
    show Steps p.tables e below (s₁.setTop (mkF m 0 #[.val (.ref a1), .val (.long q2), .second] [])) _
    refine XS.aloadN X0.here hx rfl (hb hby d4_0) rfl rfl ?_
    refine st426 _ ?_
    refine XS.aloadN X426.here hx rfl (hb hby d4_4) rfl rfl ?_
    refine st427 _ ?_
    refine XS.icmpNo X427.here hx rfl (hb hby d4_8) rfl (tlt (by decide : (0 : Int32) < (2 : Int32))).2.1 ?_
    refine XS.aloadN X427.here hx rfl (hb hby d4_11) rfl rfl ?_
    refine st428 _ ?_
    refine XS.aloadN X428.here hx rfl (hb hby d4_15) rfl rfl ?_
    refine st429 _ ?_
    refine X429.laload hx (j := (0 : Int32)) (v := (.long x0)) (by rw [e429]; exact A430.1) (State.isArrayOf_alike hZ.alike A430.2.1) A430.2.2 hin430 hat430 (g := (mkF m 19 #[.val (.ref a1), .val (.long q2), .second] [(.int (0 : Int32)), (.ref am425)])) rfl rfl (hb hby d4_19) _ ?_
    refine XS.lloadN X429.here hx rfl (hb hby d4_20) rfl ?_
    refine XS.lcmp X429.here hx rfl (hb hby d4_21) rfl ?_
    show Steps p.tables e below (T429.setTop (mkF m 22 #[.val (.ref a1), .val (.long q2), .second] [(.int (lcmpW x0 q2))])) _
    refine XS.ifNo X429.here hx rfl (hb hby d4_22) rfl ((if0 _ _).trans (tlt ((lw_lt _ _).mpr c0)).2.1) ?_
    refine XS.aloadN X429.here hx rfl (hb hby d4_25) rfl rfl ?_
    refine XS.aloadN X429.here hx rfl (hb hby d4_26) rfl rfl ?_
    refine st431 _ ?_
    refine XS.aloadN X431.here hx rfl (hb hby d4_30) rfl rfl ?_
    refine st432 _ ?_
    refine X432.iaload hx (j := (0 : Int32)) (v := (.int y0)) (by rw [e432]; exact A433.1) (State.isArrayOf_alike hZ.alike A433.2.1) A433.2.2 hin433 hat433 (g := (mkF m 34 #[.val (.ref a1), .val (.long q2), .second] [(.int (0 : Int32)), (.ref ac425), (.ref a1)])) rfl rfl (hb hby d4_34) _ ?_
    refine st434 _ ?_
    refine XS.aloadN X434.here hx rfl (hb hby d4_38) rfl rfl ?_
    refine XS.dup X434.here hx rfl (hb hby d4_39) rfl rfl ?_
    refine st444 _ ?_
    refine XS.iconst X444.here hx rfl (hb hby d4_43) ?_
    show Steps p.tables e below (T444.setTop (mkF m 44 #[.val (.ref a1), .val (.long q2), .second] [(.int (1 : Int32)), (.int (0 : Int32)), (.ref a1)])) _
    refine XS.iadd X444.here hx rfl (hb hby d4_44) rfl ?_
    refine st445 _ ?_
    refine XS.goto X445.here hx rfl (pc0 := 48) (pc' := 0) rfl (hb hby d4_48) (by decide) (by decide) ?_
    refine XS.aloadN X445.here hx rfl (hb hby d4_0) rfl rfl ?_
    refine st455 _ ?_
    refine XS.aloadN X455.here hx rfl (hb hby d4_4) rfl rfl ?_
    refine st456 _ ?_
    refine XS.icmpNo X456.here hx rfl (hb hby d4_8) rfl (tlt (by decide : (1 : Int32) < (2 : Int32))).2.1 ?_
    refine XS.aloadN X456.here hx rfl (hb hby d4_11) rfl rfl ?_
    refine st457 _ ?_
    refine XS.aloadN X457.here hx rfl (hb hby d4_15) rfl rfl ?_
    refine st458 _ ?_
    show Steps p.tables e below (T458.setTop (mkF m 19 #[.val (.ref a1), .val (.long q2), .second] [(.int (1 : Int32)), (.ref am425)])) _
    refine X458.laload hx (j := (1 : Int32)) (v := (.long x1)) (by rw [e458]; exact A459.1) (State.isArrayOf_alike hZ.alike A459.2.1) A459.2.2 hin459 hat459 (g := (mkF m 19 #[.val (.ref a1), .val (.long q2), .second] [(.int (1 : Int32)), (.ref am425)])) rfl rfl (hb hby d4_19) _ ?_
    refine XS.lloadN X458.here hx rfl (hb hby d4_20) rfl ?_
    refine XS.lcmp X458.here hx rfl (hb hby d4_21) rfl ?_
    refine XS.ifYes X458.here hx rfl (pc0 := 22) (pc' := 51) rfl (hb hby d4_22) rfl ((if0 _ _).trans (flt (fun q => c1 ((lw_lt _ _).mp q))).2.1) (by decide) (by decide) ?_
    exact kt)
  have hz : h0.size ≤ h445.size := Nat.le_trans (Nat.le_trans (Nat.le_refl _) (Keep.of_wr W434).1) (Keep.of_wr W445).1
  have hQ : QFgt022_1 Z a1 q2 x0 x1 y0 y1 b h0 n0 none h445 _ := ⟨rfl, N445, hz, ⟨am425, ac425, km425, kc425, c447, c448, c449, Fw445, c451, c454, c452, c453, Ga425, Gm425, Gc425, n1425, n2425, n3425⟩⟩
  exact own_retV X458 hx Bd.notSynchronized Bd.returns (hb hby d4_51) pre460 (show QFgt022_1 Z a1 q2 x0 x1 y0 y1 b h0 n0 _ _ _ from (by rw [e458]; exact hQ)) (by decide) (by decide)
set_option maxRecDepth 65536 in
set_option maxHeartbeats 40000000 in
theorem rmBs122 (l : Launch) (Z : State) (a0 : Array Value) (hw : ∀ d ∈ tables_1, d.before a0 Z = true) (ws : List Jvm.Cond) (a1 : Addr) (q4 : Int64) (k0 : ClassId) (x0 : Int64) (x1 : Int64) (r : Int32) (h0 : Heap) (n0 : Nat) (Z0 : n0 ≤ h0.size) (V0 : Arv Z h0 a1 k0 .long (2 : Int32) [(.long x0), (.long x1)] (.long (0 : Int64))) (er : (if x1 < q4 then (-3 : Int32) else (if q4 < x1 then (-2 : Int32) else (1 : Int32))) = r) :
    MetFree l own_y_185 (head1 (Jvm.Cond.code own_y_185 jdk_65_method_56_code 10 (some .int) :: ws) ({ frames := 0, cells := 0, slots := 0, locals := 0 } : Room)) (fun a U => a = #[(.ref a1), (.int (1 : Int32)), (.int (2 : Int32)), (.long q4)] ∧ Z.Warmed39 U.vm ∧ U.heap = h0) (fun _ _ _ _ _ => True) (fun _ U o U' => ∃ v L, o = .returned v ∧ QBs r h0 n0 v U'.heap L ∧ FrameEnd U o U' L ({ frames := 0, cells := 0, slots := 0, locals := 0 } : Room).cells ({ frames := 0, cells := 0, slots := 0, locals := 0 } : Room).slots) := by
  refine MetFree.of_bodySF (plainFor_of_name pn_187) hisR ?_
  intro p e s m args below meth c s₁ Bd hml0 hP hK
  obtain ⟨rfl, hZ, hh⟩ := hP
  have hx := Bd.exec
  have hby := Bd.bytes
  have hml : c.maxLocals = 10 := hml0
  have hown : s.vm.findClass "java/util/Arrays" = some m.cls := findClass_of_methodNamed Bd.named
  have hnm := (name_of_methodNamed Bd.named Bd.method).1
  have X0 : Stand p l e ({ frames := 0, cells := 0, slots := 0, locals := 0 } : Room) s m #[(.ref a1), (.int (1 : Int32)), (.int (2 : Int32)), (.long q4)] below meth c s₁ [] 0 0 := Stand.of_body Bd
  have e0 : s₁.heap = h0 := by rw [← hh, Bd.state]; rfl
  have N0 := Fr.nil n0
  have pre0 : ∀ t, Steps p.tables e below (s₁.setTop (mkF m 0 #[.val (.ref a1), .val (.int (1 : Int32)), .val (.int (2 : Int32)), .val (.long q4), .second, .unset, .unset, .unset, .unset, .unset] [])) t → Steps p.tables e below (s₁.setTop (entryFrame m #[(.ref a1), (.int (1 : Int32)), (.int (2 : Int32)), (.long q4)] 10)) t := fun t k => castTop (ef_186 m a1 (1 : Int32) (2 : Int32) q4) k
  obtain ⟨cl464, A464, q464, S464, M464, H464, J464⟩ := id V0
  have hin464 : ¬ ((1 : Int32) < 0 ∨ cl464.slots.size ≤ ((1 : Int32)).toNatClampNeg) := inb_of S464 ⟨by decide, by decide⟩
  have hat464 : cl464.slots[((1 : Int32)).toNatClampNeg]? = some (.long x1) := H464.at hin464 rfl
  have pre465 : ∀ t, Steps p.tables e below (s₁.setTop (mkF m 34 #[.val (.ref a1), .val (.int (1 : Int32)), .val (.int (2 : Int32)), .val (.long q4), .second, .val (.int (1 : Int32)), .val (.int (1 : Int32)), .val (.int (1 : Int32)), .val (.long x1), .second] [(.int (lcmpW x1 q4))])) t → Steps p.tables e below (s₁.setTop (entryFrame m #[(.ref a1), (.int (1 : Int32)), (.int (2 : Int32)), (.long q4)] 10)) t := fun t kt => pre0 t (by
    show Steps p.tables e below (s₁.setTop (mkF m 0 #[.val (.ref a1), .val (.int (1 : Int32)), .val (.int (2 : Int32)), .val (.long q4), .second, .unset, .unset, .unset, .unset, .unset] [])) _
    refine XS.iloadN X0.here hx rfl (hb hby d9_0) rfl ?_
    refine XS.istore X0.here hx rfl (hb hby d9_1) rfl (l' := #[.val (.ref a1), .val (.int (1 : Int32)), .val (.int (2 : Int32)), .val (.long q4), .second, .val (.int (1 : Int32)), .unset, .unset, .unset, .unset]) rfl ?_
    refine XS.iloadN X0.here hx rfl (hb hby d9_3) rfl ?_
    refine XS.iconst X0.here hx rfl (hb hby d9_4) ?_
    refine XS.isub X0.here hx rfl (hb hby d9_5) rfl ?_
    refine XS.istore X0.here hx rfl (hb hby d9_6) rfl (l' := #[.val (.ref a1), .val (.int (1 : Int32)), .val (.int (2 : Int32)), .val (.long q4), .second, .val (.int (1 : Int32)), .val (.int (1 : Int32)), .unset, .unset, .unset]) rfl ?_
    refine XS.iload X0.here hx rfl (hb hby d9_8) rfl ?_
    refine XS.iload X0.here hx rfl (hb hby d9_10) rfl ?_
    refine XS.icmpNo X0.here hx rfl (hb hby d9_12) rfl (flt (by decide : ¬ ((1 : Int32) < (1 : Int32)))).2.2.1 ?_
    refine XS.iload X0.here hx rfl (hb hby d9_15) rfl ?_
    refine XS.iload X0.here hx rfl (hb hby d9_17) rfl ?_
    refine XS.iadd X0.here hx rfl (hb hby d9_19) rfl ?_
    show Steps p.tables e below (s₁.setTop (mkF m 20 #[.val (.ref a1), .val (.int (1 : Int32)), .val (.int (2 : Int32)), .val (.long q4), .second, .val (.int (1 : Int32)), .val (.int (1 : Int32)), .unset, .unset, .unset] [(.int (2 : Int32))])) _
    refine XS.iconst X0.here hx rfl (hb hby d9_20) ?_
    refine XS.iushr X0.here hx rfl (hb hby d9_21) rfl ?_
    refine XS.istore X0.here hx rfl (hb hby d9_22) rfl (l' := #[.val (.ref a1), .val (.int (1 : Int32)), .val (.int (2 : Int32)), .val (.long q4), .second, .val (.int (1 : Int32)), .val (.int (1 : Int32)), .val (.int (1 : Int32)), .unset, .unset]) rfl ?_
    refine XS.aloadN X0.here hx rfl (hb hby d9_24) rfl rfl ?_
    refine XS.iload X0.here hx rfl (hb hby d9_25) rfl ?_
    refine X0.laload hx (j := (1 : Int32)) (v := (.long x1)) (by rw [e0]; exact A464.1) (State.isArrayOf_alike hZ.alike A464.2.1) A464.2.2 hin464 hat464 (g := (mkF m 27 #[.val (.ref a1), .val (.int (1 : Int32)), .val (.int (2 : Int32)), .val (.long q4), .second, .val (.int (1 : Int32)), .val (.int (1 : Int32)), .val (.int (1 : Int32)), .unset, .unset] [(.int (1 : Int32)), (.ref a1)])) rfl rfl (hb hby d9_27) _ ?_
    refine XS.lstore X0.here hx rfl (hb hby d9_28) rfl (l' := #[.val (.ref a1), .val (.int (1 : Int32)), .val (.int (2 : Int32)), .val (.long q4), .second, .val (.int (1 : Int32)), .val (.int (1 : Int32)), .val (.int (1 : Int32)), .val (.long x1), .second]) rfl ?_
    refine XS.lload X0.here hx rfl (hb hby d9_30) rfl ?_
    refine XS.lloadN X0.here hx rfl (hb hby d9_32) rfl ?_
    refine XS.lcmp X0.here hx rfl (hb hby d9_33) rfl ?_
    exact kt)
  by_cases hc466 : x1 < q4
  case pos =>
    have pre469 : ∀ t, Steps p.tables e below (s₁.setTop (mkF m 73 #[.val (.ref a1), .val (.int (1 : Int32)), .val (.int (2 : Int32)), .val (.long q4), .second, .val (.int (2 : Int32)), .val (.int (1 : Int32)), .val (.int (1 : Int32)), .val (.long x1), .second] [(.int (-3 : Int32))])) t → Steps p.tables e below (s₁.setTop (entryFrame m #[(.ref a1), (.int (1 : Int32)), (.int (2 : Int32)), (.long q4)] 10)) t := fun t kt => pre465 t (by
      show Steps p.tables e below (s₁.setTop (mkF m 34 #[.val (.ref a1), .val (.int (1 : Int32)), .val (.int (2 : Int32)), .val (.long q4), .second, .val (.int (1 : Int32)), .val (.int (1 : Int32)), .val (.int (1 : Int32)), .val (.long x1), .second] [(.int (lcmpW x1 q4))])) _
      refine XS.ifNo X0.here hx rfl (hb hby d9_34) rfl ((if0 _ _).trans (tlt ((lw_lt _ _).mpr hc466)).2.1) ?_
      refine XS.iload X0.here hx rfl (hb hby d9_37) rfl ?_
      refine XS.iconst X0.here hx rfl (hb hby d9_39) ?_
      refine XS.iadd X0.here hx rfl (hb hby d9_40) rfl ?_
      refine XS.istore X0.here hx rfl (hb hby d9_41) rfl (l' := #[.val (.ref a1), .val (.int (1 : Int32)), .val (.int (2 : Int32)), .val (.long q4), .second, .val (.int (2 : Int32)), .val (.int (1 : Int32)), .val (.int (1 : Int32)), .val (.long x1), .second]) rfl ?_
      refine XS.goto X0.here hx rfl (pc0 := 43) (pc' := 65) rfl (hb hby d9_43) (by decide) (by decide) ?_
      refine XS.goto X0.here hx rfl (pc0 := 65) (pc' := 8) rfl (hb hby d9_65) (by decide) (by decide) ?_
      refine XS.iload X0.here hx rfl (hb hby d9_8) rfl ?_
      refine XS.iload X0.here hx rfl (hb hby d9_10) rfl ?_
      refine XS.icmpYes X0.here hx rfl (pc0 := 12) (pc' := 68) rfl (hb hby d9_12) rfl (tlt (by decide : (1 : Int32) < (2 : Int32))).2.2.1 (by decide) (by decide) ?_
      refine XS.iload X0.here hx rfl (hb hby d9_68) rfl ?_
      refine XS.iconst X0.here hx rfl (hb hby d9_70) ?_
      show Steps p.tables e below (s₁.setTop (mkF m 71 #[.val (.ref a1), .val (.int (1 : Int32)), .val (.int (2 : Int32)), .val (.long q4), .second, .val (.int (2 : Int32)), .val (.int (1 : Int32)), .val (.int (1 : Int32)), .val (.long x1), .second] [(.int (1 : Int32)), (.int (2 : Int32))])) _
      refine XS.iadd X0.here hx rfl (hb hby d9_71) rfl ?_
      refine XS.ineg X0.here hx rfl (hb hby d9_72) rfl ?_
      exact kt)
    have ev : r = (-3 : Int32) := er.symm.trans (if_pos hc466)
    exact own_retI X0 hx Bd.notSynchronized Bd.returns (hb hby d9_73) pre469 (show QBs r h0 n0 _ _ _ from ⟨by rw [ev], N0, e0⟩) (by decide) (by decide)
  case neg =>
    have pre467 : ∀ t, Steps p.tables e below (s₁.setTop (mkF m 50 #[.val (.ref a1), .val (.int (1 : Int32)), .val (.int (2 : Int32)), .val (.long q4), .second, .val (.int (1 : Int32)), .val (.int (1 : Int32)), .val (.int (1 : Int32)), .val (.long x1), .second] [(.int (lcmpW x1 q4))])) t → Steps p.tables e below (s₁.setTop (entryFrame m #[(.ref a1), (.int (1 : Int32)), (.int (2 : Int32)), (.long q4)] 10)) t := fun t kt => pre465 t (by
      show Steps p.tables e below (s₁.setTop (mkF m 34 #[.val (.ref a1), .val (.int (1 : Int32)), .val (.int (2 : Int32)), .val (.long q4), .second, .val (.int (1 : Int32)), .val (.int (1 : Int32)), .val (.int (1 : Int32)), .val (.long x1), .second] [(.int (lcmpW x1 q4))])) _
      refine XS.ifYes X0.here hx rfl (pc0 := 34) (pc' := 46) rfl (hb hby d9_34) rfl ((if0 _ _).trans (flt (fun q => hc466 ((lw_lt _ _).mp q))).2.1) (by decide) (by decide) ?_
      refine XS.lload X0.here hx rfl (hb hby d9_46) rfl ?_
      refine XS.lloadN X0.here hx rfl (hb hby d9_48) rfl ?_
      refine XS.lcmp X0.here hx rfl (hb hby d9_49) rfl ?_
      exact kt)
    by_cases hc468 : q4 < x1
    case pos =>
      have pre470 : ∀ t, Steps p.tables e below (s₁.setTop (mkF m 73 #[.val (.ref a1), .val (.int (1 : Int32)), .val (.int (2 : Int32)), .val (.long q4), .second, .val (.int (1 : Int32)), .val (.int (0 : Int32)), .val (.int (1 : Int32)), .val (.long x1), .second] [(.int (-2 : Int32))])) t → Steps p.tables e below (s₁.setTop (entryFrame m #[(.ref a1), (.int (1 : Int32)), (.int (2 : Int32)), (.long q4)] 10)) t := fun t kt => pre467 t (by
        show Steps p.tables e below (s₁.setTop (mkF m 50 #[.val (.ref a1), .val (.int (1 : Int32)), .val (.int (2 : Int32)), .val (.long q4), .second, .val (.int (1 : Int32)), .val (.int (1 : Int32)), .val (.int (1 : Int32)), .val (.long x1), .second] [(.int (lcmpW x1 q4))])) _
        refine XS.ifNo X0.here hx rfl (hb hby d9_50) rfl ((if0 _ _).trans (tlt ((lw_gt _ _).mpr hc468)).2.2.2) ?_
        refine XS.iload X0.here hx rfl (hb hby d9_53) rfl ?_
        refine XS.iconst X0.here hx rfl (hb hby d9_55) ?_
        refine XS.isub X0.here hx rfl (hb hby d9_56) rfl ?_
        refine XS.istore X0.here hx rfl (hb hby d9_57) rfl (l' := #[.val (.ref a1), .val (.int (1 : Int32)), .val (.int (2 : Int32)), .val (.long q4), .second, .val (.int (1 : Int32)), .val (.int (0 : Int32)), .val (.int (1 : Int32)), .val (.long x1), .second]) rfl ?_
        refine XS.goto X0.here hx rfl (pc0 := 59) (pc' := 65) rfl (hb hby d9_59) (by decide) (by decide) ?_
        refine XS.goto X0.here hx rfl (pc0 := 65) (pc' := 8) rfl (hb hby d9_65) (by decide) (by decide) ?_
        refine XS.iload X0.here hx rfl (hb hby d9_8) rfl ?_
        refine XS.iload X0.here hx rfl (hb hby d9_10) rfl ?_
        refine XS.icmpYes X0.here hx rfl (pc0 := 12) (pc' := 68) rfl (hb hby d9_12) rfl (tlt (by decide : (0 : Int32) < (1 : Int32))).2.2.1 (by decide) (by decide) ?_
        refine XS.iload X0.here hx rfl (hb hby d9_68) rfl ?_
        refine XS.iconst X0.here hx rfl (hb hby d9_70) ?_
        show Steps p.tables e below (s₁.setTop (mkF m 71 #[.val (.ref a1), .val (.int (1 : Int32)), .val (.int (2 : Int32)), .val (.long q4), .second, .val (.int (1 : Int32)), .val (.int (0 : Int32)), .val (.int (1 : Int32)), .val (.long x1), .second] [(.int (1 : Int32)), (.int (1 : Int32))])) _
        refine XS.iadd X0.here hx rfl (hb hby d9_71) rfl ?_
        refine XS.ineg X0.here hx rfl (hb hby d9_72) rfl ?_
        exact kt)
      have ev : r = (-2 : Int32) := er.symm.trans ((if_neg hc466).trans (if_pos hc468))
      exact own_retI X0 hx Bd.notSynchronized Bd.returns (hb hby d9_73) pre470 (show QBs r h0 n0 _ _ _ from ⟨by rw [ev], N0, e0⟩) (by decide) (by decide)
    case neg =>
      have pre471 : ∀ t, Steps p.tables e below (s₁.setTop (mkF m 64 #[.val (.ref a1), .val (.int (1 : Int32)), .val (.int (2 : Int32)), .val (.long q4), .second, .val (.int (1 : Int32)), .val (.int (1 : Int32)), .val (.int (1 : Int32)), .val (.long x1), .second] [(.int (1 : Int32))])) t → Steps p.tables e below (s₁.setTop (entryFrame m #[(.ref a1), (.int (1 : Int32)), (.int (2 : Int32)), (.long q4)] 10)) t := fun t kt => pre467 t (by
        show Steps p.tables e below (s₁.setTop (mkF m 50 #[.val (.ref a1), .val (.int (1 : Int32)), .val (.int (2 : Int32)), .val (.long q4), .second, .val (.int (1 : Int32)), .val (.int (1 : Int32)), .val (.int (1 : Int32)), .val (.long x1), .second] [(.int (lcmpW x1 q4))])) _
        refine XS.ifYes X0.here hx rfl (pc0 := 50) (pc' := 62) rfl (hb hby d9_50) rfl ((if0 _ _).trans (flt (fun q => hc468 ((lw_gt _ _).mp q))).2.2.2) (by decide) (by decide) ?_
        refine XS.iload X0.here hx rfl (hb hby d9_62) rfl ?_
        exact kt)
      have ev : r = (1 : Int32) := er.symm.trans ((if_neg hc466).trans (if_neg hc468))
      exact own_retI X0 hx Bd.notSynchronized Bd.returns (hb hby d9_64) pre471 (show QBs r h0 n0 _ _ _ from ⟨by rw [ev], N0, e0⟩) (by decide) (by decide)
set_option maxRecDepth 65536 in
set_option maxHeartbeats 40000000 in
theorem rmRcBs122 (l : Launch) (Z : State) (a0 : Array Value) (hw : ∀ d ∈ tables_1, d.before a0 Z = true) (ws : List Jvm.Cond)  (h0 : Heap) (n0 : Nat) (Z0 : n0 ≤ h0.size) :
    MetFree l own_y_188 (head1 (Jvm.Cond.code own_y_188 jdk_65_method_30_code 3 none :: ws) ({ frames := 0, cells := 0, slots := 0, locals := 0 } : Room)) (fun a U => a = #[(.int (2 : Int32)), (.int (1 : Int32)), (.int (2 : Int32))] ∧ Z.Warmed39 U.vm ∧ U.heap = h0) (fun _ _ _ _ _ => True) (fun _ U o U' => ∃ v L, o = .returned v ∧ QRc h0 n0 v U'.heap L ∧ FrameEnd U o U' L ({ frames := 0, cells := 0, slots := 0, locals := 0 } : Room).cells ({ frames := 0, cells := 0, slots := 0, locals := 0 } : Room).slots) := by
  refine MetFree.of_bodySF (plainFor_of_name pn_187) hisR ?_
  intro p e s m args below meth c s₁ Bd hml0 hP hK
  obtain ⟨rfl, hZ, hh⟩ := hP
  have hx := Bd.exec
  have hby := Bd.bytes
  have hml : c.maxLocals = 3 := hml0
  have hown : s.vm.findClass "java/util/Arrays" = some m.cls := findClass_of_methodNamed Bd.named
  have hnm := (name_of_methodNamed Bd.named Bd.method).1
  have X0 : Stand p l e ({ frames := 0, cells := 0, slots := 0, locals := 0 } : Room) s m #[(.int (2 : Int32)), (.int (1 : Int32)), (.int (2 : Int32))] below meth c s₁ [] 0 0 := Stand.of_body Bd
  have e0 : s₁.heap = h0 := by rw [← hh, Bd.state]; rfl
  have N0 := Fr.nil n0
  have pre0 : ∀ t, Steps p.tables e below (s₁.setTop (mkF m 0 #[.val (.int (2 : Int32)), .val (.int (1 : Int32)), .val (.int (2 : Int32))] [])) t → Steps p.tables e below (s₁.setTop (entryFrame m #[(.int (2 : Int32)), (.int (1 : Int32)), (.int (2 : Int32))] 3)) t := fun t k => castTop (ef_189 m (2 : Int32) (1 : Int32) (2 : Int32)) k
  have pre472 : ∀ t, Steps p.tables e below (s₁.setTop (mkF m 73 #[.val (.int (2 : Int32)), .val (.int (1 : Int32)), .val (.int (2 : Int32))] [])) t → Steps p.tables e below (s₁.setTop (entryFrame m #[(.int (2 : Int32)), (.int (1 : Int32)), (.int (2 : Int32))] 3)) t := fun t kt => pre0 t (by
    show Steps p.tables e below (s₁.setTop (mkF m 0 #[.val (.int (2 : Int32)), .val (.int (1 : Int32)), .val (.int (2 : Int32))] [])) _
    refine XS.iloadN X0.here hx rfl (hb hby d8_0) rfl ?_
    refine XS.iloadN X0.here hx rfl (hb hby d8_1) rfl ?_
    refine XS.icmpYes X0.here hx rfl (pc0 := 2) (pc' := 46) rfl (hb hby d8_2) rfl (flt (by decide : ¬ ((2 : Int32) < (1 : Int32)))).2.2.2 (by decide) (by decide) ?_
    refine XS.iloadN X0.here hx rfl (hb hby d8_46) rfl ?_
    refine XS.ifYes X0.here hx rfl (pc0 := 47) (pc' := 59) rfl (hb hby d8_47) rfl ((if0 _ _).trans (flt (by decide : ¬ ((1 : Int32) < (0 : Int32)))).2.1) (by decide) (by decide) ?_
    refine XS.iloadN X0.here hx rfl (hb hby d8_59) rfl ?_
    refine XS.iloadN X0.here hx rfl (hb hby d8_60) rfl ?_
    refine XS.icmpYes X0.here hx rfl (pc0 := 61) (pc' := 73) rfl (hb hby d8_61) rfl (flt (by decide : ¬ ((2 : Int32) < (2 : Int32)))).2.2.2 (by decide) (by decide) ?_
    exact kt)
  exact own_retV X0 hx Bd.notSynchronized Bd.returns (hb hby d8_73) pre472 (show QRc h0 n0 _ _ _ from ⟨rfl, N0, e0⟩) (by decide) (by decide)
set_option maxRecDepth 65536 in
set_option maxHeartbeats 40000000 in
theorem rmSBs122 (l : Launch) (Z : State) (a0 : Array Value) (hw : ∀ d ∈ tables_1, d.before a0 Z = true) (ws : List Jvm.Cond) (a1 : Addr) (q4 : Int64) (k0 : ClassId) (x0 : Int64) (x1 : Int64) (r : Int32) (h0 : Heap) (n0 : Nat) (Z0 : n0 ≤ h0.size) (V0 : Arv Z h0 a1 k0 .long (2 : Int32) [(.long x0), (.long x1)] (.long (0 : Int64))) (er : (if x1 < q4 then (-3 : Int32) else (if q4 < x1 then (-2 : Int32) else (1 : Int32))) = r) :
    MetFree l own_y_199 (head1 (Jvm.Cond.code own_y_199 jdk_65_method_55_code 5 (some .int) :: ws) ({ frames := 1, cells := 0, slots := 0, locals := 21 } : Room)) (fun a U => a = #[(.ref a1), (.int (1 : Int32)), (.int (2 : Int32)), (.long q4)] ∧ Z.Warmed39 U.vm ∧ U.heap = h0) (fun _ _ _ _ _ => True) (fun _ U o U' => ∃ v L, o = .returned v ∧ QBs r h0 n0 v U'.heap L ∧ FrameEnd U o U' L ({ frames := 1, cells := 0, slots := 0, locals := 21 } : Room).cells ({ frames := 1, cells := 0, slots := 0, locals := 21 } : Room).slots) := by
  refine MetFree.of_bodySF (plainFor_of_name pn_187) hisR ?_
  intro p e s m args below meth c s₁ Bd hml0 hP hK
  obtain ⟨rfl, hZ, hh⟩ := hP
  have hx := Bd.exec
  have hby := Bd.bytes
  have hml : c.maxLocals = 5 := hml0
  have hown : s.vm.findClass "java/util/Arrays" = some m.cls := findClass_of_methodNamed Bd.named
  have hnm := (name_of_methodNamed Bd.named Bd.method).1
  have X0 : Stand p l e ({ frames := 1, cells := 0, slots := 0, locals := 21 } : Room) s m #[(.ref a1), (.int (1 : Int32)), (.int (2 : Int32)), (.long q4)] below meth c s₁ [] 0 0 := Stand.of_body Bd
  have e0 : s₁.heap = h0 := by rw [← hh, Bd.state]; rfl
  have N0 := Fr.nil n0
  have pre0 : ∀ t, Steps p.tables e below (s₁.setTop (mkF m 0 #[.val (.ref a1), .val (.int (1 : Int32)), .val (.int (2 : Int32)), .val (.long q4), .second] [])) t → Steps p.tables e below (s₁.setTop (entryFrame m #[(.ref a1), (.int (1 : Int32)), (.int (2 : Int32)), (.long q4)] 5)) t := fun t k => castTop (ef_200 m a1 (1 : Int32) (2 : Int32) q4) k
  obtain ⟨cl473, A473, q473, S473, M473, H473, J473⟩ := id V0
  obtain ⟨_, _, ⟨T474, L474, k474, n474⟩, -, X474, ⟨Lc474, hQ474, l474, y474, z474⟩, st474⟩ := Jvm.LawKit.callS X0 hx (y := own_y_188) hown (mvT hZ (own_w hw 49 rfl)) (mvT hZ (own_w hw 50 rfl)) (mvT hZ (own_w hw 47 rfl)) (mvT hZ (own_w hw 51 rfl)) (by decide) (backOf (W := 0) (rmRcBs122 l Z a0 hw [] h0 n0 Z0) hZ (own_w hw 51 rfl) (own_w hw 47 rfl) (by decide) (by decide)) (g := (mkF m 4 #[.val (.ref a1), .val (.int (1 : Int32)), .val (.int (2 : Int32)), .val (.long q4), .second] [(.int (2 : Int32)), (.int (1 : Int32)), (.int (2 : Int32))])) rfl (by rw [hml]; rfl) (argsL := [(.int (2 : Int32)), (.int (1 : Int32)), (.int (2 : Int32))]) (rest := []) (lenOf pd_206 rfl) rfl (by show 2 * 0 + _ ≤ _; exact Nat.le_of_eq rfl) (hb hby d7_4) (fun _ _ => ⟨rfl, e0, (by decide : 0 + 0 ≤ _), (by decide : 0 + 0 ≤ _)⟩)
  dsimp only [Pt.U, Pt.locs, Pt.cells, Pt.slots] at X474 l474 y474 z474 st474 hQ474
  subst l474 y474 z474
  obtain ⟨rfl, Nq474, e474⟩ := hQ474
  have N474 := Fr.app N0 Nq474
  obtain ⟨_, _, ⟨T475, L475, k475, n475⟩, -, X475, ⟨Lc475, hQ475, l475, y475, z475⟩, st475⟩ := Jvm.LawKit.callS X474 hx (y := own_y_185) hown (mvT hZ (own_w hw 52 rfl)) (mvT hZ (own_w hw 53 rfl)) (mvT hZ (own_w hw 47 rfl)) (mvT hZ (own_w hw 54 rfl)) (by decide) (backOf (W := 0) (rmBs122 l Z a0 hw [] a1 q4 k0 x0 x1 r h0 n0 Z0 V0 er) hZ (own_w hw 54 rfl) (own_w hw 47 rfl) (by decide) (by decide)) (g := (mkF m 11 #[.val (.ref a1), .val (.int (1 : Int32)), .val (.int (2 : Int32)), .val (.long q4), .second] [(.long q4), (.int (2 : Int32)), (.int (1 : Int32)), (.ref a1)])) rfl (by rw [hml]; rfl) (argsL := [(.ref a1), (.int (1 : Int32)), (.int (2 : Int32)), (.long q4)]) (rest := []) (lenOf pd_212 rfl) rfl (by show 2 * 0 + _ ≤ _; exact Nat.le_of_eq rfl) (hb hby d7_11) (fun _ _ => ⟨rfl, e474, (by decide : 0 + 0 ≤ _), (by decide : 0 + 0 ≤ _)⟩)
  dsimp only [Pt.U, Pt.locs, Pt.cells, Pt.slots] at X475 l475 y475 z475 st475 hQ475
  subst l475 y475 z475
  obtain ⟨rfl, Nq475, e475⟩ := hQ475
  have N475 := Fr.app N474 Nq475
  have pre476 : ∀ t, Steps p.tables e below (T475.setTop (mkF m 14 #[.val (.ref a1), .val (.int (1 : Int32)), .val (.int (2 : Int32)), .val (.long q4), .second] [(.int r)])) t → Steps p.tables e below (s₁.setTop (entryFrame m #[(.ref a1), (.int (1 : Int32)), (.int (2 : Int32)), (.long q4)] 5)) t := fun t kt => pre0 t (by
    show Steps p.tables e below (s₁.setTop (mkF m 0 #[.val (.ref a1), .val (.int (1 : Int32)), .val (.int (2 : Int32)), .val (.long q4), .second] [])) _
    refine XS.aloadN X0.here hx rfl (hb hby d7_0) rfl rfl ?_
    refine X0.arraylength hx (by rw [e0]; exact A473.1) (State.isArrayOf_alike hZ.alike A473.2.1) (g := (mkF m 1 #[.val (.ref a1), .val (.int (1 : Int32)), .val (.int (2 : Int32)), .val (.long q4), .second] [(.ref a1)])) rfl rfl (hb hby d7_1) _ ?_
    rw [len_of S473 M473]
    refine XS.iloadN X0.here hx rfl (hb hby d7_2) rfl ?_
    refine XS.iloadN X0.here hx rfl (hb hby d7_3) rfl ?_
    refine st474 _ ?_
    refine XS.aloadN X474.here hx rfl (hb hby d7_7) rfl rfl ?_
    refine XS.iloadN X474.here hx rfl (hb hby d7_8) rfl ?_
    refine XS.iloadN X474.here hx rfl (hb hby d7_9) rfl ?_
    refine XS.lloadN X474.here hx rfl (hb hby d7_10) rfl ?_
    refine st475 _ ?_
    exact kt)
  exact own_retI X475 hx Bd.notSynchronized Bd.returns (hb hby d7_14) pre476 (show QBs r h0 n0 _ _ _ from ⟨rfl, N475, e475⟩) (by decide) (by decide)
set_option maxRecDepth 65536 in
set_option maxHeartbeats 40000000 in
theorem rmGn122 (l : Launch) (Z : State) (a0 : Array Value) (hw : ∀ d ∈ tables_1, d.before a0 Z = true) (ws : List Jvm.Cond) (a1 : Addr) (q2 : Int64) (x0 : Int64) (x1 : Int64) (y0 : Int32) (y1 : Int32) (b : Int32) (h0 : Heap) (n0 : Nat) (Z0 : n0 ≤ h0.size) (P0 : PT Z h0 n0 a1 (1 : Int32) (2 : Int32) (2 : Int32) [(.long x0), (.long x1)] [(.int y0), (.int y1)] b) :
    MetFree l own_y_46 (head1 (Jvm.Cond.code own_y_46 prog_25_method_3_code 6 (some .int) :: ws) ({ frames := 2, cells := 0, slots := 0, locals := 60 } : Room)) (fun a U => a = #[(.ref a1), (.long q2)] ∧ Z.Warmed39 U.vm ∧ U.heap = h0) (fun _ _ _ _ _ => True) (fun _ U o U' => ∃ v L, o = .returned v ∧ QRi (y1 - (if x1 < q2 then y1 else b)) h0 n0 v U'.heap L ∧ FrameEnd U o U' L ({ frames := 2, cells := 0, slots := 0, locals := 60 } : Room).cells ({ frames := 2, cells := 0, slots := 0, locals := 60 } : Room).slots) := by
  refine MetFree.of_bodySF (plainFor_of_name pn_2) hisR ?_
  intro p e s m args below meth c s₁ Bd hml0 hP hK
  obtain ⟨rfl, hZ, hh⟩ := hP
  have hx := Bd.exec
  have hby := Bd.bytes
  have hml : c.maxLocals = 6 := hml0
  have hown : s.vm.findClass "com/example/viral_counter/viralcounter/PostTrend" = some m.cls := findClass_of_methodNamed Bd.named
  have hnm := (name_of_methodNamed Bd.named Bd.method).1
  have X0 : Stand p l e ({ frames := 2, cells := 0, slots := 0, locals := 60 } : Room) s m #[(.ref a1), (.long q2)] below meth c s₁ [] 0 0 := Stand.of_body Bd
  have e0 : s₁.heap = h0 := by rw [← hh, Bd.state]; rfl
  have N0 := Fr.nil n0
  have pre0 : ∀ t, Steps p.tables e below (s₁.setTop (mkF m 0 #[.val (.ref a1), .val (.long q2), .second, .unset, .unset, .unset] [])) t → Steps p.tables e below (s₁.setTop (entryFrame m #[(.ref a1), (.long q2)] 6)) t := fun t k => castTop (ef_47 m a1 q2) k
  obtain ⟨am477, ac477, km477, kc477, E477, Fm477, Fc477, Ff477, Fe477, Fb477, Vm477, Vc477, Ga477, Gm477, Gc477, n1477, n2477, n3477⟩ := id P0
  obtain ⟨T478, X478, e478, st478⟩ := getF X0 hx hZ hown (host := "") (Or.inl (own_w hw 23 rfl)) Via.refl e0 Ff477 (g := (mkF m 1 #[.val (.ref a1), .val (.long q2), .second, .unset, .unset, .unset] [(.ref a1)])) rfl rfl (hb hby d6_1)
  obtain ⟨T479, X479, e479, st479⟩ := getF X478 hx hZ hown (host := "") (Or.inl (own_w hw 25 rfl)) Via.refl e478 Fe477 (g := (mkF m 5 #[.val (.ref a1), .val (.long q2), .second, .unset, .unset, .unset] [(.ref a1), (.int (1 : Int32))])) rfl rfl (hb hby d6_5)
  obtain ⟨T480, X480, e480, st480⟩ := getF X479 hx hZ hown (host := "") (Or.inl (own_w hw 13 rfl)) Via.refl e479 Fm477 (g := (mkF m 14 #[.val (.ref a1), .val (.long q2), .second, .unset, .unset, .unset] [(.ref a1)])) rfl rfl (hb hby d6_14)
  obtain ⟨T481, X481, e481, st481⟩ := getF X480 hx hZ hown (host := "") (Or.inl (own_w hw 23 rfl)) Via.refl e480 Ff477 (g := (mkF m 18 #[.val (.ref a1), .val (.long q2), .second, .unset, .unset, .unset] [(.ref a1), (.ref am477)])) rfl rfl (hb hby d6_18)
  obtain ⟨T482, X482, e482, st482⟩ := getF X481 hx hZ hown (host := "") (Or.inl (own_w hw 25 rfl)) Via.refl e481 Fe477 (g := (mkF m 22 #[.val (.ref a1), .val (.long q2), .second, .unset, .unset, .unset] [(.ref a1), (.int (1 : Int32)), (.ref am477)])) rfl rfl (hb hby d6_22)
  have pre483 : ∀ t, Steps p.tables e below (T482.setTop (mkF m 26 #[.val (.ref a1), .val (.long q2), .second, .unset, .unset, .unset] [(.long q2), (.int (2 : Int32)), (.int (1 : Int32)), (.ref am477)])) t → Steps p.tables e below (s₁.setTop (entryFrame m #[(.ref a1), (.long q2)] 6)) t := fun t kt => pre0 t (by
    show Steps p.tables e below (s₁.setTop (mkF m 0 #[.val (.ref a1), .val (.long q2), .second, .unset, .unset, .unset] [])) _
    refine XS.aloadN X0.here hx rfl (hb hby d6_0) rfl rfl ?_
    refine st478 _ ?_
    refine XS.aloadN X478.here hx rfl (hb hby d6_4) rfl rfl ?_
    refine st479 _ ?_
    refine XS.icmpYes X479.here hx rfl (pc0 := 8) (pc' := 13) rfl (hb hby d6_8) rfl (feq (by decide : ¬ ((1 : Int32) = (2 : Int32)))).2 (by decide) (by decide) ?_
    refine XS.aloadN X479.here hx rfl (hb hby d6_13) rfl rfl ?_
    refine st480 _ ?_
    refine XS.aloadN X480.here hx rfl (hb hby d6_17) rfl rfl ?_
    refine st481 _ ?_
    refine XS.aloadN X481.here hx rfl (hb hby d6_21) rfl rfl ?_
    refine st482 _ ?_
    refine XS.lloadN X482.here hx rfl (hb hby d6_25) rfl ?_
    exact kt)
  by_cases hc484 : x1 < q2
  case pos =>
    obtain ⟨_, _, ⟨T485, L485, k485, n485⟩, -, X485, ⟨Lc485, hQ485, l485, y485, z485⟩, st485⟩ := Jvm.LawKit.callS X482 hx (y := own_y_199) hown (mvT hZ (own_w hw 45 rfl)) (mvT hZ (own_w hw 46 rfl)) (mvT hZ (own_w hw 47 rfl)) (mvT hZ (own_w hw 48 rfl)) (by decide) (backOf (W := 0) (rmSBs122 l Z a0 hw [] am477 q2 km477 x0 x1 (-3 : Int32) h0 n0 Z0 Vm477 (if_pos hc484)) hZ (own_w hw 48 rfl) (own_w hw 47 rfl) (by decide) (by decide)) (g := (mkF m 26 #[.val (.ref a1), .val (.long q2), .second, .unset, .unset, .unset] [(.long q2), (.int (2 : Int32)), (.int (1 : Int32)), (.ref am477)])) rfl (by rw [hml]; rfl) (argsL := [(.ref am477), (.int (1 : Int32)), (.int (2 : Int32)), (.long q2)]) (rest := []) (lenOf pd_212 rfl) rfl (by show 2 * 0 + _ ≤ _; exact Nat.le_of_eq rfl) (hb hby d6_26) (fun _ _ => ⟨rfl, e482, (by decide : 0 + 0 ≤ _), (by decide : 0 + 0 ≤ _)⟩)
    dsimp only [Pt.U, Pt.locs, Pt.cells, Pt.slots] at X485 l485 y485 z485 st485 hQ485
    subst l485 y485 z485
    obtain ⟨rfl, Nq485, e485⟩ := hQ485
    have N485 := Fr.app N0 Nq485
    obtain ⟨T486, X486, e486, st486⟩ := getF X485 hx hZ hown (host := "") (Or.inl (own_w hw 23 rfl)) Via.refl e485 Ff477 (g := (mkF m 49 #[.val (.ref a1), .val (.long q2), .second, .val (.int (-3 : Int32)), .val (.int (1 : Int32)), .unset] [(.ref a1), (.int (1 : Int32))])) rfl rfl (hb hby d6_49)
    obtain ⟨T487, X487, e487, st487⟩ := getF X486 hx hZ hown (host := "") (Or.inl (own_w hw 16 rfl)) Via.refl e486 Fc477 (g := (mkF m 63 #[.val (.ref a1), .val (.long q2), .second, .val (.int (-3 : Int32)), .val (.int (1 : Int32)), .unset] [(.ref a1)])) rfl rfl (hb hby d6_63)
    obtain ⟨cl488, A488, q488, S488, M488, H488, J488⟩ := id Vc477
    have hin488 : ¬ ((1 : Int32) < 0 ∨ cl488.slots.size ≤ ((1 : Int32)).toNatClampNeg) := inb_of S488 ⟨by decide, by decide⟩
    have hat488 : cl488.slots[((1 : Int32)).toNatClampNeg]? = some (.int y1) := H488.at hin488 rfl
    obtain ⟨T489, X489, e489, st489⟩ := getF X487 hx hZ hown (host := "") (Or.inl (own_w hw 16 rfl)) Via.refl e487 Fc477 (g := (mkF m 72 #[.val (.ref a1), .val (.long q2), .second, .val (.int (-3 : Int32)), .val (.int (1 : Int32)), .val (.int y1)] [(.ref a1)])) rfl rfl (hb hby d6_72)
    obtain ⟨T490, X490, e490, st490⟩ := getF X489 hx hZ hown (host := "") (Or.inl (own_w hw 25 rfl)) Via.refl e489 Fe477 (g := (mkF m 76 #[.val (.ref a1), .val (.long q2), .second, .val (.int (-3 : Int32)), .val (.int (1 : Int32)), .val (.int y1)] [(.ref a1), (.ref ac477)])) rfl rfl (hb hby d6_76)
    obtain ⟨cl491, A491, q491, S491, M491, H491, J491⟩ := id Vc477
    have hin491 : ¬ ((1 : Int32) < 0 ∨ cl491.slots.size ≤ ((1 : Int32)).toNatClampNeg) := inb_of S491 ⟨by decide, by decide⟩
    have hat491 : cl491.slots[((1 : Int32)).toNatClampNeg]? = some (.int y1) := H491.at hin491 rfl
    have pre492 : ∀ t, Steps p.tables e below (T490.setTop (mkF m 85 #[.val (.ref a1), .val (.long q2), .second, .val (.int (-3 : Int32)), .val (.int (1 : Int32)), .val (.int y1)] [(.int (y1 - y1))])) t → Steps p.tables e below (s₁.setTop (entryFrame m #[(.ref a1), (.long q2)] 6)) t := fun t kt => pre483 t (by
      show Steps p.tables e below (T482.setTop (mkF m 26 #[.val (.ref a1), .val (.long q2), .second, .unset, .unset, .unset] [(.long q2), (.int (2 : Int32)), (.int (1 : Int32)), (.ref am477)])) _
      refine st485 _ ?_
      refine XS.istoreN X485.here hx rfl (hb hby d6_29) rfl (l' := #[.val (.ref a1), .val (.long q2), .second, .val (.int (-3 : Int32)), .unset, .unset]) rfl ?_
      refine XS.iloadN X485.here hx rfl (hb hby d6_30) rfl ?_
      refine XS.ifYes X485.here hx rfl (pc0 := 31) (pc' := 38) rfl (hb hby d6_31) rfl ((if0 _ _).trans (tlt (by decide : (-3 : Int32) < (0 : Int32))).1) (by decide) (by decide) ?_
      refine XS.iloadN X485.here hx rfl (hb hby d6_38) rfl ?_
      refine XS.ineg X485.here hx rfl (hb hby d6_39) rfl ?_
      refine XS.iconst X485.here hx rfl (hb hby d6_40) ?_
      refine XS.isub X485.here hx rfl (hb hby d6_41) rfl ?_
      refine XS.iconst X485.here hx rfl (hb hby d6_42) ?_
      refine XS.isub X485.here hx rfl (hb hby d6_43) rfl ?_
      refine XS.istore X485.here hx rfl (hb hby d6_44) rfl (l' := #[.val (.ref a1), .val (.long q2), .second, .val (.int (-3 : Int32)), .val (.int (1 : Int32)), .unset]) rfl ?_
      refine XS.iload X485.here hx rfl (hb hby d6_46) rfl ?_
      show Steps p.tables e below (T485.setTop (mkF m 48 #[.val (.ref a1), .val (.long q2), .second, .val (.int (-3 : Int32)), .val (.int (1 : Int32)), .unset] [(.int (1 : Int32))])) _
      refine XS.aloadN X485.here hx rfl (hb hby d6_48) rfl rfl ?_
      refine st486 _ ?_
      refine XS.icmpYes X486.here hx rfl (pc0 := 52) (pc' := 62) rfl (hb hby d6_52) rfl (flt (by decide : ¬ ((1 : Int32) < (1 : Int32)))).2.1 (by decide) (by decide) ?_
      refine XS.aloadN X486.here hx rfl (hb hby d6_62) rfl rfl ?_
      refine st487 _ ?_
      refine XS.iload X487.here hx rfl (hb hby d6_66) rfl ?_
      refine X487.iaload hx (j := (1 : Int32)) (v := (.int y1)) (by rw [e487]; exact A488.1) (State.isArrayOf_alike hZ.alike A488.2.1) A488.2.2 hin488 hat488 (g := (mkF m 68 #[.val (.ref a1), .val (.long q2), .second, .val (.int (-3 : Int32)), .val (.int (1 : Int32)), .unset] [(.int (1 : Int32)), (.ref ac477)])) rfl rfl (hb hby d6_68) _ ?_
      refine XS.istore X487.here hx rfl (hb hby d6_69) rfl (l' := #[.val (.ref a1), .val (.long q2), .second, .val (.int (-3 : Int32)), .val (.int (1 : Int32)), .val (.int y1)]) rfl ?_
      refine XS.aloadN X487.here hx rfl (hb hby d6_71) rfl rfl ?_
      refine st489 _ ?_
      refine XS.aloadN X489.here hx rfl (hb hby d6_75) rfl rfl ?_
      refine st490 _ ?_
      show Steps p.tables e below (T490.setTop (mkF m 79 #[.val (.ref a1), .val (.long q2), .second, .val (.int (-3 : Int32)), .val (.int (1 : Int32)), .val (.int y1)] [(.int (2 : Int32)), (.ref ac477)])) _
      refine XS.iconst X490.here hx rfl (hb hby d6_79) ?_
      refine XS.isub X490.here hx rfl (hb hby d6_80) rfl ?_
      refine X490.iaload hx (j := (1 : Int32)) (v := (.int y1)) (by rw [e490]; exact A491.1) (State.isArrayOf_alike hZ.alike A491.2.1) A491.2.2 hin491 hat491 (g := (mkF m 81 #[.val (.ref a1), .val (.long q2), .second, .val (.int (-3 : Int32)), .val (.int (1 : Int32)), .val (.int y1)] [(.int (1 : Int32)), (.ref ac477)])) rfl rfl (hb hby d6_81) _ ?_
      refine XS.iload X490.here hx rfl (hb hby d6_82) rfl ?_
      refine XS.isub X490.here hx rfl (hb hby d6_84) rfl ?_
      exact kt)
    have lt493 : x1 < q2 := by
      rw [Int64.lt_iff_toInt_lt] at hc484 ⊢
      omega
    have ev : (y1 - (if x1 < q2 then y1 else b)) = (y1 - y1) := congrArg (fun z => y1 - z) (if_pos lt493)
    exact own_retI X490 hx Bd.notSynchronized Bd.returns (hb hby d6_85) pre492 (show QRi (y1 - (if x1 < q2 then y1 else b)) h0 n0 _ _ _ from ⟨by rw [ev], N485, e490⟩) (by decide) (by decide)
  case neg =>
    by_cases hc494 : q2 < x1
    case pos =>
      obtain ⟨_, _, ⟨T495, L495, k495, n495⟩, -, X495, ⟨Lc495, hQ495, l495, y495, z495⟩, st495⟩ := Jvm.LawKit.callS X482 hx (y := own_y_199) hown (mvT hZ (own_w hw 45 rfl)) (mvT hZ (own_w hw 46 rfl)) (mvT hZ (own_w hw 47 rfl)) (mvT hZ (own_w hw 48 rfl)) (by decide) (backOf (W := 0) (rmSBs122 l Z a0 hw [] am477 q2 km477 x0 x1 (-2 : Int32) h0 n0 Z0 Vm477 ((if_neg hc484).trans (if_pos hc494))) hZ (own_w hw 48 rfl) (own_w hw 47 rfl) (by decide) (by decide)) (g := (mkF m 26 #[.val (.ref a1), .val (.long q2), .second, .unset, .unset, .unset] [(.long q2), (.int (2 : Int32)), (.int (1 : Int32)), (.ref am477)])) rfl (by rw [hml]; rfl) (argsL := [(.ref am477), (.int (1 : Int32)), (.int (2 : Int32)), (.long q2)]) (rest := []) (lenOf pd_212 rfl) rfl (by show 2 * 0 + _ ≤ _; exact Nat.le_of_eq rfl) (hb hby d6_26) (fun _ _ => ⟨rfl, e482, (by decide : 0 + 0 ≤ _), (by decide : 0 + 0 ≤ _)⟩)
      dsimp only [Pt.U, Pt.locs, Pt.cells, Pt.slots] at X495 l495 y495 z495 st495 hQ495
      subst l495 y495 z495
      obtain ⟨rfl, Nq495, e495⟩ := hQ495
      have N495 := Fr.app N0 Nq495
      obtain ⟨T496, X496, e496, st496⟩ := getF X495 hx hZ hown (host := "") (Or.inl (own_w hw 23 rfl)) Via.refl e495 Ff477 (g := (mkF m 49 #[.val (.ref a1), .val (.long q2), .second, .val (.int (-2 : Int32)), .val (.int (0 : Int32)), .unset] [(.ref a1), (.int (0 : Int32))])) rfl rfl (hb hby d6_49)
      obtain ⟨T497, X497, e497, st497⟩ := getF X496 hx hZ hown (host := "") (Or.inl (own_w hw 27 rfl)) Via.refl e496 Fb477 (g := (mkF m 56 #[.val (.ref a1), .val (.long q2), .second, .val (.int (-2 : Int32)), .val (.int (0 : Int32)), .unset] [(.ref a1)])) rfl rfl (hb hby d6_56)
      obtain ⟨T498, X498, e498, st498⟩ := getF X497 hx hZ hown (host := "") (Or.inl (own_w hw 16 rfl)) Via.refl e497 Fc477 (g := (mkF m 72 #[.val (.ref a1), .val (.long q2), .second, .val (.int (-2 : Int32)), .val (.int (0 : Int32)), .val (.int b)] [(.ref a1)])) rfl rfl (hb hby d6_72)
      obtain ⟨T499, X499, e499, st499⟩ := getF X498 hx hZ hown (host := "") (Or.inl (own_w hw 25 rfl)) Via.refl e498 Fe477 (g := (mkF m 76 #[.val (.ref a1), .val (.long q2), .second, .val (.int (-2 : Int32)), .val (.int (0 : Int32)), .val (.int b)] [(.ref a1), (.ref ac477)])) rfl rfl (hb hby d6_76)
      obtain ⟨cl500, A500, q500, S500, M500, H500, J500⟩ := id Vc477
      have hin500 : ¬ ((1 : Int32) < 0 ∨ cl500.slots.size ≤ ((1 : Int32)).toNatClampNeg) := inb_of S500 ⟨by decide, by decide⟩
      have hat500 : cl500.slots[((1 : Int32)).toNatClampNeg]? = some (.int y1) := H500.at hin500 rfl
      have pre501 : ∀ t, Steps p.tables e below (T499.setTop (mkF m 85 #[.val (.ref a1), .val (.long q2), .second, .val (.int (-2 : Int32)), .val (.int (0 : Int32)), .val (.int b)] [(.int (y1 - b))])) t → Steps p.tables e below (s₁.setTop (entryFrame m #[(.ref a1), (.long q2)] 6)) t := fun t kt => pre483 t (by
        show Steps p.tables e below (T482.setTop (mkF m 26 #[.val (.ref a1), .val (.long q2), .second, .unset, .unset, .unset] [(.long q2), (.int (2 : Int32)), (.int (1 : Int32)), (.ref am477)])) _
        refine st495 _ ?_
        refine XS.istoreN X495.here hx rfl (hb hby d6_29) rfl (l' := #[.val (.ref a1), .val (.long q2), .second, .val (.int (-2 : Int32)), .unset, .unset]) rfl ?_
        refine XS.iloadN X495.here hx rfl (hb hby d6_30) rfl ?_
        refine XS.ifYes X495.here hx rfl (pc0 := 31) (pc' := 38) rfl (hb hby d6_31) rfl ((if0 _ _).trans (tlt (by decide : (-2 : Int32) < (0 : Int32))).1) (by decide) (by decide) ?_
        refine XS.iloadN X495.here hx rfl (hb hby d6_38) rfl ?_
        refine XS.ineg X495.here hx rfl (hb hby d6_39) rfl ?_
        refine XS.iconst X495.here hx rfl (hb hby d6_40) ?_
        refine XS.isub X495.here hx rfl (hb hby d6_41) rfl ?_
        refine XS.iconst X495.here hx rfl (hb hby d6_42) ?_
        refine XS.isub X495.here hx rfl (hb hby d6_43) rfl ?_
        refine XS.istore X495.here hx rfl (hb hby d6_44) rfl (l' := #[.val (.ref a1), .val (.long q2), .second, .val (.int (-2 : Int32)), .val (.int (0 : Int32)), .unset]) rfl ?_
        refine XS.iload X495.here hx rfl (hb hby d6_46) rfl ?_
        show Steps p.tables e below (T495.setTop (mkF m 48 #[.val (.ref a1), .val (.long q2), .second, .val (.int (-2 : Int32)), .val (.int (0 : Int32)), .unset] [(.int (0 : Int32))])) _
        refine XS.aloadN X495.here hx rfl (hb hby d6_48) rfl rfl ?_
        refine st496 _ ?_
        refine XS.icmpNo X496.here hx rfl (hb hby d6_52) rfl (tlt (by decide : (0 : Int32) < (1 : Int32))).2.1 ?_
        refine XS.aloadN X496.here hx rfl (hb hby d6_55) rfl rfl ?_
        refine st497 _ ?_
        refine XS.goto X497.here hx rfl (pc0 := 59) (pc' := 69) rfl (hb hby d6_59) (by decide) (by decide) ?_
        refine XS.istore X497.here hx rfl (hb hby d6_69) rfl (l' := #[.val (.ref a1), .val (.long q2), .second, .val (.int (-2 : Int32)), .val (.int (0 : Int32)), .val (.int b)]) rfl ?_
        refine XS.aloadN X497.here hx rfl (hb hby d6_71) rfl rfl ?_
        refine st498 _ ?_
        refine XS.aloadN X498.here hx rfl (hb hby d6_75) rfl rfl ?_
        refine st499 _ ?_
        refine XS.iconst X499.here hx rfl (hb hby d6_79) ?_
        show Steps p.tables e below (T499.setTop (mkF m 80 #[.val (.ref a1), .val (.long q2), .second, .val (.int (-2 : Int32)), .val (.int (0 : Int32)), .val (.int b)] [(.int (1 : Int32)), (.int (2 : Int32)), (.ref ac477)])) _
        refine XS.isub X499.here hx rfl (hb hby d6_80) rfl ?_
        refine X499.iaload hx (j := (1 : Int32)) (v := (.int y1)) (by rw [e499]; exact A500.1) (State.isArrayOf_alike hZ.alike A500.2.1) A500.2.2 hin500 hat500 (g := (mkF m 81 #[.val (.ref a1), .val (.long q2), .second, .val (.int (-2 : Int32)), .val (.int (0 : Int32)), .val (.int b)] [(.int (1 : Int32)), (.ref ac477)])) rfl rfl (hb hby d6_81) _ ?_
        refine XS.iload X499.here hx rfl (hb hby d6_82) rfl ?_
        refine XS.isub X499.here hx rfl (hb hby d6_84) rfl ?_
        exact kt)
      have lt502 : ¬ (x1 < q2) := by
        rw [Int64.lt_iff_toInt_lt] at hc484 hc494 ⊢
        omega
      have ev : (y1 - (if x1 < q2 then y1 else b)) = (y1 - b) := congrArg (fun z => y1 - z) (if_neg lt502)
      exact own_retI X499 hx Bd.notSynchronized Bd.returns (hb hby d6_85) pre501 (show QRi (y1 - (if x1 < q2 then y1 else b)) h0 n0 _ _ _ from ⟨by rw [ev], N495, e499⟩) (by decide) (by decide)
    case neg =>
      obtain ⟨_, _, ⟨T503, L503, k503, n503⟩, -, X503, ⟨Lc503, hQ503, l503, y503, z503⟩, st503⟩ := Jvm.LawKit.callS X482 hx (y := own_y_199) hown (mvT hZ (own_w hw 45 rfl)) (mvT hZ (own_w hw 46 rfl)) (mvT hZ (own_w hw 47 rfl)) (mvT hZ (own_w hw 48 rfl)) (by decide) (backOf (W := 0) (rmSBs122 l Z a0 hw [] am477 q2 km477 x0 x1 (1 : Int32) h0 n0 Z0 Vm477 ((if_neg hc484).trans (if_neg hc494))) hZ (own_w hw 48 rfl) (own_w hw 47 rfl) (by decide) (by decide)) (g := (mkF m 26 #[.val (.ref a1), .val (.long q2), .second, .unset, .unset, .unset] [(.long q2), (.int (2 : Int32)), (.int (1 : Int32)), (.ref am477)])) rfl (by rw [hml]; rfl) (argsL := [(.ref am477), (.int (1 : Int32)), (.int (2 : Int32)), (.long q2)]) (rest := []) (lenOf pd_212 rfl) rfl (by show 2 * 0 + _ ≤ _; exact Nat.le_of_eq rfl) (hb hby d6_26) (fun _ _ => ⟨rfl, e482, (by decide : 0 + 0 ≤ _), (by decide : 0 + 0 ≤ _)⟩)
      dsimp only [Pt.U, Pt.locs, Pt.cells, Pt.slots] at X503 l503 y503 z503 st503 hQ503
      subst l503 y503 z503
      obtain ⟨rfl, Nq503, e503⟩ := hQ503
      have N503 := Fr.app N0 Nq503
      obtain ⟨T504, X504, e504, st504⟩ := getF X503 hx hZ hown (host := "") (Or.inl (own_w hw 23 rfl)) Via.refl e503 Ff477 (g := (mkF m 49 #[.val (.ref a1), .val (.long q2), .second, .val (.int (1 : Int32)), .val (.int (0 : Int32)), .unset] [(.ref a1), (.int (0 : Int32))])) rfl rfl (hb hby d6_49)
      obtain ⟨T505, X505, e505, st505⟩ := getF X504 hx hZ hown (host := "") (Or.inl (own_w hw 27 rfl)) Via.refl e504 Fb477 (g := (mkF m 56 #[.val (.ref a1), .val (.long q2), .second, .val (.int (1 : Int32)), .val (.int (0 : Int32)), .unset] [(.ref a1)])) rfl rfl (hb hby d6_56)
      obtain ⟨T506, X506, e506, st506⟩ := getF X505 hx hZ hown (host := "") (Or.inl (own_w hw 16 rfl)) Via.refl e505 Fc477 (g := (mkF m 72 #[.val (.ref a1), .val (.long q2), .second, .val (.int (1 : Int32)), .val (.int (0 : Int32)), .val (.int b)] [(.ref a1)])) rfl rfl (hb hby d6_72)
      obtain ⟨T507, X507, e507, st507⟩ := getF X506 hx hZ hown (host := "") (Or.inl (own_w hw 25 rfl)) Via.refl e506 Fe477 (g := (mkF m 76 #[.val (.ref a1), .val (.long q2), .second, .val (.int (1 : Int32)), .val (.int (0 : Int32)), .val (.int b)] [(.ref a1), (.ref ac477)])) rfl rfl (hb hby d6_76)
      obtain ⟨cl508, A508, q508, S508, M508, H508, J508⟩ := id Vc477
      have hin508 : ¬ ((1 : Int32) < 0 ∨ cl508.slots.size ≤ ((1 : Int32)).toNatClampNeg) := inb_of S508 ⟨by decide, by decide⟩
      have hat508 : cl508.slots[((1 : Int32)).toNatClampNeg]? = some (.int y1) := H508.at hin508 rfl
      have pre509 : ∀ t, Steps p.tables e below (T507.setTop (mkF m 85 #[.val (.ref a1), .val (.long q2), .second, .val (.int (1 : Int32)), .val (.int (0 : Int32)), .val (.int b)] [(.int (y1 - b))])) t → Steps p.tables e below (s₁.setTop (entryFrame m #[(.ref a1), (.long q2)] 6)) t := fun t kt => pre483 t (by
        show Steps p.tables e below (T482.setTop (mkF m 26 #[.val (.ref a1), .val (.long q2), .second, .unset, .unset, .unset] [(.long q2), (.int (2 : Int32)), (.int (1 : Int32)), (.ref am477)])) _
        refine st503 _ ?_
        refine XS.istoreN X503.here hx rfl (hb hby d6_29) rfl (l' := #[.val (.ref a1), .val (.long q2), .second, .val (.int (1 : Int32)), .unset, .unset]) rfl ?_
        refine XS.iloadN X503.here hx rfl (hb hby d6_30) rfl ?_
        refine XS.ifNo X503.here hx rfl (hb hby d6_31) rfl ((if0 _ _).trans (flt (by decide : ¬ ((1 : Int32) < (0 : Int32)))).1) ?_
        refine XS.iloadN X503.here hx rfl (hb hby d6_34) rfl ?_
        refine XS.goto X503.here hx rfl (pc0 := 35) (pc' := 42) rfl (hb hby d6_35) (by decide) (by decide) ?_
        refine XS.iconst X503.here hx rfl (hb hby d6_42) ?_
        refine XS.isub X503.here hx rfl (hb hby d6_43) rfl ?_
        refine XS.istore X503.here hx rfl (hb hby d6_44) rfl (l' := #[.val (.ref a1), .val (.long q2), .second, .val (.int (1 : Int32)), .val (.int (0 : Int32)), .unset]) rfl ?_
        refine XS.iload X503.here hx rfl (hb hby d6_46) rfl ?_
        refine XS.aloadN X503.here hx rfl (hb hby d6_48) rfl rfl ?_
        refine st504 _ ?_
        show Steps p.tables e below (T504.setTop (mkF m 52 #[.val (.ref a1), .val (.long q2), .second, .val (.int (1 : Int32)), .val (.int (0 : Int32)), .unset] [(.int (1 : Int32)), (.int (0 : Int32))])) _
        refine XS.icmpNo X504.here hx rfl (hb hby d6_52) rfl (tlt (by decide : (0 : Int32) < (1 : Int32))).2.1 ?_
        refine XS.aloadN X504.here hx rfl (hb hby d6_55) rfl rfl ?_
        refine st505 _ ?_
        refine XS.goto X505.here hx rfl (pc0 := 59) (pc' := 69) rfl (hb hby d6_59) (by decide) (by decide) ?_
        refine XS.istore X505.here hx rfl (hb hby d6_69) rfl (l' := #[.val (.ref a1), .val (.long q2), .second, .val (.int (1 : Int32)), .val (.int (0 : Int32)), .val (.int b)]) rfl ?_
        refine XS.aloadN X505.here hx rfl (hb hby d6_71) rfl rfl ?_
        refine st506 _ ?_
        refine XS.aloadN X506.here hx rfl (hb hby d6_75) rfl rfl ?_
        refine st507 _ ?_
        refine XS.iconst X507.here hx rfl (hb hby d6_79) ?_
        refine XS.isub X507.here hx rfl (hb hby d6_80) rfl ?_
        refine X507.iaload hx (j := (1 : Int32)) (v := (.int y1)) (by rw [e507]; exact A508.1) (State.isArrayOf_alike hZ.alike A508.2.1) A508.2.2 hin508 hat508 (g := (mkF m 81 #[.val (.ref a1), .val (.long q2), .second, .val (.int (1 : Int32)), .val (.int (0 : Int32)), .val (.int b)] [(.int (1 : Int32)), (.ref ac477)])) rfl rfl (hb hby d6_81) _ ?_
        show Steps p.tables e below (T507.setTop (mkF m 82 #[.val (.ref a1), .val (.long q2), .second, .val (.int (1 : Int32)), .val (.int (0 : Int32)), .val (.int b)] [(.int y1)])) _
        refine XS.iload X507.here hx rfl (hb hby d6_82) rfl ?_
        refine XS.isub X507.here hx rfl (hb hby d6_84) rfl ?_
        exact kt)
      have lt510 : ¬ (x1 < q2) := by
        rw [Int64.lt_iff_toInt_lt] at hc484 hc494 ⊢
        omega
      have ev : (y1 - (if x1 < q2 then y1 else b)) = (y1 - b) := congrArg (fun z => y1 - z) (if_neg lt510)
      exact own_retI X507 hx Bd.notSynchronized Bd.returns (hb hby d6_85) pre509 (show QRi (y1 - (if x1 < q2 then y1 else b)) h0 n0 _ _ _ from ⟨by rw [ev], N503, e507⟩) (by decide) (by decide)
def QFgt022_0 (Z : State) (a1 : Addr) (q2 : Int64) (x0 : Int64) (x1 : Int64) (y0 : Int32) (y1 : Int32) (b : Int32) (h0 : Heap) (n0 : Nat) (v : Option Value) (h : Heap) (L : List Loc) : Prop := v = none ∧ Fr n0 L ∧ h0.size ≤ h.size ∧ PT Z h n0 a1 (0 : Int32) (2 : Int32) (2 : Int32) [(.long x0), (.long x1)] [(.int y0), (.int y1)] b
set_option maxRecDepth 65536 in
set_option maxHeartbeats 40000000 in
theorem rmFgt022_0 (l : Launch) (Z : State) (a0 : Array Value) (hw : ∀ d ∈ tables_1, d.before a0 Z = true) (ws : List Jvm.Cond) (a1 : Addr) (q2 : Int64) (x0 : Int64) (x1 : Int64) (y0 : Int32) (y1 : Int32) (b : Int32) (h0 : Heap) (n0 : Nat) (Z0 : n0 ≤ h0.size) (P0 : PT Z h0 n0 a1 (0 : Int32) (2 : Int32) (2 : Int32) [(.long x0), (.long x1)] [(.int y0), (.int y1)] b) (c0 : ¬ (x0 < q2)) :
    MetFree l own_y_32 (head1 (Jvm.Cond.code own_y_32 prog_25_method_4_code 3 none :: ws) ({ frames := 0, cells := 0, slots := 0, locals := 0 } : Room)) (fun a U => a = #[(.ref a1), (.long q2)] ∧ Z.Warmed39 U.vm ∧ U.heap = h0) (fun _ _ _ _ _ => True) (fun _ U o U' => ∃ v L, o = .returned v ∧ QFgt022_0 Z a1 q2 x0 x1 y0 y1 b h0 n0 v U'.heap L ∧ FrameEnd U o U' L ({ frames := 0, cells := 0, slots := 0, locals := 0 } : Room).cells ({ frames := 0, cells := 0, slots := 0, locals := 0 } : Room).slots) := by
  refine MetFree.of_bodySF (plainFor_of_name pn_2) hisR ?_
  intro p e s m args below meth c s₁ Bd hml0 hP hK
  obtain ⟨rfl, hZ, hh⟩ := hP
  have hx := Bd.exec
  have hby := Bd.bytes
  have hml : c.maxLocals = 3 := hml0
  have hown : s.vm.findClass "com/example/viral_counter/viralcounter/PostTrend" = some m.cls := findClass_of_methodNamed Bd.named
  have hnm := (name_of_methodNamed Bd.named Bd.method).1
  have X0 : Stand p l e ({ frames := 0, cells := 0, slots := 0, locals := 0 } : Room) s m #[(.ref a1), (.long q2)] below meth c s₁ [] 0 0 := Stand.of_body Bd
  have e0 : s₁.heap = h0 := by rw [← hh, Bd.state]; rfl
  have N0 := Fr.nil n0
  have pre0 : ∀ t, Steps p.tables e below (s₁.setTop (mkF m 0 #[.val (.ref a1), .val (.long q2), .second] [])) t → Steps p.tables e below (s₁.setTop (entryFrame m #[(.ref a1), (.long q2)] 3)) t := fun t k => castTop (ef_33 m a1 q2) k
  obtain ⟨am514, ac514, km514, kc514, E514, Fm514, Fc514, Ff514, Fe514, Fb514, Vm514, Vc514, Ga514, Gm514, Gc514, n1514, n2514, n3514⟩ := id P0
  have hz0 : h0.size ≤ h0.size := Nat.le_refl _
  obtain ⟨T515, X515, e515, st515⟩ := getF X0 hx hZ hown (host := "") (Or.inl (own_w hw 23 rfl)) Via.refl e0 Ff514 (g := (mkF m 1 #[.val (.ref a1), .val (.long q2), .second] [(.ref a1)])) rfl rfl (hb hby d4_1)
  obtain ⟨T516, X516, e516, st516⟩ := getF X515 hx hZ hown (host := "") (Or.inl (own_w hw 25 rfl)) Via.refl e515 Fe514 (g := (mkF m 5 #[.val (.ref a1), .val (.long q2), .second] [(.ref a1), (.int (0 : Int32))])) rfl rfl (hb hby d4_5)
  obtain ⟨T517, X517, e517, st517⟩ := getF X516 hx hZ hown (host := "") (Or.inl (own_w hw 13 rfl)) Via.refl e516 Fm514 (g := (mkF m 12 #[.val (.ref a1), .val (.long q2), .second] [(.ref a1)])) rfl rfl (hb hby d4_12)
  obtain ⟨T518, X518, e518, st518⟩ := getF X517 hx hZ hown (host := "") (Or.inl (own_w hw 23 rfl)) Via.refl e517 Ff514 (g := (mkF m 16 #[.val (.ref a1), .val (.long q2), .second] [(.ref a1), (.ref am514)])) rfl rfl (hb hby d4_16)
  obtain ⟨cl519, A519, q519, S519, M519, H519, J519⟩ := id Vm514
  have hin519 : ¬ ((0 : Int32) < 0 ∨ cl519.slots.size ≤ ((0 : Int32)).toNatClampNeg) := inb_of S519 ⟨by decide, by decide⟩
  have hat519 : cl519.slots[((0 : Int32)).toNatClampNeg]? = some (.long x0) := H519.at hin519 rfl
  have pre520 : ∀ t, Steps p.tables e below (T518.setTop (mkF m 51 #[.val (.ref a1), .val (.long q2), .second] [])) t → Steps p.tables e below (s₁.setTop (entryFrame m #[(.ref a1), (.long q2)] 3)) t := fun t kt => pre0 t (by
    show Steps p.tables e below (s₁.setTop (mkF m 0 #[.val (.ref a1), .val (.long q2), .second] [])) _
    refine XS.aloadN X0.here hx rfl (hb hby d4_0) rfl rfl ?_
    refine st515 _ ?_
    refine XS.aloadN X515.here hx rfl (hb hby d4_4) rfl rfl ?_
    refine st516 _ ?_
    refine XS.icmpNo X516.here hx rfl (hb hby d4_8) rfl (tlt (by decide : (0 : Int32) < (2 : Int32))).2.1 ?_
    refine XS.aloadN X516.here hx rfl (hb hby d4_11) rfl rfl ?_
    refine st517 _ ?_
    refine XS.aloadN X517.here hx rfl (hb hby d4_15) rfl rfl ?_
    refine st518 _ ?_
    refine X518.laload hx (j := (0 : Int32)) (v := (.long x0)) (by rw [e518]; exact A519.1) (State.isArrayOf_alike hZ.alike A519.2.1) A519.2.2 hin519 hat519 (g := (mkF m 19 #[.val (.ref a1), .val (.long q2), .second] [(.int (0 : Int32)), (.ref am514)])) rfl rfl (hb hby d4_19) _ ?_
    refine XS.lloadN X518.here hx rfl (hb hby d4_20) rfl ?_
    refine XS.lcmp X518.here hx rfl (hb hby d4_21) rfl ?_
    show Steps p.tables e below (T518.setTop (mkF m 22 #[.val (.ref a1), .val (.long q2), .second] [(.int (lcmpW x0 q2))])) _
    refine XS.ifYes X518.here hx rfl (pc0 := 22) (pc' := 51) rfl (hb hby d4_22) rfl ((if0 _ _).trans (flt (fun q => c0 ((lw_lt _ _).mp q))).2.1) (by decide) (by decide) ?_
    exact kt)
  have hz : h0.size ≤ h0.size := Nat.le_refl _
  have hQ : QFgt022_0 Z a1 q2 x0 x1 y0 y1 b h0 n0 none h0 _ := ⟨rfl, N0, hz, ⟨am514, ac514, km514, kc514, E514, Fm514, Fc514, Ff514, Fe514, Fb514, Vm514, Vc514, Ga514, Gm514, Gc514, n1514, n2514, n3514⟩⟩
  exact own_retV X518 hx Bd.notSynchronized Bd.returns (hb hby d4_51) pre520 (show QFgt022_0 Z a1 q2 x0 x1 y0 y1 b h0 n0 _ _ _ from (by rw [e518]; exact hQ)) (by decide) (by decide)
set_option maxRecDepth 65536 in
set_option maxHeartbeats 40000000 in
theorem rmBs022 (l : Launch) (Z : State) (a0 : Array Value) (hw : ∀ d ∈ tables_1, d.before a0 Z = true) (ws : List Jvm.Cond) (a1 : Addr) (q4 : Int64) (k0 : ClassId) (x0 : Int64) (x1 : Int64) (r : Int32) (h0 : Heap) (n0 : Nat) (Z0 : n0 ≤ h0.size) (V0 : Arv Z h0 a1 k0 .long (2 : Int32) [(.long x0), (.long x1)] (.long (0 : Int64))) (er : (if x0 < q4 then (if x1 < q4 then (-3 : Int32) else (if q4 < x1 then (-2 : Int32) else (1 : Int32))) else (if q4 < x0 then (-1 : Int32) else (0 : Int32))) = r) :
    MetFree l own_y_185 (head1 (Jvm.Cond.code own_y_185 jdk_65_method_56_code 10 (some .int) :: ws) ({ frames := 0, cells := 0, slots := 0, locals := 0 } : Room)) (fun a U => a = #[(.ref a1), (.int (0 : Int32)), (.int (2 : Int32)), (.long q4)] ∧ Z.Warmed39 U.vm ∧ U.heap = h0) (fun _ _ _ _ _ => True) (fun _ U o U' => ∃ v L, o = .returned v ∧ QBs r h0 n0 v U'.heap L ∧ FrameEnd U o U' L ({ frames := 0, cells := 0, slots := 0, locals := 0 } : Room).cells ({ frames := 0, cells := 0, slots := 0, locals := 0 } : Room).slots) := by
  refine MetFree.of_bodySF (plainFor_of_name pn_187) hisR ?_
  intro p e s m args below meth c s₁ Bd hml0 hP hK
  obtain ⟨rfl, hZ, hh⟩ := hP
  have hx := Bd.exec
  have hby := Bd.bytes
  have hml : c.maxLocals = 10 := hml0
  have hown : s.vm.findClass "java/util/Arrays" = some m.cls := findClass_of_methodNamed Bd.named
  have hnm := (name_of_methodNamed Bd.named Bd.method).1
  have X0 : Stand p l e ({ frames := 0, cells := 0, slots := 0, locals := 0 } : Room) s m #[(.ref a1), (.int (0 : Int32)), (.int (2 : Int32)), (.long q4)] below meth c s₁ [] 0 0 := Stand.of_body Bd
  have e0 : s₁.heap = h0 := by rw [← hh, Bd.state]; rfl
  have N0 := Fr.nil n0
  have pre0 : ∀ t, Steps p.tables e below (s₁.setTop (mkF m 0 #[.val (.ref a1), .val (.int (0 : Int32)), .val (.int (2 : Int32)), .val (.long q4), .second, .unset, .unset, .unset, .unset, .unset] [])) t → Steps p.tables e below (s₁.setTop (entryFrame m #[(.ref a1), (.int (0 : Int32)), (.int (2 : Int32)), (.long q4)] 10)) t := fun t k => castTop (ef_186 m a1 (0 : Int32) (2 : Int32) q4) k
  obtain ⟨cl524, A524, q524, S524, M524, H524, J524⟩ := id V0
  have hin524 : ¬ ((0 : Int32) < 0 ∨ cl524.slots.size ≤ ((0 : Int32)).toNatClampNeg) := inb_of S524 ⟨by decide, by decide⟩
  have hat524 : cl524.slots[((0 : Int32)).toNatClampNeg]? = some (.long x0) := H524.at hin524 rfl
  have pre525 : ∀ t, Steps p.tables e below (s₁.setTop (mkF m 34 #[.val (.ref a1), .val (.int (0 : Int32)), .val (.int (2 : Int32)), .val (.long q4), .second, .val (.int (0 : Int32)), .val (.int (1 : Int32)), .val (.int (0 : Int32)), .val (.long x0), .second] [(.int (lcmpW x0 q4))])) t → Steps p.tables e below (s₁.setTop (entryFrame m #[(.ref a1), (.int (0 : Int32)), (.int (2 : Int32)), (.long q4)] 10)) t := fun t kt => pre0 t (by
    show Steps p.tables e below (s₁.setTop (mkF m 0 #[.val (.ref a1), .val (.int (0 : Int32)), .val (.int (2 : Int32)), .val (.long q4), .second, .unset, .unset, .unset, .unset, .unset] [])) _
    refine XS.iloadN X0.here hx rfl (hb hby d9_0) rfl ?_
    refine XS.istore X0.here hx rfl (hb hby d9_1) rfl (l' := #[.val (.ref a1), .val (.int (0 : Int32)), .val (.int (2 : Int32)), .val (.long q4), .second, .val (.int (0 : Int32)), .unset, .unset, .unset, .unset]) rfl ?_
    refine XS.iloadN X0.here hx rfl (hb hby d9_3) rfl ?_
    refine XS.iconst X0.here hx rfl (hb hby d9_4) ?_
    refine XS.isub X0.here hx rfl (hb hby d9_5) rfl ?_
    refine XS.istore X0.here hx rfl (hb hby d9_6) rfl (l' := #[.val (.ref a1), .val (.int (0 : Int32)), .val (.int (2 : Int32)), .val (.long q4), .second, .val (.int (0 : Int32)), .val (.int (1 : Int32)), .unset, .unset, .unset]) rfl ?_
    refine XS.iload X0.here hx rfl (hb hby d9_8) rfl ?_
    refine XS.iload X0.here hx rfl (hb hby d9_10) rfl ?_
    refine XS.icmpNo X0.here hx rfl (hb hby d9_12) rfl (flt (by decide : ¬ ((1 : Int32) < (0 : Int32)))).2.2.1 ?_
    refine XS.iload X0.here hx rfl (hb hby d9_15) rfl ?_
    refine XS.iload X0.here hx rfl (hb hby d9_17) rfl ?_
    refine XS.iadd X0.here hx rfl (hb hby d9_19) rfl ?_
    show Steps p.tables e below (s₁.setTop (mkF m 20 #[.val (.ref a1), .val (.int (0 : Int32)), .val (.int (2 : Int32)), .val (.long q4), .second, .val (.int (0 : Int32)), .val (.int (1 : Int32)), .unset, .unset, .unset] [(.int (1 : Int32))])) _
    refine XS.iconst X0.here hx rfl (hb hby d9_20) ?_
    refine XS.iushr X0.here hx rfl (hb hby d9_21) rfl ?_
    refine XS.istore X0.here hx rfl (hb hby d9_22) rfl (l' := #[.val (.ref a1), .val (.int (0 : Int32)), .val (.int (2 : Int32)), .val (.long q4), .second, .val (.int (0 : Int32)), .val (.int (1 : Int32)), .val (.int (0 : Int32)), .unset, .unset]) rfl ?_
    refine XS.aloadN X0.here hx rfl (hb hby d9_24) rfl rfl ?_
    refine XS.iload X0.here hx rfl (hb hby d9_25) rfl ?_
    refine X0.laload hx (j := (0 : Int32)) (v := (.long x0)) (by rw [e0]; exact A524.1) (State.isArrayOf_alike hZ.alike A524.2.1) A524.2.2 hin524 hat524 (g := (mkF m 27 #[.val (.ref a1), .val (.int (0 : Int32)), .val (.int (2 : Int32)), .val (.long q4), .second, .val (.int (0 : Int32)), .val (.int (1 : Int32)), .val (.int (0 : Int32)), .unset, .unset] [(.int (0 : Int32)), (.ref a1)])) rfl rfl (hb hby d9_27) _ ?_
    refine XS.lstore X0.here hx rfl (hb hby d9_28) rfl (l' := #[.val (.ref a1), .val (.int (0 : Int32)), .val (.int (2 : Int32)), .val (.long q4), .second, .val (.int (0 : Int32)), .val (.int (1 : Int32)), .val (.int (0 : Int32)), .val (.long x0), .second]) rfl ?_
    refine XS.lload X0.here hx rfl (hb hby d9_30) rfl ?_
    refine XS.lloadN X0.here hx rfl (hb hby d9_32) rfl ?_
    refine XS.lcmp X0.here hx rfl (hb hby d9_33) rfl ?_
    exact kt)
  by_cases hc526 : x0 < q4
  case pos =>
    obtain ⟨cl527, A527, q527, S527, M527, H527, J527⟩ := id V0
    have hin527 : ¬ ((1 : Int32) < 0 ∨ cl527.slots.size ≤ ((1 : Int32)).toNatClampNeg) := inb_of S527 ⟨by decide, by decide⟩
    have hat527 : cl527.slots[((1 : Int32)).toNatClampNeg]? = some (.long x1) := H527.at hin527 rfl
    have pre528 : ∀ t, Steps p.tables e below (s₁.setTop (mkF m 34 #[.val (.ref a1), .val (.int (0 : Int32)), .val (.int (2 : Int32)), .val (.long q4), .second, .val (.int (1 : Int32)), .val (.int (1 : Int32)), .val (.int (1 : Int32)), .val (.long x1), .second] [(.int (lcmpW x1 q4))])) t → Steps p.tables e below (s₁.setTop (entryFrame m #[(.ref a1), (.int (0 : Int32)), (.int (2 : Int32)), (.long q4)] 10)) t := fun t kt => pre525 t (by
      show Steps p.tables e below (s₁.setTop (mkF m 34 #[.val (.ref a1), .val (.int (0 : Int32)), .val (.int (2 : Int32)), .val (.long q4), .second, .val (.int (0 : Int32)), .val (.int (1 : Int32)), .val (.int (0 : Int32)), .val (.long x0), .second] [(.int (lcmpW x0 q4))])) _
      refine XS.ifNo X0.here hx rfl (hb hby d9_34) rfl ((if0 _ _).trans (tlt ((lw_lt _ _).mpr hc526)).2.1) ?_
      refine XS.iload X0.here hx rfl (hb hby d9_37) rfl ?_
      refine XS.iconst X0.here hx rfl (hb hby d9_39) ?_
      refine XS.iadd X0.here hx rfl (hb hby d9_40) rfl ?_
      refine XS.istore X0.here hx rfl (hb hby d9_41) rfl (l' := #[.val (.ref a1), .val (.int (0 : Int32)), .val (.int (2 : Int32)), .val (.long q4), .second, .val (.int (1 : Int32)), .val (.int (1 : Int32)), .val (.int (0 : Int32)), .val (.long x0), .second]) rfl ?_
      refine XS.goto X0.here hx rfl (pc0 := 43) (pc' := 65) rfl (hb hby d9_43) (by decide) (by decide) ?_
      refine XS.goto X0.here hx rfl (pc0 := 65) (pc' := 8) rfl (hb hby d9_65) (by decide) (by decide) ?_
      refine XS.iload X0.here hx rfl (hb hby d9_8) rfl ?_
      refine XS.iload X0.here hx rfl (hb hby d9_10) rfl ?_
      refine XS.icmpNo X0.here hx rfl (hb hby d9_12) rfl (flt (by decide : ¬ ((1 : Int32) < (1 : Int32)))).2.2.1 ?_
      refine XS.iload X0.here hx rfl (hb hby d9_15) rfl ?_
      refine XS.iload X0.here hx rfl (hb hby d9_17) rfl ?_
      show Steps p.tables e below (s₁.setTop (mkF m 19 #[.val (.ref a1), .val (.int (0 : Int32)), .val (.int (2 : Int32)), .val (.long q4), .second, .val (.int (1 : Int32)), .val (.int (1 : Int32)), .val (.int (0 : Int32)), .val (.long x0), .second] [(.int (1 : Int32)), (.int (1 : Int32))])) _
      refine XS.iadd X0.here hx rfl (hb hby d9_19) rfl ?_
      refine XS.iconst X0.here hx rfl (hb hby d9_20) ?_
      refine XS.iushr X0.here hx rfl (hb hby d9_21) rfl ?_
      refine XS.istore X0.here hx rfl (hb hby d9_22) rfl (l' := #[.val (.ref a1), .val (.int (0 : Int32)), .val (.int (2 : Int32)), .val (.long q4), .second, .val (.int (1 : Int32)), .val (.int (1 : Int32)), .val (.int (1 : Int32)), .val (.long x0), .second]) rfl ?_
      refine XS.aloadN X0.here hx rfl (hb hby d9_24) rfl rfl ?_
      refine XS.iload X0.here hx rfl (hb hby d9_25) rfl ?_
      refine X0.laload hx (j := (1 : Int32)) (v := (.long x1)) (by rw [e0]; exact A527.1) (State.isArrayOf_alike hZ.alike A527.2.1) A527.2.2 hin527 hat527 (g := (mkF m 27 #[.val (.ref a1), .val (.int (0 : Int32)), .val (.int (2 : Int32)), .val (.long q4), .second, .val (.int (1 : Int32)), .val (.int (1 : Int32)), .val (.int (1 : Int32)), .val (.long x0), .second] [(.int (1 : Int32)), (.ref a1)])) rfl rfl (hb hby d9_27) _ ?_
      refine XS.lstore X0.here hx rfl (hb hby d9_28) rfl (l' := #[.val (.ref a1), .val (.int (0 : Int32)), .val (.int (2 : Int32)), .val (.long q4), .second, .val (.int (1 : Int32)), .val (.int (1 : Int32)), .val (.int (1 : Int32)), .val (.long x1), .second]) rfl ?_
      refine XS.lload X0.here hx rfl (hb hby d9_30) rfl ?_
      refine XS.lloadN X0.here hx rfl (hb hby d9_32) rfl ?_
      refine XS.lcmp X0.here hx rfl (hb hby d9_33) rfl ?_
      exact kt)
    by_cases hc529 : x1 < q4
    case pos =>
      have pre534 : ∀ t, Steps p.tables e below (s₁.setTop (mkF m 73 #[.val (.ref a1), .val (.int (0 : Int32)), .val (.int (2 : Int32)), .val (.long q4), .second, .val (.int (2 : Int32)), .val (.int (1 : Int32)), .val (.int (1 : Int32)), .val (.long x1), .second] [(.int (-3 : Int32))])) t → Steps p.tables e below (s₁.setTop (entryFrame m #[(.ref a1), (.int (0 : Int32)), (.int (2 : Int32)), (.long q4)] 10)) t := fun t kt => pre528 t (by
        show Steps p.tables e below (s₁.setTop (mkF m 34 #[.val (.ref a1), .val (.int (0 : Int32)), .val (.int (2 : Int32)), .val (.long q4), .second, .val (.int (1 : Int32)), .val (.int (1 : Int32)), .val (.int (1 : Int32)), .val (.long x1), .second] [(.int (lcmpW x1 q4))])) _
        refine XS.ifNo X0.here hx rfl (hb hby d9_34) rfl ((if0 _ _).trans (tlt ((lw_lt _ _).mpr hc529)).2.1) ?_
        refine XS.iload X0.here hx rfl (hb hby d9_37) rfl ?_
        refine XS.iconst X0.here hx rfl (hb hby d9_39) ?_
        refine XS.iadd X0.here hx rfl (hb hby d9_40) rfl ?_
        refine XS.istore X0.here hx rfl (hb hby d9_41) rfl (l' := #[.val (.ref a1), .val (.int (0 : Int32)), .val (.int (2 : Int32)), .val (.long q4), .second, .val (.int (2 : Int32)), .val (.int (1 : Int32)), .val (.int (1 : Int32)), .val (.long x1), .second]) rfl ?_
        refine XS.goto X0.here hx rfl (pc0 := 43) (pc' := 65) rfl (hb hby d9_43) (by decide) (by decide) ?_
        refine XS.goto X0.here hx rfl (pc0 := 65) (pc' := 8) rfl (hb hby d9_65) (by decide) (by decide) ?_
        refine XS.iload X0.here hx rfl (hb hby d9_8) rfl ?_
        refine XS.iload X0.here hx rfl (hb hby d9_10) rfl ?_
        refine XS.icmpYes X0.here hx rfl (pc0 := 12) (pc' := 68) rfl (hb hby d9_12) rfl (tlt (by decide : (1 : Int32) < (2 : Int32))).2.2.1 (by decide) (by decide) ?_
        refine XS.iload X0.here hx rfl (hb hby d9_68) rfl ?_
        refine XS.iconst X0.here hx rfl (hb hby d9_70) ?_
        show Steps p.tables e below (s₁.setTop (mkF m 71 #[.val (.ref a1), .val (.int (0 : Int32)), .val (.int (2 : Int32)), .val (.long q4), .second, .val (.int (2 : Int32)), .val (.int (1 : Int32)), .val (.int (1 : Int32)), .val (.long x1), .second] [(.int (1 : Int32)), (.int (2 : Int32))])) _
        refine XS.iadd X0.here hx rfl (hb hby d9_71) rfl ?_
        refine XS.ineg X0.here hx rfl (hb hby d9_72) rfl ?_
        exact kt)
      have ev : r = (-3 : Int32) := er.symm.trans ((if_pos hc526).trans (if_pos hc529))
      exact own_retI X0 hx Bd.notSynchronized Bd.returns (hb hby d9_73) pre534 (show QBs r h0 n0 _ _ _ from ⟨by rw [ev], N0, e0⟩) (by decide) (by decide)
    case neg =>
      have pre530 : ∀ t, Steps p.tables e below (s₁.setTop (mkF m 50 #[.val (.ref a1), .val (.int (0 : Int32)), .val (.int (2 : Int32)), .val (.long q4), .second, .val (.int (1 : Int32)), .val (.int (1 : Int32)), .val (.int (1 : Int32)), .val (.long x1), .second] [(.int (lcmpW x1 q4))])) t → Steps p.tables e below (s₁.setTop (entryFrame m #[(.ref a1), (.int (0 : Int32)), (.int (2 : Int32)), (.long q4)] 10)) t := fun t kt => pre528 t (by
        show Steps p.tables e below (s₁.setTop (mkF m 34 #[.val (.ref a1), .val (.int (0 : Int32)), .val (.int (2 : Int32)), .val (.long q4), .second, .val (.int (1 : Int32)), .val (.int (1 : Int32)), .val (.int (1 : Int32)), .val (.long x1), .second] [(.int (lcmpW x1 q4))])) _
        refine XS.ifYes X0.here hx rfl (pc0 := 34) (pc' := 46) rfl (hb hby d9_34) rfl ((if0 _ _).trans (flt (fun q => hc529 ((lw_lt _ _).mp q))).2.1) (by decide) (by decide) ?_
        refine XS.lload X0.here hx rfl (hb hby d9_46) rfl ?_
        refine XS.lloadN X0.here hx rfl (hb hby d9_48) rfl ?_
        refine XS.lcmp X0.here hx rfl (hb hby d9_49) rfl ?_
        exact kt)
      by_cases hc531 : q4 < x1
      case pos =>
        have pre535 : ∀ t, Steps p.tables e below (s₁.setTop (mkF m 73 #[.val (.ref a1), .val (.int (0 : Int32)), .val (.int (2 : Int32)), .val (.long q4), .second, .val (.int (1 : Int32)), .val (.int (0 : Int32)), .val (.int (1 : Int32)), .val (.long x1), .second] [(.int (-2 : Int32))])) t → Steps p.tables e below (s₁.setTop (entryFrame m #[(.ref a1), (.int (0 : Int32)), (.int (2 : Int32)), (.long q4)] 10)) t := fun t kt => pre530 t (by
          show Steps p.tables e below (s₁.setTop (mkF m 50 #[.val (.ref a1), .val (.int (0 : Int32)), .val (.int (2 : Int32)), .val (.long q4), .second, .val (.int (1 : Int32)), .val (.int (1 : Int32)), .val (.int (1 : Int32)), .val (.long x1), .second] [(.int (lcmpW x1 q4))])) _
          refine XS.ifNo X0.here hx rfl (hb hby d9_50) rfl ((if0 _ _).trans (tlt ((lw_gt _ _).mpr hc531)).2.2.2) ?_
          refine XS.iload X0.here hx rfl (hb hby d9_53) rfl ?_
          refine XS.iconst X0.here hx rfl (hb hby d9_55) ?_
          refine XS.isub X0.here hx rfl (hb hby d9_56) rfl ?_
          refine XS.istore X0.here hx rfl (hb hby d9_57) rfl (l' := #[.val (.ref a1), .val (.int (0 : Int32)), .val (.int (2 : Int32)), .val (.long q4), .second, .val (.int (1 : Int32)), .val (.int (0 : Int32)), .val (.int (1 : Int32)), .val (.long x1), .second]) rfl ?_
          refine XS.goto X0.here hx rfl (pc0 := 59) (pc' := 65) rfl (hb hby d9_59) (by decide) (by decide) ?_
          refine XS.goto X0.here hx rfl (pc0 := 65) (pc' := 8) rfl (hb hby d9_65) (by decide) (by decide) ?_
          refine XS.iload X0.here hx rfl (hb hby d9_8) rfl ?_
          refine XS.iload X0.here hx rfl (hb hby d9_10) rfl ?_
          refine XS.icmpYes X0.here hx rfl (pc0 := 12) (pc' := 68) rfl (hb hby d9_12) rfl (tlt (by decide : (0 : Int32) < (1 : Int32))).2.2.1 (by decide) (by decide) ?_
          refine XS.iload X0.here hx rfl (hb hby d9_68) rfl ?_
          refine XS.iconst X0.here hx rfl (hb hby d9_70) ?_
          show Steps p.tables e below (s₁.setTop (mkF m 71 #[.val (.ref a1), .val (.int (0 : Int32)), .val (.int (2 : Int32)), .val (.long q4), .second, .val (.int (1 : Int32)), .val (.int (0 : Int32)), .val (.int (1 : Int32)), .val (.long x1), .second] [(.int (1 : Int32)), (.int (1 : Int32))])) _
          refine XS.iadd X0.here hx rfl (hb hby d9_71) rfl ?_
          refine XS.ineg X0.here hx rfl (hb hby d9_72) rfl ?_
          exact kt)
        have ev : r = (-2 : Int32) := er.symm.trans (((if_pos hc526).trans (if_neg hc529)).trans (if_pos hc531))
        exact own_retI X0 hx Bd.notSynchronized Bd.returns (hb hby d9_73) pre535 (show QBs r h0 n0 _ _ _ from ⟨by rw [ev], N0, e0⟩) (by decide) (by decide)
      case neg =>
        have pre536 : ∀ t, Steps p.tables e below (s₁.setTop (mkF m 64 #[.val (.ref a1), .val (.int (0 : Int32)), .val (.int (2 : Int32)), .val (.long q4), .second, .val (.int (1 : Int32)), .val (.int (1 : Int32)), .val (.int (1 : Int32)), .val (.long x1), .second] [(.int (1 : Int32))])) t → Steps p.tables e below (s₁.setTop (entryFrame m #[(.ref a1), (.int (0 : Int32)), (.int (2 : Int32)), (.long q4)] 10)) t := fun t kt => pre530 t (by
          show Steps p.tables e below (s₁.setTop (mkF m 50 #[.val (.ref a1), .val (.int (0 : Int32)), .val (.int (2 : Int32)), .val (.long q4), .second, .val (.int (1 : Int32)), .val (.int (1 : Int32)), .val (.int (1 : Int32)), .val (.long x1), .second] [(.int (lcmpW x1 q4))])) _
          refine XS.ifYes X0.here hx rfl (pc0 := 50) (pc' := 62) rfl (hb hby d9_50) rfl ((if0 _ _).trans (flt (fun q => hc531 ((lw_gt _ _).mp q))).2.2.2) (by decide) (by decide) ?_
          refine XS.iload X0.here hx rfl (hb hby d9_62) rfl ?_
          exact kt)
        have ev : r = (1 : Int32) := er.symm.trans (((if_pos hc526).trans (if_neg hc529)).trans (if_neg hc531))
        exact own_retI X0 hx Bd.notSynchronized Bd.returns (hb hby d9_64) pre536 (show QBs r h0 n0 _ _ _ from ⟨by rw [ev], N0, e0⟩) (by decide) (by decide)
  case neg =>
    have pre532 : ∀ t, Steps p.tables e below (s₁.setTop (mkF m 50 #[.val (.ref a1), .val (.int (0 : Int32)), .val (.int (2 : Int32)), .val (.long q4), .second, .val (.int (0 : Int32)), .val (.int (1 : Int32)), .val (.int (0 : Int32)), .val (.long x0), .second] [(.int (lcmpW x0 q4))])) t → Steps p.tables e below (s₁.setTop (entryFrame m #[(.ref a1), (.int (0 : Int32)), (.int (2 : Int32)), (.long q4)] 10)) t := fun t kt => pre525 t (by
      show Steps p.tables e below (s₁.setTop (mkF m 34 #[.val (.ref a1), .val (.int (0 : Int32)), .val (.int (2 : Int32)), .val (.long q4), .second, .val (.int (0 : Int32)), .val (.int (1 : Int32)), .val (.int (0 : Int32)), .val (.long x0), .second] [(.int (lcmpW x0 q4))])) _
      refine XS.ifYes X0.here hx rfl (pc0 := 34) (pc' := 46) rfl (hb hby d9_34) rfl ((if0 _ _).trans (flt (fun q => hc526 ((lw_lt _ _).mp q))).2.1) (by decide) (by decide) ?_
      refine XS.lload X0.here hx rfl (hb hby d9_46) rfl ?_
      refine XS.lloadN X0.here hx rfl (hb hby d9_48) rfl ?_
      refine XS.lcmp X0.here hx rfl (hb hby d9_49) rfl ?_
      exact kt)
    by_cases hc533 : q4 < x0
    case pos =>
      have pre537 : ∀ t, Steps p.tables e below (s₁.setTop (mkF m 73 #[.val (.ref a1), .val (.int (0 : Int32)), .val (.int (2 : Int32)), .val (.long q4), .second, .val (.int (0 : Int32)), .val (.int (-1 : Int32)), .val (.int (0 : Int32)), .val (.long x0), .second] [(.int (-1 : Int32))])) t → Steps p.tables e below (s₁.setTop (entryFrame m #[(.ref a1), (.int (0 : Int32)), (.int (2 : Int32)), (.long q4)] 10)) t := fun t kt => pre532 t (by
        show Steps p.tables e below (s₁.setTop (mkF m 50 #[.val (.ref a1), .val (.int (0 : Int32)), .val (.int (2 : Int32)), .val (.long q4), .second, .val (.int (0 : Int32)), .val (.int (1 : Int32)), .val (.int (0 : Int32)), .val (.long x0), .second] [(.int (lcmpW x0 q4))])) _
        refine XS.ifNo X0.here hx rfl (hb hby d9_50) rfl ((if0 _ _).trans (tlt ((lw_gt _ _).mpr hc533)).2.2.2) ?_
        refine XS.iload X0.here hx rfl (hb hby d9_53) rfl ?_
        refine XS.iconst X0.here hx rfl (hb hby d9_55) ?_
        refine XS.isub X0.here hx rfl (hb hby d9_56) rfl ?_
        refine XS.istore X0.here hx rfl (hb hby d9_57) rfl (l' := #[.val (.ref a1), .val (.int (0 : Int32)), .val (.int (2 : Int32)), .val (.long q4), .second, .val (.int (0 : Int32)), .val (.int (-1 : Int32)), .val (.int (0 : Int32)), .val (.long x0), .second]) rfl ?_
        refine XS.goto X0.here hx rfl (pc0 := 59) (pc' := 65) rfl (hb hby d9_59) (by decide) (by decide) ?_
        refine XS.goto X0.here hx rfl (pc0 := 65) (pc' := 8) rfl (hb hby d9_65) (by decide) (by decide) ?_
        refine XS.iload X0.here hx rfl (hb hby d9_8) rfl ?_
        refine XS.iload X0.here hx rfl (hb hby d9_10) rfl ?_
        refine XS.icmpYes X0.here hx rfl (pc0 := 12) (pc' := 68) rfl (hb hby d9_12) rfl (tlt (by decide : (-1 : Int32) < (0 : Int32))).2.2.1 (by decide) (by decide) ?_
        refine XS.iload X0.here hx rfl (hb hby d9_68) rfl ?_
        refine XS.iconst X0.here hx rfl (hb hby d9_70) ?_
        show Steps p.tables e below (s₁.setTop (mkF m 71 #[.val (.ref a1), .val (.int (0 : Int32)), .val (.int (2 : Int32)), .val (.long q4), .second, .val (.int (0 : Int32)), .val (.int (-1 : Int32)), .val (.int (0 : Int32)), .val (.long x0), .second] [(.int (1 : Int32)), (.int (0 : Int32))])) _
        refine XS.iadd X0.here hx rfl (hb hby d9_71) rfl ?_
        refine XS.ineg X0.here hx rfl (hb hby d9_72) rfl ?_
        exact kt)
      have ev : r = (-1 : Int32) := er.symm.trans ((if_neg hc526).trans (if_pos hc533))
      exact own_retI X0 hx Bd.notSynchronized Bd.returns (hb hby d9_73) pre537 (show QBs r h0 n0 _ _ _ from ⟨by rw [ev], N0, e0⟩) (by decide) (by decide)
    case neg =>
      have pre538 : ∀ t, Steps p.tables e below (s₁.setTop (mkF m 64 #[.val (.ref a1), .val (.int (0 : Int32)), .val (.int (2 : Int32)), .val (.long q4), .second, .val (.int (0 : Int32)), .val (.int (1 : Int32)), .val (.int (0 : Int32)), .val (.long x0), .second] [(.int (0 : Int32))])) t → Steps p.tables e below (s₁.setTop (entryFrame m #[(.ref a1), (.int (0 : Int32)), (.int (2 : Int32)), (.long q4)] 10)) t := fun t kt => pre532 t (by
        show Steps p.tables e below (s₁.setTop (mkF m 50 #[.val (.ref a1), .val (.int (0 : Int32)), .val (.int (2 : Int32)), .val (.long q4), .second, .val (.int (0 : Int32)), .val (.int (1 : Int32)), .val (.int (0 : Int32)), .val (.long x0), .second] [(.int (lcmpW x0 q4))])) _
        refine XS.ifYes X0.here hx rfl (pc0 := 50) (pc' := 62) rfl (hb hby d9_50) rfl ((if0 _ _).trans (flt (fun q => hc533 ((lw_gt _ _).mp q))).2.2.2) (by decide) (by decide) ?_
        refine XS.iload X0.here hx rfl (hb hby d9_62) rfl ?_
        exact kt)
      have ev : r = (0 : Int32) := er.symm.trans ((if_neg hc526).trans (if_neg hc533))
      exact own_retI X0 hx Bd.notSynchronized Bd.returns (hb hby d9_64) pre538 (show QBs r h0 n0 _ _ _ from ⟨by rw [ev], N0, e0⟩) (by decide) (by decide)
set_option maxRecDepth 65536 in
set_option maxHeartbeats 40000000 in
theorem rmRcBs022 (l : Launch) (Z : State) (a0 : Array Value) (hw : ∀ d ∈ tables_1, d.before a0 Z = true) (ws : List Jvm.Cond)  (h0 : Heap) (n0 : Nat) (Z0 : n0 ≤ h0.size) :
    MetFree l own_y_188 (head1 (Jvm.Cond.code own_y_188 jdk_65_method_30_code 3 none :: ws) ({ frames := 0, cells := 0, slots := 0, locals := 0 } : Room)) (fun a U => a = #[(.int (2 : Int32)), (.int (0 : Int32)), (.int (2 : Int32))] ∧ Z.Warmed39 U.vm ∧ U.heap = h0) (fun _ _ _ _ _ => True) (fun _ U o U' => ∃ v L, o = .returned v ∧ QRc h0 n0 v U'.heap L ∧ FrameEnd U o U' L ({ frames := 0, cells := 0, slots := 0, locals := 0 } : Room).cells ({ frames := 0, cells := 0, slots := 0, locals := 0 } : Room).slots) := by
  refine MetFree.of_bodySF (plainFor_of_name pn_187) hisR ?_
  intro p e s m args below meth c s₁ Bd hml0 hP hK
  obtain ⟨rfl, hZ, hh⟩ := hP
  have hx := Bd.exec
  have hby := Bd.bytes
  have hml : c.maxLocals = 3 := hml0
  have hown : s.vm.findClass "java/util/Arrays" = some m.cls := findClass_of_methodNamed Bd.named
  have hnm := (name_of_methodNamed Bd.named Bd.method).1
  have X0 : Stand p l e ({ frames := 0, cells := 0, slots := 0, locals := 0 } : Room) s m #[(.int (2 : Int32)), (.int (0 : Int32)), (.int (2 : Int32))] below meth c s₁ [] 0 0 := Stand.of_body Bd
  have e0 : s₁.heap = h0 := by rw [← hh, Bd.state]; rfl
  have N0 := Fr.nil n0
  have pre0 : ∀ t, Steps p.tables e below (s₁.setTop (mkF m 0 #[.val (.int (2 : Int32)), .val (.int (0 : Int32)), .val (.int (2 : Int32))] [])) t → Steps p.tables e below (s₁.setTop (entryFrame m #[(.int (2 : Int32)), (.int (0 : Int32)), (.int (2 : Int32))] 3)) t := fun t k => castTop (ef_189 m (2 : Int32) (0 : Int32) (2 : Int32)) k
  have pre539 : ∀ t, Steps p.tables e below (s₁.setTop (mkF m 73 #[.val (.int (2 : Int32)), .val (.int (0 : Int32)), .val (.int (2 : Int32))] [])) t → Steps p.tables e below (s₁.setTop (entryFrame m #[(.int (2 : Int32)), (.int (0 : Int32)), (.int (2 : Int32))] 3)) t := fun t kt => pre0 t (by
    show Steps p.tables e below (s₁.setTop (mkF m 0 #[.val (.int (2 : Int32)), .val (.int (0 : Int32)), .val (.int (2 : Int32))] [])) _
    refine XS.iloadN X0.here hx rfl (hb hby d8_0) rfl ?_
    refine XS.iloadN X0.here hx rfl (hb hby d8_1) rfl ?_
    refine XS.icmpYes X0.here hx rfl (pc0 := 2) (pc' := 46) rfl (hb hby d8_2) rfl (flt (by decide : ¬ ((2 : Int32) < (0 : Int32)))).2.2.2 (by decide) (by decide) ?_
    refine XS.iloadN X0.here hx rfl (hb hby d8_46) rfl ?_
    refine XS.ifYes X0.here hx rfl (pc0 := 47) (pc' := 59) rfl (hb hby d8_47) rfl ((if0 _ _).trans (flt (by decide : ¬ ((0 : Int32) < (0 : Int32)))).2.1) (by decide) (by decide) ?_
    refine XS.iloadN X0.here hx rfl (hb hby d8_59) rfl ?_
    refine XS.iloadN X0.here hx rfl (hb hby d8_60) rfl ?_
    refine XS.icmpYes X0.here hx rfl (pc0 := 61) (pc' := 73) rfl (hb hby d8_61) rfl (flt (by decide : ¬ ((2 : Int32) < (2 : Int32)))).2.2.2 (by decide) (by decide) ?_
    exact kt)
  exact own_retV X0 hx Bd.notSynchronized Bd.returns (hb hby d8_73) pre539 (show QRc h0 n0 _ _ _ from ⟨rfl, N0, e0⟩) (by decide) (by decide)
set_option maxRecDepth 65536 in
set_option maxHeartbeats 40000000 in
theorem rmSBs022 (l : Launch) (Z : State) (a0 : Array Value) (hw : ∀ d ∈ tables_1, d.before a0 Z = true) (ws : List Jvm.Cond) (a1 : Addr) (q4 : Int64) (k0 : ClassId) (x0 : Int64) (x1 : Int64) (r : Int32) (h0 : Heap) (n0 : Nat) (Z0 : n0 ≤ h0.size) (V0 : Arv Z h0 a1 k0 .long (2 : Int32) [(.long x0), (.long x1)] (.long (0 : Int64))) (er : (if x0 < q4 then (if x1 < q4 then (-3 : Int32) else (if q4 < x1 then (-2 : Int32) else (1 : Int32))) else (if q4 < x0 then (-1 : Int32) else (0 : Int32))) = r) :
    MetFree l own_y_199 (head1 (Jvm.Cond.code own_y_199 jdk_65_method_55_code 5 (some .int) :: ws) ({ frames := 1, cells := 0, slots := 0, locals := 21 } : Room)) (fun a U => a = #[(.ref a1), (.int (0 : Int32)), (.int (2 : Int32)), (.long q4)] ∧ Z.Warmed39 U.vm ∧ U.heap = h0) (fun _ _ _ _ _ => True) (fun _ U o U' => ∃ v L, o = .returned v ∧ QBs r h0 n0 v U'.heap L ∧ FrameEnd U o U' L ({ frames := 1, cells := 0, slots := 0, locals := 21 } : Room).cells ({ frames := 1, cells := 0, slots := 0, locals := 21 } : Room).slots) := by
  refine MetFree.of_bodySF (plainFor_of_name pn_187) hisR ?_
  intro p e s m args below meth c s₁ Bd hml0 hP hK
  obtain ⟨rfl, hZ, hh⟩ := hP
  have hx := Bd.exec
  have hby := Bd.bytes
  have hml : c.maxLocals = 5 := hml0
  have hown : s.vm.findClass "java/util/Arrays" = some m.cls := findClass_of_methodNamed Bd.named
  have hnm := (name_of_methodNamed Bd.named Bd.method).1
  have X0 : Stand p l e ({ frames := 1, cells := 0, slots := 0, locals := 21 } : Room) s m #[(.ref a1), (.int (0 : Int32)), (.int (2 : Int32)), (.long q4)] below meth c s₁ [] 0 0 := Stand.of_body Bd
  have e0 : s₁.heap = h0 := by rw [← hh, Bd.state]; rfl
  have N0 := Fr.nil n0
  have pre0 : ∀ t, Steps p.tables e below (s₁.setTop (mkF m 0 #[.val (.ref a1), .val (.int (0 : Int32)), .val (.int (2 : Int32)), .val (.long q4), .second] [])) t → Steps p.tables e below (s₁.setTop (entryFrame m #[(.ref a1), (.int (0 : Int32)), (.int (2 : Int32)), (.long q4)] 5)) t := fun t k => castTop (ef_200 m a1 (0 : Int32) (2 : Int32) q4) k
  obtain ⟨cl540, A540, q540, S540, M540, H540, J540⟩ := id V0
  obtain ⟨_, _, ⟨T541, L541, k541, n541⟩, -, X541, ⟨Lc541, hQ541, l541, y541, z541⟩, st541⟩ := Jvm.LawKit.callS X0 hx (y := own_y_188) hown (mvT hZ (own_w hw 49 rfl)) (mvT hZ (own_w hw 50 rfl)) (mvT hZ (own_w hw 47 rfl)) (mvT hZ (own_w hw 51 rfl)) (by decide) (backOf (W := 0) (rmRcBs022 l Z a0 hw [] h0 n0 Z0) hZ (own_w hw 51 rfl) (own_w hw 47 rfl) (by decide) (by decide)) (g := (mkF m 4 #[.val (.ref a1), .val (.int (0 : Int32)), .val (.int (2 : Int32)), .val (.long q4), .second] [(.int (2 : Int32)), (.int (0 : Int32)), (.int (2 : Int32))])) rfl (by rw [hml]; rfl) (argsL := [(.int (2 : Int32)), (.int (0 : Int32)), (.int (2 : Int32))]) (rest := []) (lenOf pd_206 rfl) rfl (by show 2 * 0 + _ ≤ _; exact Nat.le_of_eq rfl) (hb hby d7_4) (fun _ _ => ⟨rfl, e0, (by decide : 0 + 0 ≤ _), (by decide : 0 + 0 ≤ _)⟩)
  dsimp only [Pt.U, Pt.locs, Pt.cells, Pt.slots] at X541 l541 y541 z541 st541 hQ541
  subst l541 y541 z541
  obtain ⟨rfl, Nq541, e541⟩ := hQ541
  have N541 := Fr.app N0 Nq541
  obtain ⟨_, _, ⟨T542, L542, k542, n542⟩, -, X542, ⟨Lc542, hQ542, l542, y542, z542⟩, st542⟩ := Jvm.LawKit.callS X541 hx (y := own_y_185) hown (mvT hZ (own_w hw 52 rfl)) (mvT hZ (own_w hw 53 rfl)) (mvT hZ (own_w hw 47 rfl)) (mvT hZ (own_w hw 54 rfl)) (by decide) (backOf (W := 0) (rmBs022 l Z a0 hw [] a1 q4 k0 x0 x1 r h0 n0 Z0 V0 er) hZ (own_w hw 54 rfl) (own_w hw 47 rfl) (by decide) (by decide)) (g := (mkF m 11 #[.val (.ref a1), .val (.int (0 : Int32)), .val (.int (2 : Int32)), .val (.long q4), .second] [(.long q4), (.int (2 : Int32)), (.int (0 : Int32)), (.ref a1)])) rfl (by rw [hml]; rfl) (argsL := [(.ref a1), (.int (0 : Int32)), (.int (2 : Int32)), (.long q4)]) (rest := []) (lenOf pd_212 rfl) rfl (by show 2 * 0 + _ ≤ _; exact Nat.le_of_eq rfl) (hb hby d7_11) (fun _ _ => ⟨rfl, e541, (by decide : 0 + 0 ≤ _), (by decide : 0 + 0 ≤ _)⟩)
  dsimp only [Pt.U, Pt.locs, Pt.cells, Pt.slots] at X542 l542 y542 z542 st542 hQ542
  subst l542 y542 z542
  obtain ⟨rfl, Nq542, e542⟩ := hQ542
  have N542 := Fr.app N541 Nq542
  have pre543 : ∀ t, Steps p.tables e below (T542.setTop (mkF m 14 #[.val (.ref a1), .val (.int (0 : Int32)), .val (.int (2 : Int32)), .val (.long q4), .second] [(.int r)])) t → Steps p.tables e below (s₁.setTop (entryFrame m #[(.ref a1), (.int (0 : Int32)), (.int (2 : Int32)), (.long q4)] 5)) t := fun t kt => pre0 t (by
    show Steps p.tables e below (s₁.setTop (mkF m 0 #[.val (.ref a1), .val (.int (0 : Int32)), .val (.int (2 : Int32)), .val (.long q4), .second] [])) _
    refine XS.aloadN X0.here hx rfl (hb hby d7_0) rfl rfl ?_
    refine X0.arraylength hx (by rw [e0]; exact A540.1) (State.isArrayOf_alike hZ.alike A540.2.1) (g := (mkF m 1 #[.val (.ref a1), .val (.int (0 : Int32)), .val (.int (2 : Int32)), .val (.long q4), .second] [(.ref a1)])) rfl rfl (hb hby d7_1) _ ?_
    rw [len_of S540 M540]
    refine XS.iloadN X0.here hx rfl (hb hby d7_2) rfl ?_
    refine XS.iloadN X0.here hx rfl (hb hby d7_3) rfl ?_
    refine st541 _ ?_
    refine XS.aloadN X541.here hx rfl (hb hby d7_7) rfl rfl ?_
    refine XS.iloadN X541.here hx rfl (hb hby d7_8) rfl ?_
    refine XS.iloadN X541.here hx rfl (hb hby d7_9) rfl ?_
    refine XS.lloadN X541.here hx rfl (hb hby d7_10) rfl ?_
    refine st542 _ ?_
    exact kt)
  exact own_retI X542 hx Bd.notSynchronized Bd.returns (hb hby d7_14) pre543 (show QBs r h0 n0 _ _ _ from ⟨rfl, N542, e542⟩) (by decide) (by decide)
set_option maxRecDepth 65536 in
set_option maxHeartbeats 40000000 in
theorem rmGn022 (l : Launch) (Z : State) (a0 : Array Value) (hw : ∀ d ∈ tables_1, d.before a0 Z = true) (ws : List Jvm.Cond) (a1 : Addr) (q2 : Int64) (x0 : Int64) (x1 : Int64) (y0 : Int32) (y1 : Int32) (b : Int32) (h0 : Heap) (n0 : Nat) (Z0 : n0 ≤ h0.size) (P0 : PT Z h0 n0 a1 (0 : Int32) (2 : Int32) (2 : Int32) [(.long x0), (.long x1)] [(.int y0), (.int y1)] b) (hs0 : x0 < x1) :
    MetFree l own_y_46 (head1 (Jvm.Cond.code own_y_46 prog_25_method_3_code 6 (some .int) :: ws) ({ frames := 2, cells := 0, slots := 0, locals := 60 } : Room)) (fun a U => a = #[(.ref a1), (.long q2)] ∧ Z.Warmed39 U.vm ∧ U.heap = h0) (fun _ _ _ _ _ => True) (fun _ U o U' => ∃ v L, o = .returned v ∧ QRi (y1 - (if x1 < q2 then y1 else (if x0 < q2 then y0 else b))) h0 n0 v U'.heap L ∧ FrameEnd U o U' L ({ frames := 2, cells := 0, slots := 0, locals := 60 } : Room).cells ({ frames := 2, cells := 0, slots := 0, locals := 60 } : Room).slots) := by
  refine MetFree.of_bodySF (plainFor_of_name pn_2) hisR ?_
  intro p e s m args below meth c s₁ Bd hml0 hP hK
  obtain ⟨rfl, hZ, hh⟩ := hP
  have hx := Bd.exec
  have hby := Bd.bytes
  have hml : c.maxLocals = 6 := hml0
  have hown : s.vm.findClass "com/example/viral_counter/viralcounter/PostTrend" = some m.cls := findClass_of_methodNamed Bd.named
  have hnm := (name_of_methodNamed Bd.named Bd.method).1
  have X0 : Stand p l e ({ frames := 2, cells := 0, slots := 0, locals := 60 } : Room) s m #[(.ref a1), (.long q2)] below meth c s₁ [] 0 0 := Stand.of_body Bd
  have e0 : s₁.heap = h0 := by rw [← hh, Bd.state]; rfl
  have N0 := Fr.nil n0
  have pre0 : ∀ t, Steps p.tables e below (s₁.setTop (mkF m 0 #[.val (.ref a1), .val (.long q2), .second, .unset, .unset, .unset] [])) t → Steps p.tables e below (s₁.setTop (entryFrame m #[(.ref a1), (.long q2)] 6)) t := fun t k => castTop (ef_47 m a1 q2) k
  obtain ⟨am544, ac544, km544, kc544, E544, Fm544, Fc544, Ff544, Fe544, Fb544, Vm544, Vc544, Ga544, Gm544, Gc544, n1544, n2544, n3544⟩ := id P0
  obtain ⟨T545, X545, e545, st545⟩ := getF X0 hx hZ hown (host := "") (Or.inl (own_w hw 23 rfl)) Via.refl e0 Ff544 (g := (mkF m 1 #[.val (.ref a1), .val (.long q2), .second, .unset, .unset, .unset] [(.ref a1)])) rfl rfl (hb hby d6_1)
  obtain ⟨T546, X546, e546, st546⟩ := getF X545 hx hZ hown (host := "") (Or.inl (own_w hw 25 rfl)) Via.refl e545 Fe544 (g := (mkF m 5 #[.val (.ref a1), .val (.long q2), .second, .unset, .unset, .unset] [(.ref a1), (.int (0 : Int32))])) rfl rfl (hb hby d6_5)
  obtain ⟨T547, X547, e547, st547⟩ := getF X546 hx hZ hown (host := "") (Or.inl (own_w hw 13 rfl)) Via.refl e546 Fm544 (g := (mkF m 14 #[.val (.ref a1), .val (.long q2), .second, .unset, .unset, .unset] [(.ref a1)])) rfl rfl (hb hby d6_14)
  obtain ⟨T548, X548, e548, st548⟩ := getF X547 hx hZ hown (host := "") (Or.inl (own_w hw 23 rfl)) Via.refl e547 Ff544 (g := (mkF m 18 #[.val (.ref a1), .val (.long q2), .second, .unset, .unset, .unset] [(.ref a1), (.ref am544)])) rfl rfl (hb hby d6_18)
  obtain ⟨T549, X549, e549, st549⟩ := getF X548 hx hZ hown (host := "") (Or.inl (own_w hw 25 rfl)) Via.refl e548 Fe544 (g := (mkF m 22 #[.val (.ref a1), .val (.long q2), .second, .unset, .unset, .unset] [(.ref a1), (.int (0 : Int32)), (.ref am544)])) rfl rfl (hb hby d6_22)
  have pre550 : ∀ t, Steps p.tables e below (T549.setTop (mkF m 26 #[.val (.ref a1), .val (.long q2), .second, .unset, .unset, .unset] [(.long q2), (.int (2 : Int32)), (.int (0 : Int32)), (.ref am544)])) t → Steps p.tables e below (s₁.setTop (entryFrame m #[(.ref a1), (.long q2)] 6)) t := fun t kt => pre0 t (by
    show Steps p.tables e below (s₁.setTop (mkF m 0 #[.val (.ref a1), .val (.long q2), .second, .unset, .unset, .unset] [])) _
    refine XS.aloadN X0.here hx rfl (hb hby d6_0) rfl rfl ?_
    refine st545 _ ?_
    refine XS.aloadN X545.here hx rfl (hb hby d6_4) rfl rfl ?_
    refine st546 _ ?_
    refine XS.icmpYes X546.here hx rfl (pc0 := 8) (pc' := 13) rfl (hb hby d6_8) rfl (feq (by decide : ¬ ((0 : Int32) = (2 : Int32)))).2 (by decide) (by decide) ?_
    refine XS.aloadN X546.here hx rfl (hb hby d6_13) rfl rfl ?_
    refine st547 _ ?_
    refine XS.aloadN X547.here hx rfl (hb hby d6_17) rfl rfl ?_
    refine st548 _ ?_
    refine XS.aloadN X548.here hx rfl (hb hby d6_21) rfl rfl ?_
    refine st549 _ ?_
    refine XS.lloadN X549.here hx rfl (hb hby d6_25) rfl ?_
    exact kt)
  by_cases hc551 : x0 < q2
  case pos =>
    by_cases hc552 : x1 < q2
    case pos =>
      obtain ⟨_, _, ⟨T553, L553, k553, n553⟩, -, X553, ⟨Lc553, hQ553, l553, y553, z553⟩, st553⟩ := Jvm.LawKit.callS X549 hx (y := own_y_199) hown (mvT hZ (own_w hw 45 rfl)) (mvT hZ (own_w hw 46 rfl)) (mvT hZ (own_w hw 47 rfl)) (mvT hZ (own_w hw 48 rfl)) (by decide) (backOf (W := 0) (rmSBs022 l Z a0 hw [] am544 q2 km544 x0 x1 (-3 : Int32) h0 n0 Z0 Vm544 ((if_pos hc551).trans (if_pos hc552))) hZ (own_w hw 48 rfl) (own_w hw 47 rfl) (by decide) (by decide)) (g := (mkF m 26 #[.val (.ref a1), .val (.long q2), .second, .unset, .unset, .unset] [(.long q2), (.int (2 : Int32)), (.int (0 : Int32)), (.ref am544)])) rfl (by rw [hml]; rfl) (argsL := [(.ref am544), (.int (0 : Int32)), (.int (2 : Int32)), (.long q2)]) (rest := []) (lenOf pd_212 rfl) rfl (by show 2 * 0 + _ ≤ _; exact Nat.le_of_eq rfl) (hb hby d6_26) (fun _ _ => ⟨rfl, e549, (by decide : 0 + 0 ≤ _), (by decide : 0 + 0 ≤ _)⟩)
      dsimp only [Pt.U, Pt.locs, Pt.cells, Pt.slots] at X553 l553 y553 z553 st553 hQ553
      subst l553 y553 z553
      obtain ⟨rfl, Nq553, e553⟩ := hQ553
      have N553 := Fr.app N0 Nq553
      obtain ⟨T554, X554, e554, st554⟩ := getF X553 hx hZ hown (host := "") (Or.inl (own_w hw 23 rfl)) Via.refl e553 Ff544 (g := (mkF m 49 #[.val (.ref a1), .val (.long q2), .second, .val (.int (-3 : Int32)), .val (.int (1 : Int32)), .unset] [(.ref a1), (.int (1 : Int32))])) rfl rfl (hb hby d6_49)
      obtain ⟨T555, X555, e555, st555⟩ := getF X554 hx hZ hown (host := "") (Or.inl (own_w hw 16 rfl)) Via.refl e554 Fc544 (g := (mkF m 63 #[.val (.ref a1), .val (.long q2), .second, .val (.int (-3 : Int32)), .val (.int (1 : Int32)), .unset] [(.ref a1)])) rfl rfl (hb hby d6_63)
      obtain ⟨cl556, A556, q556, S556, M556, H556, J556⟩ := id Vc544
      have hin556 : ¬ ((1 : Int32) < 0 ∨ cl556.slots.size ≤ ((1 : Int32)).toNatClampNeg) := inb_of S556 ⟨by decide, by decide⟩
      have hat556 : cl556.slots[((1 : Int32)).toNatClampNeg]? = some (.int y1) := H556.at hin556 rfl
      obtain ⟨T557, X557, e557, st557⟩ := getF X555 hx hZ hown (host := "") (Or.inl (own_w hw 16 rfl)) Via.refl e555 Fc544 (g := (mkF m 72 #[.val (.ref a1), .val (.long q2), .second, .val (.int (-3 : Int32)), .val (.int (1 : Int32)), .val (.int y1)] [(.ref a1)])) rfl rfl (hb hby d6_72)
      obtain ⟨T558, X558, e558, st558⟩ := getF X557 hx hZ hown (host := "") (Or.inl (own_w hw 25 rfl)) Via.refl e557 Fe544 (g := (mkF m 76 #[.val (.ref a1), .val (.long q2), .second, .val (.int (-3 : Int32)), .val (.int (1 : Int32)), .val (.int y1)] [(.ref a1), (.ref ac544)])) rfl rfl (hb hby d6_76)
      obtain ⟨cl559, A559, q559, S559, M559, H559, J559⟩ := id Vc544
      have hin559 : ¬ ((1 : Int32) < 0 ∨ cl559.slots.size ≤ ((1 : Int32)).toNatClampNeg) := inb_of S559 ⟨by decide, by decide⟩
      have hat559 : cl559.slots[((1 : Int32)).toNatClampNeg]? = some (.int y1) := H559.at hin559 rfl
      have pre560 : ∀ t, Steps p.tables e below (T558.setTop (mkF m 85 #[.val (.ref a1), .val (.long q2), .second, .val (.int (-3 : Int32)), .val (.int (1 : Int32)), .val (.int y1)] [(.int (y1 - y1))])) t → Steps p.tables e below (s₁.setTop (entryFrame m #[(.ref a1), (.long q2)] 6)) t := fun t kt => pre550 t (by
        show Steps p.tables e below (T549.setTop (mkF m 26 #[.val (.ref a1), .val (.long q2), .second, .unset, .unset, .unset] [(.long q2), (.int (2 : Int32)), (.int (0 : Int32)), (.ref am544)])) _
        refine st553 _ ?_
        refine XS.istoreN X553.here hx rfl (hb hby d6_29) rfl (l' := #[.val (.ref a1), .val (.long q2), .second, .val (.int (-3 : Int32)), .unset, .unset]) rfl ?_
        refine XS.iloadN X553.here hx rfl (hb hby d6_30) rfl ?_
        refine XS.ifYes X553.here hx rfl (pc0 := 31) (pc' := 38) rfl (hb hby d6_31) rfl ((if0 _ _).trans (tlt (by decide : (-3 : Int32) < (0 : Int32))).1) (by decide) (by decide) ?_
        refine XS.iloadN X553.here hx rfl (hb hby d6_38) rfl ?_
        refine XS.ineg X553.here hx rfl (hb hby d6_39) rfl ?_
        refine XS.iconst X553.here hx rfl (hb hby d6_40) ?_
        refine XS.isub X553.here hx rfl (hb hby d6_41) rfl ?_
        refine XS.iconst X553.here hx rfl (hb hby d6_42) ?_
        refine XS.isub X553.here hx rfl (hb hby d6_43) rfl ?_
        refine XS.istore X553.here hx rfl (hb hby d6_44) rfl (l' := #[.val (.ref a1), .val (.long q2), .second, .val (.int (-3 : Int32)), .val (.int (1 : Int32)), .unset]) rfl ?_
        refine XS.iload X553.here hx rfl (hb hby d6_46) rfl ?_
        show Steps p.tables e below (T553.setTop (mkF m 48 #[.val (.ref a1), .val (.long q2), .second, .val (.int (-3 : Int32)), .val (.int (1 : Int32)), .unset] [(.int (1 : Int32))])) _
        refine XS.aloadN X553.here hx rfl (hb hby d6_48) rfl rfl ?_
        refine st554 _ ?_
        refine XS.icmpYes X554.here hx rfl (pc0 := 52) (pc' := 62) rfl (hb hby d6_52) rfl (flt (by decide : ¬ ((1 : Int32) < (0 : Int32)))).2.1 (by decide) (by decide) ?_
        refine XS.aloadN X554.here hx rfl (hb hby d6_62) rfl rfl ?_
        refine st555 _ ?_
        refine XS.iload X555.here hx rfl (hb hby d6_66) rfl ?_
        refine X555.iaload hx (j := (1 : Int32)) (v := (.int y1)) (by rw [e555]; exact A556.1) (State.isArrayOf_alike hZ.alike A556.2.1) A556.2.2 hin556 hat556 (g := (mkF m 68 #[.val (.ref a1), .val (.long q2), .second, .val (.int (-3 : Int32)), .val (.int (1 : Int32)), .unset] [(.int (1 : Int32)), (.ref ac544)])) rfl rfl (hb hby d6_68) _ ?_
        refine XS.istore X555.here hx rfl (hb hby d6_69) rfl (l' := #[.val (.ref a1), .val (.long q2), .second, .val (.int (-3 : Int32)), .val (.int (1 : Int32)), .val (.int y1)]) rfl ?_
        refine XS.aloadN X555.here hx rfl (hb hby d6_71) rfl rfl ?_
        refine st557 _ ?_
        refine XS.aloadN X557.here hx rfl (hb hby d6_75) rfl rfl ?_
        refine st558 _ ?_
        show Steps p.tables e below (T558.setTop (mkF m 79 #[.val (.ref a1), .val (.long q2), .second, .val (.int (-3 : Int32)), .val (.int (1 : Int32)), .val (.int y1)] [(.int (2 : Int32)), (.ref ac544)])) _
        refine XS.iconst X558.here hx rfl (hb hby d6_79) ?_
        refine XS.isub X558.here hx rfl (hb hby d6_80) rfl ?_
        refine X558.iaload hx (j := (1 : Int32)) (v := (.int y1)) (by rw [e558]; exact A559.1) (State.isArrayOf_alike hZ.alike A559.2.1) A559.2.2 hin559 hat559 (g := (mkF m 81 #[.val (.ref a1), .val (.long q2), .second, .val (.int (-3 : Int32)), .val (.int (1 : Int32)), .val (.int y1)] [(.int (1 : Int32)), (.ref ac544)])) rfl rfl (hb hby d6_81) _ ?_
        refine XS.iload X558.here hx rfl (hb hby d6_82) rfl ?_
        refine XS.isub X558.here hx rfl (hb hby d6_84) rfl ?_
        exact kt)
      have lt561 : x1 < q2 := by
        rw [Int64.lt_iff_toInt_lt] at hs0 hc551 hc552 ⊢
        omega
      have ev : (y1 - (if x1 < q2 then y1 else (if x0 < q2 then y0 else b))) = (y1 - y1) := congrArg (fun z => y1 - z) (if_pos lt561)
      exact own_retI X558 hx Bd.notSynchronized Bd.returns (hb hby d6_85) pre560 (show QRi (y1 - (if x1 < q2 then y1 else (if x0 < q2 then y0 else b))) h0 n0 _ _ _ from ⟨by rw [ev], N553, e558⟩) (by decide) (by decide)
    case neg =>
      by_cases hc562 : q2 < x1
      case pos =>
        obtain ⟨_, _, ⟨T563, L563, k563, n563⟩, -, X563, ⟨Lc563, hQ563, l563, y563, z563⟩, st563⟩ := Jvm.LawKit.callS X549 hx (y := own_y_199) hown (mvT hZ (own_w hw 45 rfl)) (mvT hZ (own_w hw 46 rfl)) (mvT hZ (own_w hw 47 rfl)) (mvT hZ (own_w hw 48 rfl)) (by decide) (backOf (W := 0) (rmSBs022 l Z a0 hw [] am544 q2 km544 x0 x1 (-2 : Int32) h0 n0 Z0 Vm544 (((if_pos hc551).trans (if_neg hc552)).trans (if_pos hc562))) hZ (own_w hw 48 rfl) (own_w hw 47 rfl) (by decide) (by decide)) (g := (mkF m 26 #[.val (.ref a1), .val (.long q2), .second, .unset, .unset, .unset] [(.long q2), (.int (2 : Int32)), (.int (0 : Int32)), (.ref am544)])) rfl (by rw [hml]; rfl) (argsL := [(.ref am544), (.int (0 : Int32)), (.int (2 : Int32)), (.long q2)]) (rest := []) (lenOf pd_212 rfl) rfl (by show 2 * 0 + _ ≤ _; exact Nat.le_of_eq rfl) (hb hby d6_26) (fun _ _ => ⟨rfl, e549, (by decide : 0 + 0 ≤ _), (by decide : 0 + 0 ≤ _)⟩)
        dsimp only [Pt.U, Pt.locs, Pt.cells, Pt.slots] at X563 l563 y563 z563 st563 hQ563
        subst l563 y563 z563
        obtain ⟨rfl, Nq563, e563⟩ := hQ563
        have N563 := Fr.app N0 Nq563
        obtain ⟨T564, X564, e564, st564⟩ := getF X563 hx hZ hown (host := "") (Or.inl (own_w hw 23 rfl)) Via.refl e563 Ff544 (g := (mkF m 49 #[.val (.ref a1), .val (.long q2), .second, .val (.int (-2 : Int32)), .val (.int (0 : Int32)), .unset] [(.ref a1), (.int (0 : Int32))])) rfl rfl (hb hby d6_49)
        obtain ⟨T565, X565, e565, st565⟩ := getF X564 hx hZ hown (host := "") (Or.inl (own_w hw 16 rfl)) Via.refl e564 Fc544 (g := (mkF m 63 #[.val (.ref a1), .val (.long q2), .second, .val (.int (-2 : Int32)), .val (.int (0 : Int32)), .unset] [(.ref a1)])) rfl rfl (hb hby d6_63)
        obtain ⟨cl566, A566, q566, S566, M566, H566, J566⟩ := id Vc544
        have hin566 : ¬ ((0 : Int32) < 0 ∨ cl566.slots.size ≤ ((0 : Int32)).toNatClampNeg) := inb_of S566 ⟨by decide, by decide⟩
        have hat566 : cl566.slots[((0 : Int32)).toNatClampNeg]? = some (.int y0) := H566.at hin566 rfl
        obtain ⟨T567, X567, e567, st567⟩ := getF X565 hx hZ hown (host := "") (Or.inl (own_w hw 16 rfl)) Via.refl e565 Fc544 (g := (mkF m 72 #[.val (.ref a1), .val (.long q2), .second, .val (.int (-2 : Int32)), .val (.int (0 : Int32)), .val (.int y0)] [(.ref a1)])) rfl rfl (hb hby d6_72)
        obtain ⟨T568, X568, e568, st568⟩ := getF X567 hx hZ hown (host := "") (Or.inl (own_w hw 25 rfl)) Via.refl e567 Fe544 (g := (mkF m 76 #[.val (.ref a1), .val (.long q2), .second, .val (.int (-2 : Int32)), .val (.int (0 : Int32)), .val (.int y0)] [(.ref a1), (.ref ac544)])) rfl rfl (hb hby d6_76)
        obtain ⟨cl569, A569, q569, S569, M569, H569, J569⟩ := id Vc544
        have hin569 : ¬ ((1 : Int32) < 0 ∨ cl569.slots.size ≤ ((1 : Int32)).toNatClampNeg) := inb_of S569 ⟨by decide, by decide⟩
        have hat569 : cl569.slots[((1 : Int32)).toNatClampNeg]? = some (.int y1) := H569.at hin569 rfl
        have pre570 : ∀ t, Steps p.tables e below (T568.setTop (mkF m 85 #[.val (.ref a1), .val (.long q2), .second, .val (.int (-2 : Int32)), .val (.int (0 : Int32)), .val (.int y0)] [(.int (y1 - y0))])) t → Steps p.tables e below (s₁.setTop (entryFrame m #[(.ref a1), (.long q2)] 6)) t := fun t kt => pre550 t (by
          show Steps p.tables e below (T549.setTop (mkF m 26 #[.val (.ref a1), .val (.long q2), .second, .unset, .unset, .unset] [(.long q2), (.int (2 : Int32)), (.int (0 : Int32)), (.ref am544)])) _
          refine st563 _ ?_
          refine XS.istoreN X563.here hx rfl (hb hby d6_29) rfl (l' := #[.val (.ref a1), .val (.long q2), .second, .val (.int (-2 : Int32)), .unset, .unset]) rfl ?_
          refine XS.iloadN X563.here hx rfl (hb hby d6_30) rfl ?_
          refine XS.ifYes X563.here hx rfl (pc0 := 31) (pc' := 38) rfl (hb hby d6_31) rfl ((if0 _ _).trans (tlt (by decide : (-2 : Int32) < (0 : Int32))).1) (by decide) (by decide) ?_
          refine XS.iloadN X563.here hx rfl (hb hby d6_38) rfl ?_
          refine XS.ineg X563.here hx rfl (hb hby d6_39) rfl ?_
          refine XS.iconst X563.here hx rfl (hb hby d6_40) ?_
          refine XS.isub X563.here hx rfl (hb hby d6_41) rfl ?_
          refine XS.iconst X563.here hx rfl (hb hby d6_42) ?_
          refine XS.isub X563.here hx rfl (hb hby d6_43) rfl ?_
          refine XS.istore X563.here hx rfl (hb hby d6_44) rfl (l' := #[.val (.ref a1), .val (.long q2), .second, .val (.int (-2 : Int32)), .val (.int (0 : Int32)), .unset]) rfl ?_
          refine XS.iload X563.here hx rfl (hb hby d6_46) rfl ?_
          show Steps p.tables e below (T563.setTop (mkF m 48 #[.val (.ref a1), .val (.long q2), .second, .val (.int (-2 : Int32)), .val (.int (0 : Int32)), .unset] [(.int (0 : Int32))])) _
          refine XS.aloadN X563.here hx rfl (hb hby d6_48) rfl rfl ?_
          refine st564 _ ?_
          refine XS.icmpYes X564.here hx rfl (pc0 := 52) (pc' := 62) rfl (hb hby d6_52) rfl (flt (by decide : ¬ ((0 : Int32) < (0 : Int32)))).2.1 (by decide) (by decide) ?_
          refine XS.aloadN X564.here hx rfl (hb hby d6_62) rfl rfl ?_
          refine st565 _ ?_
          refine XS.iload X565.here hx rfl (hb hby d6_66) rfl ?_
          refine X565.iaload hx (j := (0 : Int32)) (v := (.int y0)) (by rw [e565]; exact A566.1) (State.isArrayOf_alike hZ.alike A566.2.1) A566.2.2 hin566 hat566 (g := (mkF m 68 #[.val (.ref a1), .val (.long q2), .second, .val (.int (-2 : Int32)), .val (.int (0 : Int32)), .unset] [(.int (0 : Int32)), (.ref ac544)])) rfl rfl (hb hby d6_68) _ ?_
          refine XS.istore X565.here hx rfl (hb hby d6_69) rfl (l' := #[.val (.ref a1), .val (.long q2), .second, .val (.int (-2 : Int32)), .val (.int (0 : Int32)), .val (.int y0)]) rfl ?_
          refine XS.aloadN X565.here hx rfl (hb hby d6_71) rfl rfl ?_
          refine st567 _ ?_
          refine XS.aloadN X567.here hx rfl (hb hby d6_75) rfl rfl ?_
          refine st568 _ ?_
          show Steps p.tables e below (T568.setTop (mkF m 79 #[.val (.ref a1), .val (.long q2), .second, .val (.int (-2 : Int32)), .val (.int (0 : Int32)), .val (.int y0)] [(.int (2 : Int32)), (.ref ac544)])) _
          refine XS.iconst X568.here hx rfl (hb hby d6_79) ?_
          refine XS.isub X568.here hx rfl (hb hby d6_80) rfl ?_
          refine X568.iaload hx (j := (1 : Int32)) (v := (.int y1)) (by rw [e568]; exact A569.1) (State.isArrayOf_alike hZ.alike A569.2.1) A569.2.2 hin569 hat569 (g := (mkF m 81 #[.val (.ref a1), .val (.long q2), .second, .val (.int (-2 : Int32)), .val (.int (0 : Int32)), .val (.int y0)] [(.int (1 : Int32)), (.ref ac544)])) rfl rfl (hb hby d6_81) _ ?_
          refine XS.iload X568.here hx rfl (hb hby d6_82) rfl ?_
          refine XS.isub X568.here hx rfl (hb hby d6_84) rfl ?_
          exact kt)
        have lt571 : ¬ (x1 < q2) := by
          rw [Int64.lt_iff_toInt_lt] at hs0 hc551 hc552 hc562 ⊢
          omega
        have lt572 : x0 < q2 := by
          rw [Int64.lt_iff_toInt_lt] at hs0 hc551 hc552 hc562 ⊢
          omega
        have ev : (y1 - (if x1 < q2 then y1 else (if x0 < q2 then y0 else b))) = (y1 - y0) := congrArg (fun z => y1 - z) ((if_neg lt571).trans (if_pos lt572))
        exact own_retI X568 hx Bd.notSynchronized Bd.returns (hb hby d6_85) pre570 (show QRi (y1 - (if x1 < q2 then y1 else (if x0 < q2 then y0 else b))) h0 n0 _ _ _ from ⟨by rw [ev], N563, e568⟩) (by decide) (by decide)
      case neg =>
        obtain ⟨_, _, ⟨T573, L573, k573, n573⟩, -, X573, ⟨Lc573, hQ573, l573, y573, z573⟩, st573⟩ := Jvm.LawKit.callS X549 hx (y := own_y_199) hown (mvT hZ (own_w hw 45 rfl)) (mvT hZ (own_w hw 46 rfl)) (mvT hZ (own_w hw 47 rfl)) (mvT hZ (own_w hw 48 rfl)) (by decide) (backOf (W := 0) (rmSBs022 l Z a0 hw [] am544 q2 km544 x0 x1 (1 : Int32) h0 n0 Z0 Vm544 (((if_pos hc551).trans (if_neg hc552)).trans (if_neg hc562))) hZ (own_w hw 48 rfl) (own_w hw 47 rfl) (by decide) (by decide)) (g := (mkF m 26 #[.val (.ref a1), .val (.long q2), .second, .unset, .unset, .unset] [(.long q2), (.int (2 : Int32)), (.int (0 : Int32)), (.ref am544)])) rfl (by rw [hml]; rfl) (argsL := [(.ref am544), (.int (0 : Int32)), (.int (2 : Int32)), (.long q2)]) (rest := []) (lenOf pd_212 rfl) rfl (by show 2 * 0 + _ ≤ _; exact Nat.le_of_eq rfl) (hb hby d6_26) (fun _ _ => ⟨rfl, e549, (by decide : 0 + 0 ≤ _), (by decide : 0 + 0 ≤ _)⟩)
        dsimp only [Pt.U, Pt.locs, Pt.cells, Pt.slots] at X573 l573 y573 z573 st573 hQ573
        subst l573 y573 z573
        obtain ⟨rfl, Nq573, e573⟩ := hQ573
        have N573 := Fr.app N0 Nq573
        obtain ⟨T574, X574, e574, st574⟩ := getF X573 hx hZ hown (host := "") (Or.inl (own_w hw 23 rfl)) Via.refl e573 Ff544 (g := (mkF m 49 #[.val (.ref a1), .val (.long q2), .second, .val (.int (1 : Int32)), .val (.int (0 : Int32)), .unset] [(.ref a1), (.int (0 : Int32))])) rfl rfl (hb hby d6_49)
        obtain ⟨T575, X575, e575, st575⟩ := getF X574 hx hZ hown (host := "") (Or.inl (own_w hw 16 rfl)) Via.refl e574 Fc544 (g := (mkF m 63 #[.val (.ref a1), .val (.long q2), .second, .val (.int (1 : Int32)), .val (.int (0 : Int32)), .unset] [(.ref a1)])) rfl rfl (hb hby d6_63)
        obtain ⟨cl576, A576, q576, S576, M576, H576, J576⟩ := id Vc544
        have hin576 : ¬ ((0 : Int32) < 0 ∨ cl576.slots.size ≤ ((0 : Int32)).toNatClampNeg) := inb_of S576 ⟨by decide, by decide⟩
        have hat576 : cl576.slots[((0 : Int32)).toNatClampNeg]? = some (.int y0) := H576.at hin576 rfl
        obtain ⟨T577, X577, e577, st577⟩ := getF X575 hx hZ hown (host := "") (Or.inl (own_w hw 16 rfl)) Via.refl e575 Fc544 (g := (mkF m 72 #[.val (.ref a1), .val (.long q2), .second, .val (.int (1 : Int32)), .val (.int (0 : Int32)), .val (.int y0)] [(.ref a1)])) rfl rfl (hb hby d6_72)
        obtain ⟨T578, X578, e578, st578⟩ := getF X577 hx hZ hown (host := "") (Or.inl (own_w hw 25 rfl)) Via.refl e577 Fe544 (g := (mkF m 76 #[.val (.ref a1), .val (.long q2), .second, .val (.int (1 : Int32)), .val (.int (0 : Int32)), .val (.int y0)] [(.ref a1), (.ref ac544)])) rfl rfl (hb hby d6_76)
        obtain ⟨cl579, A579, q579, S579, M579, H579, J579⟩ := id Vc544
        have hin579 : ¬ ((1 : Int32) < 0 ∨ cl579.slots.size ≤ ((1 : Int32)).toNatClampNeg) := inb_of S579 ⟨by decide, by decide⟩
        have hat579 : cl579.slots[((1 : Int32)).toNatClampNeg]? = some (.int y1) := H579.at hin579 rfl
        have pre580 : ∀ t, Steps p.tables e below (T578.setTop (mkF m 85 #[.val (.ref a1), .val (.long q2), .second, .val (.int (1 : Int32)), .val (.int (0 : Int32)), .val (.int y0)] [(.int (y1 - y0))])) t → Steps p.tables e below (s₁.setTop (entryFrame m #[(.ref a1), (.long q2)] 6)) t := fun t kt => pre550 t (by
          show Steps p.tables e below (T549.setTop (mkF m 26 #[.val (.ref a1), .val (.long q2), .second, .unset, .unset, .unset] [(.long q2), (.int (2 : Int32)), (.int (0 : Int32)), (.ref am544)])) _
          refine st573 _ ?_
          refine XS.istoreN X573.here hx rfl (hb hby d6_29) rfl (l' := #[.val (.ref a1), .val (.long q2), .second, .val (.int (1 : Int32)), .unset, .unset]) rfl ?_
          refine XS.iloadN X573.here hx rfl (hb hby d6_30) rfl ?_
          refine XS.ifNo X573.here hx rfl (hb hby d6_31) rfl ((if0 _ _).trans (flt (by decide : ¬ ((1 : Int32) < (0 : Int32)))).1) ?_
          refine XS.iloadN X573.here hx rfl (hb hby d6_34) rfl ?_
          refine XS.goto X573.here hx rfl (pc0 := 35) (pc' := 42) rfl (hb hby d6_35) (by decide) (by decide) ?_
          refine XS.iconst X573.here hx rfl (hb hby d6_42) ?_
          refine XS.isub X573.here hx rfl (hb hby d6_43) rfl ?_
          refine XS.istore X573.here hx rfl (hb hby d6_44) rfl (l' := #[.val (.ref a1), .val (.long q2), .second, .val (.int (1 : Int32)), .val (.int (0 : Int32)), .unset]) rfl ?_
          refine XS.iload X573.here hx rfl (hb hby d6_46) rfl ?_
          refine XS.aloadN X573.here hx rfl (hb hby d6_48) rfl rfl ?_
          refine st574 _ ?_
          show Steps p.tables e below (T574.setTop (mkF m 52 #[.val (.ref a1), .val (.long q2), .second, .val (.int (1 : Int32)), .val (.int (0 : Int32)), .unset] [(.int (0 : Int32)), (.int (0 : Int32))])) _
          refine XS.icmpYes X574.here hx rfl (pc0 := 52) (pc' := 62) rfl (hb hby d6_52) rfl (flt (by decide : ¬ ((0 : Int32) < (0 : Int32)))).2.1 (by decide) (by decide) ?_
          refine XS.aloadN X574.here hx rfl (hb hby d6_62) rfl rfl ?_
          refine st575 _ ?_
          refine XS.iload X575.here hx rfl (hb hby d6_66) rfl ?_
          refine X575.iaload hx (j := (0 : Int32)) (v := (.int y0)) (by rw [e575]; exact A576.1) (State.isArrayOf_alike hZ.alike A576.2.1) A576.2.2 hin576 hat576 (g := (mkF m 68 #[.val (.ref a1), .val (.long q2), .second, .val (.int (1 : Int32)), .val (.int (0 : Int32)), .unset] [(.int (0 : Int32)), (.ref ac544)])) rfl rfl (hb hby d6_68) _ ?_
          refine XS.istore X575.here hx rfl (hb hby d6_69) rfl (l' := #[.val (.ref a1), .val (.long q2), .second, .val (.int (1 : Int32)), .val (.int (0 : Int32)), .val (.int y0)]) rfl ?_
          refine XS.aloadN X575.here hx rfl (hb hby d6_71) rfl rfl ?_
          refine st577 _ ?_
          refine XS.aloadN X577.here hx rfl (hb hby d6_75) rfl rfl ?_
          refine st578 _ ?_
          refine XS.iconst X578.here hx rfl (hb hby d6_79) ?_
          refine XS.isub X578.here hx rfl (hb hby d6_80) rfl ?_
          show Steps p.tables e below (T578.setTop (mkF m 81 #[.val (.ref a1), .val (.long q2), .second, .val (.int (1 : Int32)), .val (.int (0 : Int32)), .val (.int y0)] [(.int (1 : Int32)), (.ref ac544)])) _
          refine X578.iaload hx (j := (1 : Int32)) (v := (.int y1)) (by rw [e578]; exact A579.1) (State.isArrayOf_alike hZ.alike A579.2.1) A579.2.2 hin579 hat579 (g := (mkF m 81 #[.val (.ref a1), .val (.long q2), .second, .val (.int (1 : Int32)), .val (.int (0 : Int32)), .val (.int y0)] [(.int (1 : Int32)), (.ref ac544)])) rfl rfl (hb hby d6_81) _ ?_
          refine XS.iload X578.here hx rfl (hb hby d6_82) rfl ?_
          refine XS.isub X578.here hx rfl (hb hby d6_84) rfl ?_
          exact kt)
        have lt581 : ¬ (x1 < q2) := by
          rw [Int64.lt_iff_toInt_lt] at hs0 hc551 hc552 hc562 ⊢
          omega
        have lt582 : x0 < q2 := by
          rw [Int64.lt_iff_toInt_lt] at hs0 hc551 hc552 hc562 ⊢
          omega
        have ev : (y1 - (if x1 < q2 then y1 else (if x0 < q2 then y0 else b))) = (y1 - y0) := congrArg (fun z => y1 - z) ((if_neg lt581).trans (if_pos lt582))
        exact own_retI X578 hx Bd.notSynchronized Bd.returns (hb hby d6_85) pre580 (show QRi (y1 - (if x1 < q2 then y1 else (if x0 < q2 then y0 else b))) h0 n0 _ _ _ from ⟨by rw [ev], N573, e578⟩) (by decide) (by decide)
  case neg =>
    by_cases hc583 : q2 < x0
    case pos =>
      obtain ⟨_, _, ⟨T584, L584, k584, n584⟩, -, X584, ⟨Lc584, hQ584, l584, y584, z584⟩, st584⟩ := Jvm.LawKit.callS X549 hx (y := own_y_199) hown (mvT hZ (own_w hw 45 rfl)) (mvT hZ (own_w hw 46 rfl)) (mvT hZ (own_w hw 47 rfl)) (mvT hZ (own_w hw 48 rfl)) (by decide) (backOf (W := 0) (rmSBs022 l Z a0 hw [] am544 q2 km544 x0 x1 (-1 : Int32) h0 n0 Z0 Vm544 ((if_neg hc551).trans (if_pos hc583))) hZ (own_w hw 48 rfl) (own_w hw 47 rfl) (by decide) (by decide)) (g := (mkF m 26 #[.val (.ref a1), .val (.long q2), .second, .unset, .unset, .unset] [(.long q2), (.int (2 : Int32)), (.int (0 : Int32)), (.ref am544)])) rfl (by rw [hml]; rfl) (argsL := [(.ref am544), (.int (0 : Int32)), (.int (2 : Int32)), (.long q2)]) (rest := []) (lenOf pd_212 rfl) rfl (by show 2 * 0 + _ ≤ _; exact Nat.le_of_eq rfl) (hb hby d6_26) (fun _ _ => ⟨rfl, e549, (by decide : 0 + 0 ≤ _), (by decide : 0 + 0 ≤ _)⟩)
      dsimp only [Pt.U, Pt.locs, Pt.cells, Pt.slots] at X584 l584 y584 z584 st584 hQ584
      subst l584 y584 z584
      obtain ⟨rfl, Nq584, e584⟩ := hQ584
      have N584 := Fr.app N0 Nq584
      obtain ⟨T585, X585, e585, st585⟩ := getF X584 hx hZ hown (host := "") (Or.inl (own_w hw 23 rfl)) Via.refl e584 Ff544 (g := (mkF m 49 #[.val (.ref a1), .val (.long q2), .second, .val (.int (-1 : Int32)), .val (.int (-1 : Int32)), .unset] [(.ref a1), (.int (-1 : Int32))])) rfl rfl (hb hby d6_49)
      obtain ⟨T586, X586, e586, st586⟩ := getF X585 hx hZ hown (host := "") (Or.inl (own_w hw 27 rfl)) Via.refl e585 Fb544 (g := (mkF m 56 #[.val (.ref a1), .val (.long q2), .second, .val (.int (-1 : Int32)), .val (.int (-1 : Int32)), .unset] [(.ref a1)])) rfl rfl (hb hby d6_56)
      obtain ⟨T587, X587, e587, st587⟩ := getF X586 hx hZ hown (host := "") (Or.inl (own_w hw 16 rfl)) Via.refl e586 Fc544 (g := (mkF m 72 #[.val (.ref a1), .val (.long q2), .second, .val (.int (-1 : Int32)), .val (.int (-1 : Int32)), .val (.int b)] [(.ref a1)])) rfl rfl (hb hby d6_72)
      obtain ⟨T588, X588, e588, st588⟩ := getF X587 hx hZ hown (host := "") (Or.inl (own_w hw 25 rfl)) Via.refl e587 Fe544 (g := (mkF m 76 #[.val (.ref a1), .val (.long q2), .second, .val (.int (-1 : Int32)), .val (.int (-1 : Int32)), .val (.int b)] [(.ref a1), (.ref ac544)])) rfl rfl (hb hby d6_76)
      obtain ⟨cl589, A589, q589, S589, M589, H589, J589⟩ := id Vc544
      have hin589 : ¬ ((1 : Int32) < 0 ∨ cl589.slots.size ≤ ((1 : Int32)).toNatClampNeg) := inb_of S589 ⟨by decide, by decide⟩
      have hat589 : cl589.slots[((1 : Int32)).toNatClampNeg]? = some (.int y1) := H589.at hin589 rfl
      have pre590 : ∀ t, Steps p.tables e below (T588.setTop (mkF m 85 #[.val (.ref a1), .val (.long q2), .second, .val (.int (-1 : Int32)), .val (.int (-1 : Int32)), .val (.int b)] [(.int (y1 - b))])) t → Steps p.tables e below (s₁.setTop (entryFrame m #[(.ref a1), (.long q2)] 6)) t := fun t kt => pre550 t (by
        show Steps p.tables e below (T549.setTop (mkF m 26 #[.val (.ref a1), .val (.long q2), .second, .unset, .unset, .unset] [(.long q2), (.int (2 : Int32)), (.int (0 : Int32)), (.ref am544)])) _
        refine st584 _ ?_
        refine XS.istoreN X584.here hx rfl (hb hby d6_29) rfl (l' := #[.val (.ref a1), .val (.long q2), .second, .val (.int (-1 : Int32)), .unset, .unset]) rfl ?_
        refine XS.iloadN X584.here hx rfl (hb hby d6_30) rfl ?_
        refine XS.ifYes X584.here hx rfl (pc0 := 31) (pc' := 38) rfl (hb hby d6_31) rfl ((if0 _ _).trans (tlt (by decide : (-1 : Int32) < (0 : Int32))).1) (by decide) (by decide) ?_
        refine XS.iloadN X584.here hx rfl (hb hby d6_38) rfl ?_
        refine XS.ineg X584.here hx rfl (hb hby d6_39) rfl ?_
        refine XS.iconst X584.here hx rfl (hb hby d6_40) ?_
        refine XS.isub X584.here hx rfl (hb hby d6_41) rfl ?_
        refine XS.iconst X584.here hx rfl (hb hby d6_42) ?_
        refine XS.isub X584.here hx rfl (hb hby d6_43) rfl ?_
        refine XS.istore X584.here hx rfl (hb hby d6_44) rfl (l' := #[.val (.ref a1), .val (.long q2), .second, .val (.int (-1 : Int32)), .val (.int (-1 : Int32)), .unset]) rfl ?_
        refine XS.iload X584.here hx rfl (hb hby d6_46) rfl ?_
        show Steps p.tables e below (T584.setTop (mkF m 48 #[.val (.ref a1), .val (.long q2), .second, .val (.int (-1 : Int32)), .val (.int (-1 : Int32)), .unset] [(.int (-1 : Int32))])) _
        refine XS.aloadN X584.here hx rfl (hb hby d6_48) rfl rfl ?_
        refine st585 _ ?_
        refine XS.icmpNo X585.here hx rfl (hb hby d6_52) rfl (tlt (by decide : (-1 : Int32) < (0 : Int32))).2.1 ?_
        refine XS.aloadN X585.here hx rfl (hb hby d6_55) rfl rfl ?_
        refine st586 _ ?_
        refine XS.goto X586.here hx rfl (pc0 := 59) (pc' := 69) rfl (hb hby d6_59) (by decide) (by decide) ?_
        refine XS.istore X586.here hx rfl (hb hby d6_69) rfl (l' := #[.val (.ref a1), .val (.long q2), .second, .val (.int (-1 : Int32)), .val (.int (-1 : Int32)), .val (.int b)]) rfl ?_
        refine XS.aloadN X586.here hx rfl (hb hby d6_71) rfl rfl ?_
        refine st587 _ ?_
        refine XS.aloadN X587.here hx rfl (hb hby d6_75) rfl rfl ?_
        refine st588 _ ?_
        refine XS.iconst X588.here hx rfl (hb hby d6_79) ?_
        show Steps p.tables e below (T588.setTop (mkF m 80 #[.val (.ref a1), .val (.long q2), .second, .val (.int (-1 : Int32)), .val (.int (-1 : Int32)), .val (.int b)] [(.int (1 : Int32)), (.int (2 : Int32)), (.ref ac544)])) _
        refine XS.isub X588.here hx rfl (hb hby d6_80) rfl ?_
        refine X588.iaload hx (j := (1 : Int32)) (v := (.int y1)) (by rw [e588]; exact A589.1) (State.isArrayOf_alike hZ.alike A589.2.1) A589.2.2 hin589 hat589 (g := (mkF m 81 #[.val (.ref a1), .val (.long q2), .second, .val (.int (-1 : Int32)), .val (.int (-1 : Int32)), .val (.int b)] [(.int (1 : Int32)), (.ref ac544)])) rfl rfl (hb hby d6_81) _ ?_
        refine XS.iload X588.here hx rfl (hb hby d6_82) rfl ?_
        refine XS.isub X588.here hx rfl (hb hby d6_84) rfl ?_
        exact kt)
      have lt591 : ¬ (x1 < q2) := by
        rw [Int64.lt_iff_toInt_lt] at hs0 hc551 hc583 ⊢
        omega
      have lt592 : ¬ (x0 < q2) := by
        rw [Int64.lt_iff_toInt_lt] at hs0 hc551 hc583 ⊢
        omega
      have ev : (y1 - (if x1 < q2 then y1 else (if x0 < q2 then y0 else b))) = (y1 - b) := congrArg (fun z => y1 - z) ((if_neg lt591).trans (if_neg lt592))
      exact own_retI X588 hx Bd.notSynchronized Bd.returns (hb hby d6_85) pre590 (show QRi (y1 - (if x1 < q2 then y1 else (if x0 < q2 then y0 else b))) h0 n0 _ _ _ from ⟨by rw [ev], N584, e588⟩) (by decide) (by decide)
    case neg =>
      obtain ⟨_, _, ⟨T593, L593, k593, n593⟩, -, X593, ⟨Lc593, hQ593, l593, y593, z593⟩, st593⟩ := Jvm.LawKit.callS X549 hx (y := own_y_199) hown (mvT hZ (own_w hw 45 rfl)) (mvT hZ (own_w hw 46 rfl)) (mvT hZ (own_w hw 47 rfl)) (mvT hZ (own_w hw 48 rfl)) (by decide) (backOf (W := 0) (rmSBs022 l Z a0 hw [] am544 q2 km544 x0 x1 (0 : Int32) h0 n0 Z0 Vm544 ((if_neg hc551).trans (if_neg hc583))) hZ (own_w hw 48 rfl) (own_w hw 47 rfl) (by decide) (by decide)) (g := (mkF m 26 #[.val (.ref a1), .val (.long q2), .second, .unset, .unset, .unset] [(.long q2), (.int (2 : Int32)), (.int (0 : Int32)), (.ref am544)])) rfl (by rw [hml]; rfl) (argsL := [(.ref am544), (.int (0 : Int32)), (.int (2 : Int32)), (.long q2)]) (rest := []) (lenOf pd_212 rfl) rfl (by show 2 * 0 + _ ≤ _; exact Nat.le_of_eq rfl) (hb hby d6_26) (fun _ _ => ⟨rfl, e549, (by decide : 0 + 0 ≤ _), (by decide : 0 + 0 ≤ _)⟩)
      dsimp only [Pt.U, Pt.locs, Pt.cells, Pt.slots] at X593 l593 y593 z593 st593 hQ593
      subst l593 y593 z593
      obtain ⟨rfl, Nq593, e593⟩ := hQ593
      have N593 := Fr.app N0 Nq593
      obtain ⟨T594, X594, e594, st594⟩ := getF X593 hx hZ hown (host := "") (Or.inl (own_w hw 23 rfl)) Via.refl e593 Ff544 (g := (mkF m 49 #[.val (.ref a1), .val (.long q2), .second, .val (.int (0 : Int32)), .val (.int (-1 : Int32)), .unset] [(.ref a1), (.int (-1 : Int32))])) rfl rfl (hb hby d6_49)
      obtain ⟨T595, X595, e595, st595⟩ := getF X594 hx hZ hown (host := "") (Or.inl (own_w hw 27 rfl)) Via.refl e594 Fb544 (g := (mkF m 56 #[.val (.ref a1), .val (.long q2), .second, .val (.int (0 : Int32)), .val (.int (-1 : Int32)), .unset] [(.ref a1)])) rfl rfl (hb hby d6_56)
      obtain ⟨T596, X596, e596, st596⟩ := getF X595 hx hZ hown (host := "") (Or.inl (own_w hw 16 rfl)) Via.refl e595 Fc544 (g := (mkF m 72 #[.val (.ref a1), .val (.long q2), .second, .val (.int (0 : Int32)), .val (.int (-1 : Int32)), .val (.int b)] [(.ref a1)])) rfl rfl (hb hby d6_72)
      obtain ⟨T597, X597, e597, st597⟩ := getF X596 hx hZ hown (host := "") (Or.inl (own_w hw 25 rfl)) Via.refl e596 Fe544 (g := (mkF m 76 #[.val (.ref a1), .val (.long q2), .second, .val (.int (0 : Int32)), .val (.int (-1 : Int32)), .val (.int b)] [(.ref a1), (.ref ac544)])) rfl rfl (hb hby d6_76)
      obtain ⟨cl598, A598, q598, S598, M598, H598, J598⟩ := id Vc544
      have hin598 : ¬ ((1 : Int32) < 0 ∨ cl598.slots.size ≤ ((1 : Int32)).toNatClampNeg) := inb_of S598 ⟨by decide, by decide⟩
      have hat598 : cl598.slots[((1 : Int32)).toNatClampNeg]? = some (.int y1) := H598.at hin598 rfl
      have pre599 : ∀ t, Steps p.tables e below (T597.setTop (mkF m 85 #[.val (.ref a1), .val (.long q2), .second, .val (.int (0 : Int32)), .val (.int (-1 : Int32)), .val (.int b)] [(.int (y1 - b))])) t → Steps p.tables e below (s₁.setTop (entryFrame m #[(.ref a1), (.long q2)] 6)) t := fun t kt => pre550 t (by
        show Steps p.tables e below (T549.setTop (mkF m 26 #[.val (.ref a1), .val (.long q2), .second, .unset, .unset, .unset] [(.long q2), (.int (2 : Int32)), (.int (0 : Int32)), (.ref am544)])) _
        refine st593 _ ?_
        refine XS.istoreN X593.here hx rfl (hb hby d6_29) rfl (l' := #[.val (.ref a1), .val (.long q2), .second, .val (.int (0 : Int32)), .unset, .unset]) rfl ?_
        refine XS.iloadN X593.here hx rfl (hb hby d6_30) rfl ?_
        refine XS.ifNo X593.here hx rfl (hb hby d6_31) rfl ((if0 _ _).trans (flt (by decide : ¬ ((0 : Int32) < (0 : Int32)))).1) ?_
        refine XS.iloadN X593.here hx rfl (hb hby d6_34) rfl ?_
        refine XS.goto X593.here hx rfl (pc0 := 35) (pc' := 42) rfl (hb hby d6_35) (by decide) (by decide) ?_
        refine XS.iconst X593.here hx rfl (hb hby d6_42) ?_
        refine XS.isub X593.here hx rfl (hb hby d6_43) rfl ?_
        refine XS.istore X593.here hx rfl (hb hby d6_44) rfl (l' := #[.val (.ref a1), .val (.long q2), .second, .val (.int (0 : Int32)), .val (.int (-1 : Int32)), .unset]) rfl ?_
        refine XS.iload X593.here hx rfl (hb hby d6_46) rfl ?_
        refine XS.aloadN X593.here hx rfl (hb hby d6_48) rfl rfl ?_
        refine st594 _ ?_
        show Steps p.tables e below (T594.setTop (mkF m 52 #[.val (.ref a1), .val (.long q2), .second, .val (.int (0 : Int32)), .val (.int (-1 : Int32)), .unset] [(.int (0 : Int32)), (.int (-1 : Int32))])) _
        refine XS.icmpNo X594.here hx rfl (hb hby d6_52) rfl (tlt (by decide : (-1 : Int32) < (0 : Int32))).2.1 ?_
        refine XS.aloadN X594.here hx rfl (hb hby d6_55) rfl rfl ?_
        refine st595 _ ?_
        refine XS.goto X595.here hx rfl (pc0 := 59) (pc' := 69) rfl (hb hby d6_59) (by decide) (by decide) ?_
        refine XS.istore X595.here hx rfl (hb hby d6_69) rfl (l' := #[.val (.ref a1), .val (.long q2), .second, .val (.int (0 : Int32)), .val (.int (-1 : Int32)), .val (.int b)]) rfl ?_
        refine XS.aloadN X595.here hx rfl (hb hby d6_71) rfl rfl ?_
        refine st596 _ ?_
        refine XS.aloadN X596.here hx rfl (hb hby d6_75) rfl rfl ?_
        refine st597 _ ?_
        refine XS.iconst X597.here hx rfl (hb hby d6_79) ?_
        refine XS.isub X597.here hx rfl (hb hby d6_80) rfl ?_
        refine X597.iaload hx (j := (1 : Int32)) (v := (.int y1)) (by rw [e597]; exact A598.1) (State.isArrayOf_alike hZ.alike A598.2.1) A598.2.2 hin598 hat598 (g := (mkF m 81 #[.val (.ref a1), .val (.long q2), .second, .val (.int (0 : Int32)), .val (.int (-1 : Int32)), .val (.int b)] [(.int (1 : Int32)), (.ref ac544)])) rfl rfl (hb hby d6_81) _ ?_
        show Steps p.tables e below (T597.setTop (mkF m 82 #[.val (.ref a1), .val (.long q2), .second, .val (.int (0 : Int32)), .val (.int (-1 : Int32)), .val (.int b)] [(.int y1)])) _
        refine XS.iload X597.here hx rfl (hb hby d6_82) rfl ?_
        refine XS.isub X597.here hx rfl (hb hby d6_84) rfl ?_
        exact kt)
      have lt600 : ¬ (x1 < q2) := by
        rw [Int64.lt_iff_toInt_lt] at hs0 hc551 hc583 ⊢
        omega
      have lt601 : ¬ (x0 < q2) := by
        rw [Int64.lt_iff_toInt_lt] at hs0 hc551 hc583 ⊢
        omega
      have ev : (y1 - (if x1 < q2 then y1 else (if x0 < q2 then y0 else b))) = (y1 - b) := congrArg (fun z => y1 - z) ((if_neg lt600).trans (if_neg lt601))
      exact own_retI X597 hx Bd.notSynchronized Bd.returns (hb hby d6_85) pre599 (show QRi (y1 - (if x1 < q2 then y1 else (if x0 < q2 then y0 else b))) h0 n0 _ _ _ from ⟨by rw [ev], N593, e597⟩) (by decide) (by decide)
abbrev own_y_266 : MethodName := (⟨"java/util/Arrays", "checkLength", "(II)V"⟩ : MethodName)
theorem ef_267 (m : MethodId) (x0 : Int32) (x1 : Int32) : entryFrame m #[(.int x0), (.int x1)] 2 = mkF m 0 #[.val (.int x0), .val (.int x1)] [] := by first | (simp [entryFrame, mkF, argsToLocals, Value.category]; done) | rfl
theorem d13_0 : decode jdk_65_method_131_code 0 = .ok (.iload_n 1, 1) := by decide +kernel
theorem d13_1 : decode jdk_65_method_131_code 1 = .ok (.iload_n 0, 1) := by decide +kernel
theorem d13_2 : decode jdk_65_method_131_code 2 = .ok (.if_icmp .ge 35, 3) := by decide +kernel
theorem d13_37 : decode jdk_65_method_131_code 37 = .ok (.return_, 1) := by decide +kernel
def QCL (h0 : Heap) (n0 : Nat) (v : Option Value) (h : Heap) (L : List Loc) : Prop := v = none ∧ Fr n0 L ∧ h = h0
set_option maxRecDepth 65536 in
set_option maxHeartbeats 40000000 in
theorem rmCL (l : Launch) (Z : State) (a0 : Array Value) (hw : ∀ d ∈ tables_1, d.before a0 Z = true) (ws : List Jvm.Cond)  (h0 : Heap) (n0 : Nat) (Z0 : n0 ≤ h0.size) :
    MetFree l own_y_266 (head1 (Jvm.Cond.code own_y_266 jdk_65_method_131_code 2 none :: ws) ({ frames := 0, cells := 0, slots := 0, locals := 0 } : Room)) (fun a U => a = #[(.int (0 : Int32)), (.int (4 : Int32))] ∧ Z.Warmed39 U.vm ∧ U.heap = h0) (fun _ _ _ _ _ => True) (fun _ U o U' => ∃ v L, o = .returned v ∧ QCL h0 n0 v U'.heap L ∧ FrameEnd U o U' L ({ frames := 0, cells := 0, slots := 0, locals := 0 } : Room).cells ({ frames := 0, cells := 0, slots := 0, locals := 0 } : Room).slots) := by
  refine MetFree.of_bodySF (plainFor_of_name pn_187) hisR ?_
  intro p e s m args below meth c s₁ Bd hml0 hP hK
  obtain ⟨rfl, hZ, hh⟩ := hP
  have hx := Bd.exec
  have hby := Bd.bytes
  have hml : c.maxLocals = 2 := hml0
  have hown : s.vm.findClass "java/util/Arrays" = some m.cls := findClass_of_methodNamed Bd.named
  have hnm := (name_of_methodNamed Bd.named Bd.method).1
  have X0 : Stand p l e ({ frames := 0, cells := 0, slots := 0, locals := 0 } : Room) s m #[(.int (0 : Int32)), (.int (4 : Int32))] below meth c s₁ [] 0 0 := Stand.of_body Bd
  have e0 : s₁.heap = h0 := by rw [← hh, Bd.state]; rfl
  have N0 := Fr.nil n0
  have pre0 : ∀ t, Steps p.tables e below (s₁.setTop (mkF m 0 #[.val (.int (0 : Int32)), .val (.int (4 : Int32))] [])) t → Steps p.tables e below (s₁.setTop (entryFrame m #[(.int (0 : Int32)), (.int (4 : Int32))] 2)) t := fun t k => castTop (ef_267 m (0 : Int32) (4 : Int32)) k
  have pre611 : ∀ t, Steps p.tables e below (s₁.setTop (mkF m 37 #[.val (.int (0 : Int32)), .val (.int (4 : Int32))] [])) t → Steps p.tables e below (s₁.setTop (entryFrame m #[(.int (0 : Int32)), (.int (4 : Int32))] 2)) t := fun t kt => pre0 t (by
    show Steps p.tables e below (s₁.setTop (mkF m 0 #[.val (.int (0 : Int32)), .val (.int (4 : Int32))] [])) _
    refine XS.iloadN X0.here hx rfl (hb hby d13_0) rfl ?_
    refine XS.iloadN X0.here hx rfl (hb hby d13_1) rfl ?_
    refine XS.icmpYes X0.here hx rfl (pc0 := 2) (pc' := 37) rfl (hb hby d13_2) rfl (flt (by decide : ¬ ((4 : Int32) < (0 : Int32)))).2.1 (by decide) (by decide) ?_
    exact kt)
  exact own_retV X0 hx Bd.notSynchronized Bd.returns (hb hby d13_37) pre611 (show QCL h0 n0 _ _ _ from ⟨rfl, N0, e0⟩) (by decide) (by decide)
abbrev own_y_272 : MethodName := (⟨"java/lang/Math", "min", "(II)I"⟩ : MethodName)
theorem ef_273 (m : MethodId) (x0 : Int32) (x1 : Int32) : entryFrame m #[(.int x0), (.int x1)] 2 = mkF m 0 #[.val (.int x0), .val (.int x1)] [] := by first | (simp [entryFrame, mkF, argsToLocals, Value.category]; done) | rfl
theorem d14_0 : decode jdk_29_method_69_code 0 = .ok (.iload_n 0, 1) := by decide +kernel
theorem d14_1 : decode jdk_29_method_69_code 1 = .ok (.iload_n 1, 1) := by decide +kernel
theorem d14_2 : decode jdk_29_method_69_code 2 = .ok (.if_icmp .gt 7, 3) := by decide +kernel
theorem d14_5 : decode jdk_29_method_69_code 5 = .ok (.iload_n 0, 1) := by decide +kernel
theorem d14_6 : decode jdk_29_method_69_code 6 = .ok (.goto 4, 3) := by decide +kernel
theorem d14_10 : decode jdk_29_method_69_code 10 = .ok (.ireturn, 1) := by decide +kernel
def QMin (h0 : Heap) (n0 : Nat) (v : Option Value) (h : Heap) (L : List Loc) : Prop := v = some (.int (2 : Int32)) ∧ Fr n0 L ∧ h = h0
set_option maxRecDepth 65536 in
set_option maxHeartbeats 40000000 in
theorem rmMin (l : Launch) (Z : State) (a0 : Array Value) (hw : ∀ d ∈ tables_1, d.before a0 Z = true) (ws : List Jvm.Cond)  (h0 : Heap) (n0 : Nat) (Z0 : n0 ≤ h0.size) :
    MetFree l own_y_272 (head1 (Jvm.Cond.code own_y_272 jdk_29_method_69_code 2 (some .int) :: ws) ({ frames := 0, cells := 0, slots := 0, locals := 0 } : Room)) (fun a U => a = #[(.int (2 : Int32)), (.int (4 : Int32))] ∧ Z.Warmed39 U.vm ∧ U.heap = h0) (fun _ _ _ _ _ => True) (fun _ U o U' => ∃ v L, o = .returned v ∧ QMin h0 n0 v U'.heap L ∧ FrameEnd U o U' L ({ frames := 0, cells := 0, slots := 0, locals := 0 } : Room).cells ({ frames := 0, cells := 0, slots := 0, locals := 0 } : Room).slots) := by
  refine MetFree.of_bodySF (Jvm.Free.JP.mathPlain rfl (by decide +kernel)) hisR ?_
  intro p e s m args below meth c s₁ Bd hml0 hP hK
  obtain ⟨rfl, hZ, hh⟩ := hP
  have hx := Bd.exec
  have hby := Bd.bytes
  have hml : c.maxLocals = 2 := hml0
  have hown : s.vm.findClass "java/lang/Math" = some m.cls := findClass_of_methodNamed Bd.named
  have hnm := (name_of_methodNamed Bd.named Bd.method).1
  have X0 : Stand p l e ({ frames := 0, cells := 0, slots := 0, locals := 0 } : Room) s m #[(.int (2 : Int32)), (.int (4 : Int32))] below meth c s₁ [] 0 0 := Stand.of_body Bd
  have e0 : s₁.heap = h0 := by rw [← hh, Bd.state]; rfl
  have N0 := Fr.nil n0
  have pre0 : ∀ t, Steps p.tables e below (s₁.setTop (mkF m 0 #[.val (.int (2 : Int32)), .val (.int (4 : Int32))] [])) t → Steps p.tables e below (s₁.setTop (entryFrame m #[(.int (2 : Int32)), (.int (4 : Int32))] 2)) t := fun t k => castTop (ef_273 m (2 : Int32) (4 : Int32)) k
  have pre612 : ∀ t, Steps p.tables e below (s₁.setTop (mkF m 10 #[.val (.int (2 : Int32)), .val (.int (4 : Int32))] [(.int (2 : Int32))])) t → Steps p.tables e below (s₁.setTop (entryFrame m #[(.int (2 : Int32)), (.int (4 : Int32))] 2)) t := fun t kt => pre0 t (by
    show Steps p.tables e below (s₁.setTop (mkF m 0 #[.val (.int (2 : Int32)), .val (.int (4 : Int32))] [])) _
    refine XS.iloadN X0.here hx rfl (hb hby d14_0) rfl ?_
    refine XS.iloadN X0.here hx rfl (hb hby d14_1) rfl ?_
    refine XS.icmpNo X0.here hx rfl (hb hby d14_2) rfl (flt (by decide : ¬ ((4 : Int32) < (2 : Int32)))).2.2.1 ?_
    refine XS.iloadN X0.here hx rfl (hb hby d14_5) rfl ?_
    refine XS.goto X0.here hx rfl (pc0 := 6) (pc' := 10) rfl (hb hby d14_6) (by decide) (by decide) ?_
    exact kt)
  exact own_retI X0 hx Bd.notSynchronized Bd.returns (hb hby d14_10) pre612 (show QMin h0 n0 _ _ _ from ⟨rfl, N0, e0⟩) (by decide) (by decide)
abbrev own_y_280 : MethodName := (⟨"java/util/Arrays", "copyOfRangeLong", "([JII)[J"⟩ : MethodName)
theorem ef_281 (m : MethodId) (x0 : Addr) (x1 : Int32) (x2 : Int32) : entryFrame m #[(.ref x0), (.int x1), (.int x2)] 5 = mkF m 0 #[.val (.ref x0), .val (.int x1), .val (.int x2), .unset, .unset] [] := by first | (simp [entryFrame, mkF, argsToLocals, Value.category]; done) | rfl
theorem d12_0 : decode jdk_65_method_139_code 0 = .ok (.iload_n 1, 1) := by decide +kernel
theorem d12_1 : decode jdk_65_method_139_code 1 = .ok (.iload_n 2, 1) := by decide +kernel
theorem d12_2 : decode jdk_65_method_139_code 2 = .ok (.invokestatic 343, 3) := by decide +kernel
theorem pd_285 : parseMethodDescriptor "(II)V" = some ⟨[.int, .int], none⟩ := by decide +kernel
theorem d12_5 : decode jdk_65_method_139_code 5 = .ok (.iload_n 2, 1) := by decide +kernel
theorem d12_6 : decode jdk_65_method_139_code 6 = .ok (.iload_n 1, 1) := by decide +kernel
theorem d12_7 : decode jdk_65_method_139_code 7 = .ok (.isub, 1) := by decide +kernel
theorem d12_8 : decode jdk_65_method_139_code 8 = .ok (.istore_n 3, 1) := by decide +kernel
theorem d12_9 : decode jdk_65_method_139_code 9 = .ok (.iload_n 3, 1) := by decide +kernel
theorem d12_10 : decode jdk_65_method_139_code 10 = .ok (.newarray .long, 2) := by decide +kernel
theorem d12_12 : decode jdk_65_method_139_code 12 = .ok (.astore 4, 2) := by decide +kernel
theorem d12_14 : decode jdk_65_method_139_code 14 = .ok (.aload_n 0, 1) := by decide +kernel
theorem d12_15 : decode jdk_65_method_139_code 15 = .ok (.iload_n 1, 1) := by decide +kernel
theorem d12_16 : decode jdk_65_method_139_code 16 = .ok (.aload 4, 2) := by decide +kernel
theorem d12_18 : decode jdk_65_method_139_code 18 = .ok (.iconst 0, 1) := by decide +kernel
theorem d12_19 : decode jdk_65_method_139_code 19 = .ok (.aload_n 0, 1) := by decide +kernel
theorem d12_20 : decode jdk_65_method_139_code 20 = .ok (.arraylength, 1) := by decide +kernel
theorem d12_21 : decode jdk_65_method_139_code 21 = .ok (.iload_n 1, 1) := by decide +kernel
theorem d12_22 : decode jdk_65_method_139_code 22 = .ok (.isub, 1) := by decide +kernel
theorem d12_23 : decode jdk_65_method_139_code 23 = .ok (.iload_n 3, 1) := by decide +kernel
theorem d12_24 : decode jdk_65_method_139_code 24 = .ok (.invokestatic 304, 3) := by decide +kernel
theorem pd_303 : parseMethodDescriptor "(II)I" = some ⟨[.int, .int], some .int⟩ := by decide +kernel
theorem d12_27 : decode jdk_65_method_139_code 27 = .ok (.invokestatic 150, 3) := by decide +kernel
theorem d12_30 : decode jdk_65_method_139_code 30 = .ok (.aload 4, 2) := by decide +kernel
theorem d12_32 : decode jdk_65_method_139_code 32 = .ok (.areturn, 1) := by decide +kernel
def QRJ (Z : State) (x0 x1 : Int64) (h0 : Heap) (n0 : Nat) (v : Option Value) (h : Heap) (L : List Loc) : Prop := ∃ (r : Addr) (kc : ClassId), v = some (.ref r) ∧ Fr n0 L ∧ Keep h0 h [] ∧ h0.size ≤ r ∧ n0 ≤ r ∧ Arv Z h r kc .long (4 : Int32) [(.long x0), (.long x1), (.long (0 : Int64)), (.long (0 : Int64))] (.long (0 : Int64))
set_option maxRecDepth 65536 in
set_option maxHeartbeats 40000000 in
theorem rmRJ0 (l : Launch) (Z : State) (a0 : Array Value) (hw : ∀ d ∈ tables_1, d.before a0 Z = true) (ws : List Jvm.Cond) (a1 : Addr) (k0 : ClassId) (x0 x1 : Int64) (h0 : Heap) (n0 : Nat) (Z0 : n0 ≤ h0.size) (V0 : Arv Z h0 a1 k0 .long (2 : Int32) [(.long x0), (.long x1)] (.long (0 : Int64))) :
    MetFree l own_y_280 (head1 (Jvm.Cond.code own_y_280 jdk_65_method_139_code 5 (some (.array .long)) :: ws) ({ frames := 1, cells := 1, slots := 4, locals := 60 } : Room)) (fun a U => a = #[(.ref a1), (.int (0 : Int32)), (.int (4 : Int32))] ∧ Z.Warmed39 U.vm ∧ U.heap = h0) (fun _ _ _ _ _ => True) (fun _ U o U' => ∃ v L, o = .returned v ∧ QRJ Z x0 x1 h0 n0 v U'.heap L ∧ FrameEnd U o U' L ({ frames := 1, cells := 1, slots := 4, locals := 60 } : Room).cells ({ frames := 1, cells := 1, slots := 4, locals := 60 } : Room).slots) := by
  refine MetFree.of_bodySF (plainFor_of_name pn_187) hisR ?_
  intro p e s m args below meth c s₁ Bd hml0 hP hK
  obtain ⟨rfl, hZ, hh⟩ := hP
  have hx := Bd.exec
  have hby := Bd.bytes
  have hml : c.maxLocals = 5 := hml0
  have hown : s.vm.findClass "java/util/Arrays" = some m.cls := findClass_of_methodNamed Bd.named
  have hnm := (name_of_methodNamed Bd.named Bd.method).1
  have X0 : Stand p l e ({ frames := 1, cells := 1, slots := 4, locals := 60 } : Room) s m #[(.ref a1), (.int (0 : Int32)), (.int (4 : Int32))] below meth c s₁ [] 0 0 := Stand.of_body Bd
  have e0 : s₁.heap = h0 := by rw [← hh, Bd.state]; rfl
  have N0 := Fr.nil n0
  have pre0 : ∀ t, Steps p.tables e below (s₁.setTop (mkF m 0 #[.val (.ref a1), .val (.int (0 : Int32)), .val (.int (4 : Int32)), .unset, .unset] [])) t → Steps p.tables e below (s₁.setTop (entryFrame m #[(.ref a1), (.int (0 : Int32)), (.int (4 : Int32))] 5)) t := fun t k => castTop (ef_281 m a1 (0 : Int32) (4 : Int32)) k
  obtain ⟨_, _, ⟨T613, L613, k613, n613⟩, -, X613, ⟨Lc613, hQ613, l613, y613, z613⟩, st613⟩ := Jvm.LawKit.callS X0 hx (y := own_y_266) hown (mvT hZ (own_w hw 65 rfl)) (mvT hZ (own_w hw 66 rfl)) (mvT hZ (own_w hw 47 rfl)) (mvT hZ (own_w hw 67 rfl)) (by decide) (backOf (W := 0) (rmCL l Z a0 hw [] h0 n0 Z0) hZ (own_w hw 67 rfl) (own_w hw 47 rfl) (by decide) (by decide)) (g := (mkF m 2 #[.val (.ref a1), .val (.int (0 : Int32)), .val (.int (4 : Int32)), .unset, .unset] [(.int (4 : Int32)), (.int (0 : Int32))])) rfl (by rw [hml]; rfl) (argsL := [(.int (0 : Int32)), (.int (4 : Int32))]) (rest := []) (lenOf pd_285 rfl) rfl (by show 2 * 0 + _ ≤ _; exact Nat.le_of_eq rfl) (hb hby d12_2) (fun _ _ => ⟨rfl, e0, (by decide : 0 + 0 ≤ _), (by decide : 0 + 0 ≤ _)⟩)
  dsimp only [Pt.U, Pt.locs, Pt.cells, Pt.slots] at X613 l613 y613 z613 st613 hQ613
  subst l613 y613 z613
  obtain ⟨rfl, Nq613, e613⟩ := hQ613
  have N613 := Fr.app N0 Nq613
  obtain ⟨T614, h614, k614, X614, e614, E614, A614, st614⟩ := newP X613 hx hZ (own_w hw 12 rfl) e613 (g := (mkF m 10 #[.val (.ref a1), .val (.int (0 : Int32)), .val (.int (4 : Int32)), .val (.int (4 : Int32)), .unset] [(.int (4 : Int32))])) rfl (hb hby d12_10) rfl (by decide) (cap := 4) (by decide) (by decide) (by decide) (by decide)
  obtain ⟨b614, g614⟩ : ∃ z, z = h0.size := ⟨_, rfl⟩
  rw [← g614] at A614 st614
  have G614 : n0 ≤ b614 := Nat.le_trans Z0 (Nat.le_of_eq g614.symm)
  have sz614 : h0.size ≤ b614 := Nat.le_trans (Keep.refl h0 []).1 (Nat.le_of_eq g614.symm)
  have ne615 : a1 ≠ b614 := Nat.ne_of_lt (Nat.lt_of_lt_of_le V0.lt (Nat.le_of_eq g614.symm))
  have c616 := V0.ext E614
  have c617 := (Keep.refl h0 []).ext E614
  have z618 : n0 ≤ h614.size := Nat.le_trans Z0 E614.1
  have V614 : Arv Z h614 b614 k614 .long (4 : Int32) [(.long (0 : Int64)), (.long (0 : Int64)), (.long (0 : Int64)), (.long (0 : Int64))] (.long (0 : Int64)) := (Arv.new A614 (by decide)).pad (pad_rep [] (.long (0 : Int64)) 4)
  obtain ⟨cl619, A619, q619, S619, M619, H619, J619⟩ := id c616
  obtain ⟨_, _, ⟨T620, L620, k620, n620⟩, -, X620, ⟨Lc620, hQ620, l620, y620, z620⟩, st620⟩ := Jvm.LawKit.callS X614 hx (y := own_y_272) hown (mvT hZ (own_w hw 68 rfl)) (mvT hZ (own_w hw 69 rfl)) (mvT hZ (own_w hw 70 rfl)) (mvT hZ (own_w hw 71 rfl)) (by decide) (backOf (W := 4) (rmMin l Z a0 hw [] h614 n0 z618) hZ (own_w hw 71 rfl) (own_w hw 70 rfl) (by decide) (by decide)) (g := (mkF m 24 #[.val (.ref a1), .val (.int (0 : Int32)), .val (.int (4 : Int32)), .val (.int (4 : Int32)), .val (.ref b614)] [(.int (4 : Int32)), (.int (2 : Int32)), (.int (0 : Int32)), (.ref b614), (.int (0 : Int32)), (.ref a1)])) rfl (by rw [hml]; rfl) (argsL := [(.int (2 : Int32)), (.int (4 : Int32))]) (rest := [(.int (0 : Int32)), (.ref b614), (.int (0 : Int32)), (.ref a1)]) (lenOf pd_303 rfl) rfl (by show 2 * 0 + _ ≤ _; exact Nat.le_of_eq rfl) (hb hby d12_24) (fun _ _ => ⟨rfl, e614, (by decide : 1 + 0 ≤ _), (by decide : 4 + 0 ≤ _)⟩)
  dsimp only [Pt.U, Pt.locs, Pt.cells, Pt.slots] at X620 l620 y620 z620 st620 hQ620
  subst l620 y620 z620
  obtain ⟨rfl, Nq620, e620⟩ := hQ620
  have N620 := Fr.app N613 Nq620
  obtain ⟨T621, h621, L621, X621, e621, N621, K621, U621, st621⟩ := cpA X620 hx hZ hown (own_w hw 72 rfl) (own_w hw 75 rfl) (own_w hw 73 rfl) (own_w hw 74 rfl) e620 (us := [(.long x0), (.long x1)]) c616 V614 (Or.inl ⟨rfl, rfl⟩) (by decide) (by decide) (by decide) (by decide) (by decide) rfl (Nat.le_of_ble_eq_true rfl) N620 G614 (g := (mkF m 27 #[.val (.ref a1), .val (.int (0 : Int32)), .val (.int (4 : Int32)), .val (.int (4 : Int32)), .val (.ref b614)] [(.int (2 : Int32)), (.int (0 : Int32)), (.ref b614), (.int (0 : Int32)), (.ref a1)])) rfl (by rw [hml]; rfl) rfl (hb hby d12_27) (by decide) (W := 0) (by show 2 * 0 + _ ≤ _; exact Nat.le_of_eq rfl) (by decide)
  have V621 : Arv Z h621 b614 k614 .long (4 : Int32) [(.long x0), (.long x1), (.long (0 : Int64)), (.long (0 : Int64))] (.long (0 : Int64)) := U621
  have z622 : n0 ≤ h621.size := Nat.le_trans z618 K621.1
  have c623 := c616.keep K621 (ninS ne615 nin0)
  have c624 := c617.trans K621 (allS (Or.inr sz614) all0)
  have pre626 : ∀ t, Steps p.tables e below (T621.setTop (mkF m 32 #[.val (.ref a1), .val (.int (0 : Int32)), .val (.int (4 : Int32)), .val (.int (4 : Int32)), .val (.ref b614)] [(.ref b614)])) t → Steps p.tables e below (s₁.setTop (entryFrame m #[(.ref a1), (.int (0 : Int32)), (.int (4 : Int32))] 5)) t := fun t kt => pre0 t (by
    show Steps p.tables e below (s₁.setTop (mkF m 0 #[.val (.ref a1), .val (.int (0 : Int32)), .val (.int (4 : Int32)), .unset, .unset] [])) _
    refine XS.iloadN X0.here hx rfl (hb hby d12_0) rfl ?_
    refine XS.iloadN X0.here hx rfl (hb hby d12_1) rfl ?_
    refine st613 _ ?_
    refine XS.iloadN X613.here hx rfl (hb hby d12_5) rfl ?_
    refine XS.iloadN X613.here hx rfl (hb hby d12_6) rfl ?_
    refine XS.isub X613.here hx rfl (hb hby d12_7) rfl ?_
    refine XS.istoreN X613.here hx rfl (hb hby d12_8) rfl (l' := #[.val (.ref a1), .val (.int (0 : Int32)), .val (.int (4 : Int32)), .val (.int (4 : Int32)), .unset]) rfl ?_
    refine XS.iloadN X613.here hx rfl (hb hby d12_9) rfl ?_
    refine st614 _ ?_
    refine XS.astore X614.here hx rfl (hb hby d12_12) rfl rfl (l' := #[.val (.ref a1), .val (.int (0 : Int32)), .val (.int (4 : Int32)), .val (.int (4 : Int32)), .val (.ref b614)]) rfl ?_
    refine XS.aloadN X614.here hx rfl (hb hby d12_14) rfl rfl ?_
    refine XS.iloadN X614.here hx rfl (hb hby d12_15) rfl ?_
    show Steps p.tables e below (T614.setTop (mkF m 16 #[.val (.ref a1), .val (.int (0 : Int32)), .val (.int (4 : Int32)), .val (.int (4 : Int32)), .val (.ref b614)] [(.int (0 : Int32)), (.ref a1)])) _
    refine XS.aload X614.here hx rfl (hb hby d12_16) rfl rfl ?_
    refine XS.iconst X614.here hx rfl (hb hby d12_18) ?_
    refine XS.aloadN X614.here hx rfl (hb hby d12_19) rfl rfl ?_
    refine X614.arraylength hx (by rw [e614]; exact A619.1) (State.isArrayOf_alike hZ.alike A619.2.1) (g := (mkF m 20 #[.val (.ref a1), .val (.int (0 : Int32)), .val (.int (4 : Int32)), .val (.int (4 : Int32)), .val (.ref b614)] [(.ref a1), (.int (0 : Int32)), (.ref b614), (.int (0 : Int32)), (.ref a1)])) rfl rfl (hb hby d12_20) _ ?_
    rw [len_of S619 M619]
    refine XS.iloadN X614.here hx rfl (hb hby d12_21) rfl ?_
    refine XS.isub X614.here hx rfl (hb hby d12_22) rfl ?_
    refine XS.iloadN X614.here hx rfl (hb hby d12_23) rfl ?_
    refine st620 _ ?_
    refine st621 _ ?_
    refine XS.aload X621.here hx rfl (hb hby d12_30) rfl rfl ?_
    exact kt)
  have hQ : QRJ Z x0 x1 h0 n0 (some (.ref b614)) h621 _ := ⟨b614, k614, rfl, N621, c624, sz614, G614, V621⟩
  exact own_retA X621 hx Bd.notSynchronized rfl Bd.returns rfl (hb hby d12_32) pre626 (show QRJ Z x0 x1 h0 n0 _ _ _ from (by rw [e621]; exact hQ)) (by decide) (by decide)
abbrev own_y_307 : MethodName := (⟨"java/util/Arrays", "copyOfRange", "([JII)[J"⟩ : MethodName)
theorem ef_308 (m : MethodId) (x0 : Addr) (x1 : Int32) (x2 : Int32) : entryFrame m #[(.ref x0), (.int x1), (.int x2)] 3 = mkF m 0 #[.val (.ref x0), .val (.int x1), .val (.int x2)] [] := by first | (simp [entryFrame, mkF, argsToLocals, Value.category]; done) | rfl
theorem d11_0 : decode jdk_65_method_138_code 0 = .ok (.iload_n 1, 1) := by decide +kernel
theorem d11_1 : decode jdk_65_method_138_code 1 = .ok (.ifCond .ne 9, 3) := by decide +kernel
theorem d11_4 : decode jdk_65_method_138_code 4 = .ok (.iload_n 2, 1) := by decide +kernel
theorem d11_5 : decode jdk_65_method_138_code 5 = .ok (.aload_n 0, 1) := by decide +kernel
theorem d11_6 : decode jdk_65_method_138_code 6 = .ok (.arraylength, 1) := by decide +kernel
theorem d11_7 : decode jdk_65_method_138_code 7 = .ok (.if_icmp .eq 10, 3) := by decide +kernel
theorem d11_10 : decode jdk_65_method_138_code 10 = .ok (.aload_n 0, 1) := by decide +kernel
theorem d11_11 : decode jdk_65_method_138_code 11 = .ok (.iload_n 1, 1) := by decide +kernel
theorem d11_12 : decode jdk_65_method_138_code 12 = .ok (.iload_n 2, 1) := by decide +kernel
theorem d11_13 : decode jdk_65_method_138_code 13 = .ok (.invokestatic 355, 3) := by decide +kernel
theorem pd_319 : parseMethodDescriptor "([JII)[J" = some ⟨[(.array .long), .int, .int], some (.array .long)⟩ := by decide +kernel
theorem d11_16 : decode jdk_65_method_138_code 16 = .ok (.areturn, 1) := by decide +kernel
set_option maxRecDepth 65536 in
set_option maxHeartbeats 40000000 in
theorem rmRJ (l : Launch) (Z : State) (a0 : Array Value) (hw : ∀ d ∈ tables_1, d.before a0 Z = true) (ws : List Jvm.Cond) (a1 : Addr) (k0 : ClassId) (x0 x1 : Int64) (h0 : Heap) (n0 : Nat) (Z0 : n0 ≤ h0.size) (V0 : Arv Z h0 a1 k0 .long (2 : Int32) [(.long x0), (.long x1)] (.long (0 : Int64))) :
    MetFree l own_y_307 (head1 (Jvm.Cond.code own_y_307 jdk_65_method_138_code 3 (some (.array .long)) :: ws) ({ frames := 2, cells := 1, slots := 4, locals := 76 } : Room)) (fun a U => a = #[(.ref a1), (.int (0 : Int32)), (.int (4 : Int32))] ∧ Z.Warmed39 U.vm ∧ U.heap = h0) (fun _ _ _ _ _ => True) (fun _ U o U' => ∃ v L, o = .returned v ∧ QRJ Z x0 x1 h0 n0 v U'.heap L ∧ FrameEnd U o U' L ({ frames := 2, cells := 1, slots := 4, locals := 76 } : Room).cells ({ frames := 2, cells := 1, slots := 4, locals := 76 } : Room).slots) := by
  refine MetFree.of_bodySF (plainFor_of_name pn_187) hisR ?_
  intro p e s m args below meth c s₁ Bd hml0 hP hK
  obtain ⟨rfl, hZ, hh⟩ := hP
  have hx := Bd.exec
  have hby := Bd.bytes
  have hml : c.maxLocals = 3 := hml0
  have hown : s.vm.findClass "java/util/Arrays" = some m.cls := findClass_of_methodNamed Bd.named
  have hnm := (name_of_methodNamed Bd.named Bd.method).1
  have X0 : Stand p l e ({ frames := 2, cells := 1, slots := 4, locals := 76 } : Room) s m #[(.ref a1), (.int (0 : Int32)), (.int (4 : Int32))] below meth c s₁ [] 0 0 := Stand.of_body Bd
  have e0 : s₁.heap = h0 := by rw [← hh, Bd.state]; rfl
  have N0 := Fr.nil n0
  have pre0 : ∀ t, Steps p.tables e below (s₁.setTop (mkF m 0 #[.val (.ref a1), .val (.int (0 : Int32)), .val (.int (4 : Int32))] [])) t → Steps p.tables e below (s₁.setTop (entryFrame m #[(.ref a1), (.int (0 : Int32)), (.int (4 : Int32))] 3)) t := fun t k => castTop (ef_308 m a1 (0 : Int32) (4 : Int32)) k
  obtain ⟨cl627, A627, q627, S627, M627, H627, J627⟩ := id V0
  obtain ⟨_, _, ⟨T628, L628, k628, n628⟩, -, X628, ⟨Lc628, hQ628, l628, y628, z628⟩, st628⟩ := Jvm.LawKit.callS X0 hx (y := own_y_280) hown (mvT hZ (own_w hw 62 rfl)) (mvT hZ (own_w hw 63 rfl)) (mvT hZ (own_w hw 47 rfl)) (mvT hZ (own_w hw 64 rfl)) (by decide) (backOf (W := 0) (rmRJ0 l Z a0 hw [] a1 k0 x0 x1 h0 n0 Z0 V0) hZ (own_w hw 64 rfl) (own_w hw 47 rfl) (by decide) (by decide)) (g := (mkF m 13 #[.val (.ref a1), .val (.int (0 : Int32)), .val (.int (4 : Int32))] [(.int (4 : Int32)), (.int (0 : Int32)), (.ref a1)])) rfl (by rw [hml]; rfl) (argsL := [(.ref a1), (.int (0 : Int32)), (.int (4 : Int32))]) (rest := []) (lenOf pd_319 rfl) rfl (by show 2 * 0 + _ ≤ _; exact Nat.le_of_eq rfl) (hb hby d11_13) (fun _ _ => ⟨rfl, e0, (by decide : 0 + 1 ≤ _), (by decide : 0 + 4 ≤ _)⟩)
  dsimp only [Pt.U, Pt.locs, Pt.cells, Pt.slots] at X628 l628 y628 z628 st628 hQ628
  subst l628 y628 z628
  obtain ⟨r628, kc628, rfl, Nq628, K628, z628, G628, V628⟩ := hQ628
  have N628 := Fr.app N0 Nq628
  have pre629 : ∀ t, Steps p.tables e below (T628.setTop (mkF m 16 #[.val (.ref a1), .val (.int (0 : Int32)), .val (.int (4 : Int32))] [(.ref r628)])) t → Steps p.tables e below (s₁.setTop (entryFrame m #[(.ref a1), (.int (0 : Int32)), (.int (4 : Int32))] 3)) t := fun t kt => pre0 t (by
    show Steps p.tables e below (s₁.setTop (mkF m 0 #[.val (.ref a1), .val (.int (0 : Int32)), .val (.int (4 : Int32))] [])) _
    refine XS.iloadN X0.here hx rfl (hb hby d11_0) rfl ?_
    refine XS.ifNo X0.here hx rfl (hb hby d11_1) rfl ((if0 _ _).trans (teq (by decide : (0 : Int32) = (0 : Int32))).2) ?_
    refine XS.iloadN X0.here hx rfl (hb hby d11_4) rfl ?_
    refine XS.aloadN X0.here hx rfl (hb hby d11_5) rfl rfl ?_
    refine X0.arraylength hx (by rw [e0]; exact A627.1) (State.isArrayOf_alike hZ.alike A627.2.1) (g := (mkF m 6 #[.val (.ref a1), .val (.int (0 : Int32)), .val (.int (4 : Int32))] [(.ref a1), (.int (4 : Int32))])) rfl rfl (hb hby d11_6) _ ?_
    rw [len_of S627 M627]
    refine XS.icmpNo X0.here hx rfl (hb hby d11_7) rfl (feq (by decide : ¬ ((4 : Int32) = (2 : Int32)))).1 ?_
    refine XS.aloadN X0.here hx rfl (hb hby d11_10) rfl rfl ?_
    refine XS.iloadN X0.here hx rfl (hb hby d11_11) rfl ?_
    refine XS.iloadN X0.here hx rfl (hb hby d11_12) rfl ?_
    refine st628 _ ?_
    exact kt)
  exact own_retA X628 hx Bd.notSynchronized rfl Bd.returns rfl (hb hby d11_16) pre629 (show QRJ Z x0 x1 h0 n0 _ _ _ from ⟨r628, kc628, rfl, N628, K628, z628, G628, V628⟩) (by decide) (by decide)
abbrev own_y_321 : MethodName := (⟨"java/util/Arrays", "copyOfRangeInt", "([III)[I"⟩ : MethodName)
theorem ef_322 (m : MethodId) (x0 : Addr) (x1 : Int32) (x2 : Int32) : entryFrame m #[(.ref x0), (.int x1), (.int x2)] 5 = mkF m 0 #[.val (.ref x0), .val (.int x1), .val (.int x2), .unset, .unset] [] := by first | (simp [entryFrame, mkF, argsToLocals, Value.category]; done) | rfl
theorem d16_0 : decode jdk_65_method_137_code 0 = .ok (.iload_n 1, 1) := by decide +kernel
theorem d16_1 : decode jdk_65_method_137_code 1 = .ok (.iload_n 2, 1) := by decide +kernel
theorem d16_2 : decode jdk_65_method_137_code 2 = .ok (.invokestatic 343, 3) := by decide +kernel
theorem d16_5 : decode jdk_65_method_137_code 5 = .ok (.iload_n 2, 1) := by decide +kernel
theorem d16_6 : decode jdk_65_method_137_code 6 = .ok (.iload_n 1, 1) := by decide +kernel
theorem d16_7 : decode jdk_65_method_137_code 7 = .ok (.isub, 1) := by decide +kernel
theorem d16_8 : decode jdk_65_method_137_code 8 = .ok (.istore_n 3, 1) := by decide +kernel
theorem d16_9 : decode jdk_65_method_137_code 9 = .ok (.iload_n 3, 1) := by decide +kernel
theorem d16_10 : decode jdk_65_method_137_code 10 = .ok (.newarray .int, 2) := by decide +kernel
theorem d16_12 : decode jdk_65_method_137_code 12 = .ok (.astore 4, 2) := by decide +kernel
theorem d16_14 : decode jdk_65_method_137_code 14 = .ok (.aload_n 0, 1) := by decide +kernel
theorem d16_15 : decode jdk_65_method_137_code 15 = .ok (.iload_n 1, 1) := by decide +kernel
theorem d16_16 : decode jdk_65_method_137_code 16 = .ok (.aload 4, 2) := by decide +kernel
theorem d16_18 : decode jdk_65_method_137_code 18 = .ok (.iconst 0, 1) := by decide +kernel
theorem d16_19 : decode jdk_65_method_137_code 19 = .ok (.aload_n 0, 1) := by decide +kernel
theorem d16_20 : decode jdk_65_method_137_code 20 = .ok (.arraylength, 1) := by decide +kernel
theorem d16_21 : decode jdk_65_method_137_code 21 = .ok (.iload_n 1, 1) := by decide +kernel
theorem d16_22 : decode jdk_65_method_137_code 22 = .ok (.isub, 1) := by decide +kernel
theorem d16_23 : decode jdk_65_method_137_code 23 = .ok (.iload_n 3, 1) := by decide +kernel
theorem d16_24 : decode jdk_65_method_137_code 24 = .ok (.invokestatic 304, 3) := by decide +kernel
theorem d16_27 : decode jdk_65_method_137_code 27 = .ok (.invokestatic 150, 3) := by decide +kernel
theorem d16_30 : decode jdk_65_method_137_code 30 = .ok (.aload 4, 2) := by decide +kernel
theorem d16_32 : decode jdk_65_method_137_code 32 = .ok (.areturn, 1) := by decide +kernel
def QRI (Z : State) (x0 x1 : Int32) (h0 : Heap) (n0 : Nat) (v : Option Value) (h : Heap) (L : List Loc) : Prop := ∃ (r : Addr) (kc : ClassId), v = some (.ref r) ∧ Fr n0 L ∧ Keep h0 h [] ∧ h0.size ≤ r ∧ n0 ≤ r ∧ Arv Z h r kc .int (4 : Int32) [(.int x0), (.int x1), (.int (0 : Int32)), (.int (0 : Int32))] (.int (0 : Int32))
set_option maxRecDepth 65536 in
set_option maxHeartbeats 40000000 in
theorem rmRI0 (l : Launch) (Z : State) (a0 : Array Value) (hw : ∀ d ∈ tables_1, d.before a0 Z = true) (ws : List Jvm.Cond) (a1 : Addr) (k0 : ClassId) (x0 x1 : Int32) (h0 : Heap) (n0 : Nat) (Z0 : n0 ≤ h0.size) (V0 : Arv Z h0 a1 k0 .int (2 : Int32) [(.int x0), (.int x1)] (.int (0 : Int32))) :
    MetFree l own_y_321 (head1 (Jvm.Cond.code own_y_321 jdk_65_method_137_code 5 (some (.array .int)) :: ws) ({ frames := 1, cells := 1, slots := 4, locals := 60 } : Room)) (fun a U => a = #[(.ref a1), (.int (0 : Int32)), (.int (4 : Int32))] ∧ Z.Warmed39 U.vm ∧ U.heap = h0) (fun _ _ _ _ _ => True) (fun _ U o U' => ∃ v L, o = .returned v ∧ QRI Z x0 x1 h0 n0 v U'.heap L ∧ FrameEnd U o U' L ({ frames := 1, cells := 1, slots := 4, locals := 60 } : Room).cells ({ frames := 1, cells := 1, slots := 4, locals := 60 } : Room).slots) := by
  refine MetFree.of_bodySF (plainFor_of_name pn_187) hisR ?_
  intro p e s m args below meth c s₁ Bd hml0 hP hK
  obtain ⟨rfl, hZ, hh⟩ := hP
  have hx := Bd.exec
  have hby := Bd.bytes
  have hml : c.maxLocals = 5 := hml0
  have hown : s.vm.findClass "java/util/Arrays" = some m.cls := findClass_of_methodNamed Bd.named
  have hnm := (name_of_methodNamed Bd.named Bd.method).1
  have X0 : Stand p l e ({ frames := 1, cells := 1, slots := 4, locals := 60 } : Room) s m #[(.ref a1), (.int (0 : Int32)), (.int (4 : Int32))] below meth c s₁ [] 0 0 := Stand.of_body Bd
  have e0 : s₁.heap = h0 := by rw [← hh, Bd.state]; rfl
  have N0 := Fr.nil n0
  have pre0 : ∀ t, Steps p.tables e below (s₁.setTop (mkF m 0 #[.val (.ref a1), .val (.int (0 : Int32)), .val (.int (4 : Int32)), .unset, .unset] [])) t → Steps p.tables e below (s₁.setTop (entryFrame m #[(.ref a1), (.int (0 : Int32)), (.int (4 : Int32))] 5)) t := fun t k => castTop (ef_322 m a1 (0 : Int32) (4 : Int32)) k
  obtain ⟨_, _, ⟨T630, L630, k630, n630⟩, -, X630, ⟨Lc630, hQ630, l630, y630, z630⟩, st630⟩ := Jvm.LawKit.callS X0 hx (y := own_y_266) hown (mvT hZ (own_w hw 65 rfl)) (mvT hZ (own_w hw 66 rfl)) (mvT hZ (own_w hw 47 rfl)) (mvT hZ (own_w hw 67 rfl)) (by decide) (backOf (W := 0) (rmCL l Z a0 hw [] h0 n0 Z0) hZ (own_w hw 67 rfl) (own_w hw 47 rfl) (by decide) (by decide)) (g := (mkF m 2 #[.val (.ref a1), .val (.int (0 : Int32)), .val (.int (4 : Int32)), .unset, .unset] [(.int (4 : Int32)), (.int (0 : Int32))])) rfl (by rw [hml]; rfl) (argsL := [(.int (0 : Int32)), (.int (4 : Int32))]) (rest := []) (lenOf pd_285 rfl) rfl (by show 2 * 0 + _ ≤ _; exact Nat.le_of_eq rfl) (hb hby d16_2) (fun _ _ => ⟨rfl, e0, (by decide : 0 + 0 ≤ _), (by decide : 0 + 0 ≤ _)⟩)
  dsimp only [Pt.U, Pt.locs, Pt.cells, Pt.slots] at X630 l630 y630 z630 st630 hQ630
  subst l630 y630 z630
  obtain ⟨rfl, Nq630, e630⟩ := hQ630
  have N630 := Fr.app N0 Nq630
  obtain ⟨T631, h631, k631, X631, e631, E631, A631, st631⟩ := newP X630 hx hZ (own_w hw 15 rfl) e630 (g := (mkF m 10 #[.val (.ref a1), .val (.int (0 : Int32)), .val (.int (4 : Int32)), .val (.int (4 : Int32)), .unset] [(.int (4 : Int32))])) rfl (hb hby d16_10) rfl (by decide) (cap := 4) (by decide) (by decide) (by decide) (by decide)
  obtain ⟨b631, g631⟩ : ∃ z, z = h0.size := ⟨_, rfl⟩
  rw [← g631] at A631 st631
  have G631 : n0 ≤ b631 := Nat.le_trans Z0 (Nat.le_of_eq g631.symm)
  have sz631 : h0.size ≤ b631 := Nat.le_trans (Keep.refl h0 []).1 (Nat.le_of_eq g631.symm)
  have ne632 : a1 ≠ b631 := Nat.ne_of_lt (Nat.lt_of_lt_of_le V0.lt (Nat.le_of_eq g631.symm))
  have c633 := V0.ext E631
  have c634 := (Keep.refl h0 []).ext E631
  have z635 : n0 ≤ h631.size := Nat.le_trans Z0 E631.1
  have V631 : Arv Z h631 b631 k631 .int (4 : Int32) [(.int (0 : Int32)), (.int (0 : Int32)), (.int (0 : Int32)), (.int (0 : Int32))] (.int (0 : Int32)) := (Arv.new A631 (by decide)).pad (pad_rep [] (.int (0 : Int32)) 4)
  obtain ⟨cl636, A636, q636, S636, M636, H636, J636⟩ := id c633
  obtain ⟨_, _, ⟨T637, L637, k637, n637⟩, -, X637, ⟨Lc637, hQ637, l637, y637, z637⟩, st637⟩ := Jvm.LawKit.callS X631 hx (y := own_y_272) hown (mvT hZ (own_w hw 68 rfl)) (mvT hZ (own_w hw 69 rfl)) (mvT hZ (own_w hw 70 rfl)) (mvT hZ (own_w hw 71 rfl)) (by decide) (backOf (W := 4) (rmMin l Z a0 hw [] h631 n0 z635) hZ (own_w hw 71 rfl) (own_w hw 70 rfl) (by decide) (by decide)) (g := (mkF m 24 #[.val (.ref a1), .val (.int (0 : Int32)), .val (.int (4 : Int32)), .val (.int (4 : Int32)), .val (.ref b631)] [(.int (4 : Int32)), (.int (2 : Int32)), (.int (0 : Int32)), (.ref b631), (.int (0 : Int32)), (.ref a1)])) rfl (by rw [hml]; rfl) (argsL := [(.int (2 : Int32)), (.int (4 : Int32))]) (rest := [(.int (0 : Int32)), (.ref b631), (.int (0 : Int32)), (.ref a1)]) (lenOf pd_303 rfl) rfl (by show 2 * 0 + _ ≤ _; exact Nat.le_of_eq rfl) (hb hby d16_24) (fun _ _ => ⟨rfl, e631, (by decide : 1 + 0 ≤ _), (by decide : 4 + 0 ≤ _)⟩)
  dsimp only [Pt.U, Pt.locs, Pt.cells, Pt.slots] at X637 l637 y637 z637 st637 hQ637
  subst l637 y637 z637
  obtain ⟨rfl, Nq637, e637⟩ := hQ637
  have N637 := Fr.app N630 Nq637
  obtain ⟨T638, h638, L638, X638, e638, N638, K638, U638, st638⟩ := cpA X637 hx hZ hown (own_w hw 72 rfl) (own_w hw 75 rfl) (own_w hw 73 rfl) (own_w hw 74 rfl) e637 (us := [(.int x0), (.int x1)]) c633 V631 (Or.inl ⟨rfl, rfl⟩) (by decide) (by decide) (by decide) (by decide) (by decide) rfl (Nat.le_of_ble_eq_true rfl) N637 G631 (g := (mkF m 27 #[.val (.ref a1), .val (.int (0 : Int32)), .val (.int (4 : Int32)), .val (.int (4 : Int32)), .val (.ref b631)] [(.int (2 : Int32)), (.int (0 : Int32)), (.ref b631), (.int (0 : Int32)), (.ref a1)])) rfl (by rw [hml]; rfl) rfl (hb hby d16_27) (by decide) (W := 0) (by show 2 * 0 + _ ≤ _; exact Nat.le_of_eq rfl) (by decide)
  have V638 : Arv Z h638 b631 k631 .int (4 : Int32) [(.int x0), (.int x1), (.int (0 : Int32)), (.int (0 : Int32))] (.int (0 : Int32)) := U638
  have z639 : n0 ≤ h638.size := Nat.le_trans z635 K638.1
  have c640 := c633.keep K638 (ninS ne632 nin0)
  have c641 := c634.trans K638 (allS (Or.inr sz631) all0)
  have pre643 : ∀ t, Steps p.tables e below (T638.setTop (mkF m 32 #[.val (.ref a1), .val (.int (0 : Int32)), .val (.int (4 : Int32)), .val (.int (4 : Int32)), .val (.ref b631)] [(.ref b631)])) t → Steps p.tables e below (s₁.setTop (entryFrame m #[(.ref a1), (.int (0 : Int32)), (.int (4 : Int32))] 5)) t := fun t kt => pre0 t (by
    show Steps p.tables e below (s₁.setTop (mkF m 0 #[.val (.ref a1), .val (.int (0 : Int32)), .val (.int (4 : Int32)), .unset, .unset] [])) _
    refine XS.iloadN X0.here hx rfl (hb hby d16_0) rfl ?_
    refine XS.iloadN X0.here hx rfl (hb hby d16_1) rfl ?_
    refine st630 _ ?_
    refine XS.iloadN X630.here hx rfl (hb hby d16_5) rfl ?_
    refine XS.iloadN X630.here hx rfl (hb hby d16_6) rfl ?_
    refine XS.isub X630.here hx rfl (hb hby d16_7) rfl ?_
    refine XS.istoreN X630.here hx rfl (hb hby d16_8) rfl (l' := #[.val (.ref a1), .val (.int (0 : Int32)), .val (.int (4 : Int32)), .val (.int (4 : Int32)), .unset]) rfl ?_
    refine XS.iloadN X630.here hx rfl (hb hby d16_9) rfl ?_
    refine st631 _ ?_
    refine XS.astore X631.here hx rfl (hb hby d16_12) rfl rfl (l' := #[.val (.ref a1), .val (.int (0 : Int32)), .val (.int (4 : Int32)), .val (.int (4 : Int32)), .val (.ref b631)]) rfl ?_
    refine XS.aloadN X631.here hx rfl (hb hby d16_14) rfl rfl ?_
    refine XS.iloadN X631.here hx rfl (hb hby d16_15) rfl ?_
    show Steps p.tables e below (T631.setTop (mkF m 16 #[.val (.ref a1), .val (.int (0 : Int32)), .val (.int (4 : Int32)), .val (.int (4 : Int32)), .val (.ref b631)] [(.int (0 : Int32)), (.ref a1)])) _
    refine XS.aload X631.here hx rfl (hb hby d16_16) rfl rfl ?_
    refine XS.iconst X631.here hx rfl (hb hby d16_18) ?_
    refine XS.aloadN X631.here hx rfl (hb hby d16_19) rfl rfl ?_
    refine X631.arraylength hx (by rw [e631]; exact A636.1) (State.isArrayOf_alike hZ.alike A636.2.1) (g := (mkF m 20 #[.val (.ref a1), .val (.int (0 : Int32)), .val (.int (4 : Int32)), .val (.int (4 : Int32)), .val (.ref b631)] [(.ref a1), (.int (0 : Int32)), (.ref b631), (.int (0 : Int32)), (.ref a1)])) rfl rfl (hb hby d16_20) _ ?_
    rw [len_of S636 M636]
    refine XS.iloadN X631.here hx rfl (hb hby d16_21) rfl ?_
    refine XS.isub X631.here hx rfl (hb hby d16_22) rfl ?_
    refine XS.iloadN X631.here hx rfl (hb hby d16_23) rfl ?_
    refine st637 _ ?_
    refine st638 _ ?_
    refine XS.aload X638.here hx rfl (hb hby d16_30) rfl rfl ?_
    exact kt)
  have hQ : QRI Z x0 x1 h0 n0 (some (.ref b631)) h638 _ := ⟨b631, k631, rfl, N638, c641, sz631, G631, V638⟩
  exact own_retA X638 hx Bd.notSynchronized rfl Bd.returns rfl (hb hby d16_32) pre643 (show QRI Z x0 x1 h0 n0 _ _ _ from (by rw [e638]; exact hQ)) (by decide) (by decide)
abbrev own_y_346 : MethodName := (⟨"java/util/Arrays", "copyOfRange", "([III)[I"⟩ : MethodName)
theorem ef_347 (m : MethodId) (x0 : Addr) (x1 : Int32) (x2 : Int32) : entryFrame m #[(.ref x0), (.int x1), (.int x2)] 3 = mkF m 0 #[.val (.ref x0), .val (.int x1), .val (.int x2)] [] := by first | (simp [entryFrame, mkF, argsToLocals, Value.category]; done) | rfl
theorem d15_0 : decode jdk_65_method_136_code 0 = .ok (.iload_n 1, 1) := by decide +kernel
theorem d15_1 : decode jdk_65_method_136_code 1 = .ok (.ifCond .ne 9, 3) := by decide +kernel
theorem d15_4 : decode jdk_65_method_136_code 4 = .ok (.iload_n 2, 1) := by decide +kernel
theorem d15_5 : decode jdk_65_method_136_code 5 = .ok (.aload_n 0, 1) := by decide +kernel
theorem d15_6 : decode jdk_65_method_136_code 6 = .ok (.arraylength, 1) := by decide +kernel
theorem d15_7 : decode jdk_65_method_136_code 7 = .ok (.if_icmp .eq 10, 3) := by decide +kernel
theorem d15_10 : decode jdk_65_method_136_code 10 = .ok (.aload_n 0, 1) := by decide +kernel
theorem d15_11 : decode jdk_65_method_136_code 11 = .ok (.iload_n 1, 1) := by decide +kernel
theorem d15_12 : decode jdk_65_method_136_code 12 = .ok (.iload_n 2, 1) := by decide +kernel
theorem d15_13 : decode jdk_65_method_136_code 13 = .ok (.invokestatic 351, 3) := by decide +kernel
theorem pd_358 : parseMethodDescriptor "([III)[I" = some ⟨[(.array .int), .int, .int], some (.array .int)⟩ := by decide +kernel
theorem d15_16 : decode jdk_65_method_136_code 16 = .ok (.areturn, 1) := by decide +kernel
set_option maxRecDepth 65536 in
set_option maxHeartbeats 40000000 in
theorem rmRI (l : Launch) (Z : State) (a0 : Array Value) (hw : ∀ d ∈ tables_1, d.before a0 Z = true) (ws : List Jvm.Cond) (a1 : Addr) (k0 : ClassId) (x0 x1 : Int32) (h0 : Heap) (n0 : Nat) (Z0 : n0 ≤ h0.size) (V0 : Arv Z h0 a1 k0 .int (2 : Int32) [(.int x0), (.int x1)] (.int (0 : Int32))) :
    MetFree l own_y_346 (head1 (Jvm.Cond.code own_y_346 jdk_65_method_136_code 3 (some (.array .int)) :: ws) ({ frames := 2, cells := 1, slots := 4, locals := 76 } : Room)) (fun a U => a = #[(.ref a1), (.int (0 : Int32)), (.int (4 : Int32))] ∧ Z.Warmed39 U.vm ∧ U.heap = h0) (fun _ _ _ _ _ => True) (fun _ U o U' => ∃ v L, o = .returned v ∧ QRI Z x0 x1 h0 n0 v U'.heap L ∧ FrameEnd U o U' L ({ frames := 2, cells := 1, slots := 4, locals := 76 } : Room).cells ({ frames := 2, cells := 1, slots := 4, locals := 76 } : Room).slots) := by
  refine MetFree.of_bodySF (plainFor_of_name pn_187) hisR ?_
  intro p e s m args below meth c s₁ Bd hml0 hP hK
  obtain ⟨rfl, hZ, hh⟩ := hP
  have hx := Bd.exec
  have hby := Bd.bytes
  have hml : c.maxLocals = 3 := hml0
  have hown : s.vm.findClass "java/util/Arrays" = some m.cls := findClass_of_methodNamed Bd.named
  have hnm := (name_of_methodNamed Bd.named Bd.method).1
  have X0 : Stand p l e ({ frames := 2, cells := 1, slots := 4, locals := 76 } : Room) s m #[(.ref a1), (.int (0 : Int32)), (.int (4 : Int32))] below meth c s₁ [] 0 0 := Stand.of_body Bd
  have e0 : s₁.heap = h0 := by rw [← hh, Bd.state]; rfl
  have N0 := Fr.nil n0
  have pre0 : ∀ t, Steps p.tables e below (s₁.setTop (mkF m 0 #[.val (.ref a1), .val (.int (0 : Int32)), .val (.int (4 : Int32))] [])) t → Steps p.tables e below (s₁.setTop (entryFrame m #[(.ref a1), (.int (0 : Int32)), (.int (4 : Int32))] 3)) t := fun t k => castTop (ef_347 m a1 (0 : Int32) (4 : Int32)) k
  obtain ⟨cl644, A644, q644, S644, M644, H644, J644⟩ := id V0
  obtain ⟨_, _, ⟨T645, L645, k645, n645⟩, -, X645, ⟨Lc645, hQ645, l645, y645, z645⟩, st645⟩ := Jvm.LawKit.callS X0 hx (y := own_y_321) hown (mvT hZ (own_w hw 79 rfl)) (mvT hZ (own_w hw 80 rfl)) (mvT hZ (own_w hw 47 rfl)) (mvT hZ (own_w hw 81 rfl)) (by decide) (backOf (W := 0) (rmRI0 l Z a0 hw [] a1 k0 x0 x1 h0 n0 Z0 V0) hZ (own_w hw 81 rfl) (own_w hw 47 rfl) (by decide) (by decide)) (g := (mkF m 13 #[.val (.ref a1), .val (.int (0 : Int32)), .val (.int (4 : Int32))] [(.int (4 : Int32)), (.int (0 : Int32)), (.ref a1)])) rfl (by rw [hml]; rfl) (argsL := [(.ref a1), (.int (0 : Int32)), (.int (4 : Int32))]) (rest := []) (lenOf pd_358 rfl) rfl (by show 2 * 0 + _ ≤ _; exact Nat.le_of_eq rfl) (hb hby d15_13) (fun _ _ => ⟨rfl, e0, (by decide : 0 + 1 ≤ _), (by decide : 0 + 4 ≤ _)⟩)
  dsimp only [Pt.U, Pt.locs, Pt.cells, Pt.slots] at X645 l645 y645 z645 st645 hQ645
  subst l645 y645 z645
  obtain ⟨r645, kc645, rfl, Nq645, K645, z645, G645, V645⟩ := hQ645
  have N645 := Fr.app N0 Nq645
  have pre646 : ∀ t, Steps p.tables e below (T645.setTop (mkF m 16 #[.val (.ref a1), .val (.int (0 : Int32)), .val (.int (4 : Int32))] [(.ref r645)])) t → Steps p.tables e below (s₁.setTop (entryFrame m #[(.ref a1), (.int (0 : Int32)), (.int (4 : Int32))] 3)) t := fun t kt => pre0 t (by
    show Steps p.tables e below (s₁.setTop (mkF m 0 #[.val (.ref a1), .val (.int (0 : Int32)), .val (.int (4 : Int32))] [])) _
    refine XS.iloadN X0.here hx rfl (hb hby d15_0) rfl ?_
    refine XS.ifNo X0.here hx rfl (hb hby d15_1) rfl ((if0 _ _).trans (teq (by decide : (0 : Int32) = (0 : Int32))).2) ?_
    refine XS.iloadN X0.here hx rfl (hb hby d15_4) rfl ?_
    refine XS.aloadN X0.here hx rfl (hb hby d15_5) rfl rfl ?_
    refine X0.arraylength hx (by rw [e0]; exact A644.1) (State.isArrayOf_alike hZ.alike A644.2.1) (g := (mkF m 6 #[.val (.ref a1), .val (.int (0 : Int32)), .val (.int (4 : Int32))] [(.ref a1), (.int (4 : Int32))])) rfl rfl (hb hby d15_6) _ ?_
    rw [len_of S644 M644]
    refine XS.icmpNo X0.here hx rfl (hb hby d15_7) rfl (feq (by decide : ¬ ((4 : Int32) = (2 : Int32)))).1 ?_
    refine XS.aloadN X0.here hx rfl (hb hby d15_10) rfl rfl ?_
    refine XS.iloadN X0.here hx rfl (hb hby d15_11) rfl ?_
    refine XS.iloadN X0.here hx rfl (hb hby d15_12) rfl ?_
    refine st645 _ ?_
    exact kt)
  exact own_retA X645 hx Bd.notSynchronized rfl Bd.returns rfl (hb hby d15_16) pre646 (show QRI Z x0 x1 h0 n0 _ _ _ from ⟨r645, kc645, rfl, N645, K645, z645, G645, V645⟩) (by decide) (by decide)
theorem d10_0 : decode prog_25_method_8_code 0 = .ok (.aload_n 0, 1) := by decide +kernel
theorem d10_1 : decode prog_25_method_8_code 1 = .ok (.getfield 21, 3) := by decide +kernel
theorem d10_4 : decode prog_25_method_8_code 4 = .ok (.aload_n 0, 1) := by decide +kernel
theorem d10_5 : decode prog_25_method_8_code 5 = .ok (.getfield 17, 3) := by decide +kernel
theorem d10_8 : decode prog_25_method_8_code 8 = .ok (.isub, 1) := by decide +kernel
theorem d10_9 : decode prog_25_method_8_code 9 = .ok (.istore_n 1, 1) := by decide +kernel
theorem d10_10 : decode prog_25_method_8_code 10 = .ok (.iload_n 1, 1) := by decide +kernel
theorem d10_11 : decode prog_25_method_8_code 11 = .ok (.iconst 4, 1) := by decide +kernel
theorem d10_12 : decode prog_25_method_8_code 12 = .ok (.imul, 1) := by decide +kernel
theorem d10_13 : decode prog_25_method_8_code 13 = .ok (.aload_n 0, 1) := by decide +kernel
theorem d10_14 : decode prog_25_method_8_code 14 = .ok (.getfield 9, 3) := by decide +kernel
theorem d10_17 : decode prog_25_method_8_code 17 = .ok (.arraylength, 1) := by decide +kernel
theorem d10_18 : decode prog_25_method_8_code 18 = .ok (.iconst 3, 1) := by decide +kernel
theorem d10_19 : decode prog_25_method_8_code 19 = .ok (.imul, 1) := by decide +kernel
theorem d10_20 : decode prog_25_method_8_code 20 = .ok (.if_icmp .le 60, 3) := by decide +kernel
theorem d10_23 : decode prog_25_method_8_code 23 = .ok (.aload_n 0, 1) := by decide +kernel
theorem d10_24 : decode prog_25_method_8_code 24 = .ok (.aload_n 0, 1) := by decide +kernel
theorem d10_25 : decode prog_25_method_8_code 25 = .ok (.getfield 9, 3) := by decide +kernel
theorem d10_28 : decode prog_25_method_8_code 28 = .ok (.aload_n 0, 1) := by decide +kernel
theorem d10_29 : decode prog_25_method_8_code 29 = .ok (.getfield 17, 3) := by decide +kernel
theorem d10_32 : decode prog_25_method_8_code 32 = .ok (.aload_n 0, 1) := by decide +kernel
theorem d10_33 : decode prog_25_method_8_code 33 = .ok (.getfield 17, 3) := by decide +kernel
theorem d10_36 : decode prog_25_method_8_code 36 = .ok (.aload_n 0, 1) := by decide +kernel
theorem d10_37 : decode prog_25_method_8_code 37 = .ok (.getfield 9, 3) := by decide +kernel
theorem d10_40 : decode prog_25_method_8_code 40 = .ok (.arraylength, 1) := by decide +kernel
theorem d10_41 : decode prog_25_method_8_code 41 = .ok (.iconst 2, 1) := by decide +kernel
theorem d10_42 : decode prog_25_method_8_code 42 = .ok (.imul, 1) := by decide +kernel
theorem d10_43 : decode prog_25_method_8_code 43 = .ok (.iadd, 1) := by decide +kernel
theorem d10_44 : decode prog_25_method_8_code 44 = .ok (.invokestatic 40, 3) := by decide +kernel
theorem d10_47 : decode prog_25_method_8_code 47 = .ok (.putfield 9, 3) := by decide +kernel
theorem d10_50 : decode prog_25_method_8_code 50 = .ok (.aload_n 0, 1) := by decide +kernel
theorem d10_51 : decode prog_25_method_8_code 51 = .ok (.aload_n 0, 1) := by decide +kernel
theorem d10_52 : decode prog_25_method_8_code 52 = .ok (.getfield 13, 3) := by decide +kernel
theorem d10_55 : decode prog_25_method_8_code 55 = .ok (.aload_n 0, 1) := by decide +kernel
theorem d10_56 : decode prog_25_method_8_code 56 = .ok (.getfield 17, 3) := by decide +kernel
theorem d10_59 : decode prog_25_method_8_code 59 = .ok (.aload_n 0, 1) := by decide +kernel
theorem d10_60 : decode prog_25_method_8_code 60 = .ok (.getfield 17, 3) := by decide +kernel
theorem d10_63 : decode prog_25_method_8_code 63 = .ok (.aload_n 0, 1) := by decide +kernel
theorem d10_64 : decode prog_25_method_8_code 64 = .ok (.getfield 13, 3) := by decide +kernel
theorem d10_67 : decode prog_25_method_8_code 67 = .ok (.arraylength, 1) := by decide +kernel
theorem d10_68 : decode prog_25_method_8_code 68 = .ok (.iconst 2, 1) := by decide +kernel
theorem d10_69 : decode prog_25_method_8_code 69 = .ok (.imul, 1) := by decide +kernel
theorem d10_70 : decode prog_25_method_8_code 70 = .ok (.iadd, 1) := by decide +kernel
theorem d10_71 : decode prog_25_method_8_code 71 = .ok (.invokestatic 44, 3) := by decide +kernel
theorem d10_74 : decode prog_25_method_8_code 74 = .ok (.putfield 13, 3) := by decide +kernel
theorem d10_77 : decode prog_25_method_8_code 77 = .ok (.goto 37, 3) := by decide +kernel
theorem d10_114 : decode prog_25_method_8_code 114 = .ok (.aload_n 0, 1) := by decide +kernel
theorem d10_115 : decode prog_25_method_8_code 115 = .ok (.iconst 0, 1) := by decide +kernel
theorem d10_116 : decode prog_25_method_8_code 116 = .ok (.putfield 17, 3) := by decide +kernel
theorem d10_119 : decode prog_25_method_8_code 119 = .ok (.aload_n 0, 1) := by decide +kernel
theorem d10_120 : decode prog_25_method_8_code 120 = .ok (.iload_n 1, 1) := by decide +kernel
theorem d10_121 : decode prog_25_method_8_code 121 = .ok (.putfield 21, 3) := by decide +kernel
theorem d10_124 : decode prog_25_method_8_code 124 = .ok (.return_, 1) := by decide +kernel
abbrev own_y_413 : MethodName := (⟨"com/example/viral_counter/viralcounter/PostTrend", "makeRoom", "()V"⟩ : MethodName)
theorem ef_414 (m : MethodId) (x0 : Addr) : entryFrame m #[(.ref x0)] 2 = mkF m 0 #[.val (.ref x0), .unset] [] := by first | (simp [entryFrame, mkF, argsToLocals, Value.category]; done) | rfl
def QRoom022 (Z : State) (a1 : Addr)  (x0 : Int64) (x1 : Int64) (y0 : Int32) (y1 : Int32) (b : Int32) (h0 : Heap) (n0 : Nat) (v : Option Value) (h : Heap) (L : List Loc) : Prop := v = none ∧ Fr n0 L ∧ h0.size ≤ h.size ∧ PT Z h n0 a1 (0 : Int32) (2 : Int32) (4 : Int32) [(.long x0), (.long x1), (.long (0 : Int64)), (.long (0 : Int64))] [(.int y0), (.int y1), (.int (0 : Int32)), (.int (0 : Int32))] b
set_option maxRecDepth 65536 in
set_option maxHeartbeats 40000000 in
theorem rmRoom022 (l : Launch) (Z : State) (a0 : Array Value) (hw : ∀ d ∈ tables_1, d.before a0 Z = true) (ws : List Jvm.Cond) (a1 : Addr)  (x0 : Int64) (x1 : Int64) (y0 : Int32) (y1 : Int32) (b : Int32) (h0 : Heap) (n0 : Nat) (Z0 : n0 ≤ h0.size) (P0 : PT Z h0 n0 a1 (0 : Int32) (2 : Int32) (2 : Int32) [(.long x0), (.long x1)] [(.int y0), (.int y1)] b) :
    MetFree l own_y_413 (head1 (Jvm.Cond.code own_y_413 prog_25_method_8_code 2 none :: ws) ({ frames := 3, cells := 2, slots := 8, locals := 91 } : Room)) (fun a U => a = #[(.ref a1)] ∧ Z.Warmed39 U.vm ∧ U.heap = h0) (fun _ _ _ _ _ => True) (fun _ U o U' => ∃ v L, o = .returned v ∧ QRoom022 Z a1 x0 x1 y0 y1 b h0 n0 v U'.heap L ∧ FrameEnd U o U' L ({ frames := 3, cells := 2, slots := 8, locals := 91 } : Room).cells ({ frames := 3, cells := 2, slots := 8, locals := 91 } : Room).slots) := by
  refine MetFree.of_bodySF (plainFor_of_name pn_2) hisR ?_
  intro p e s m args below meth c s₁ Bd hml0 hP hK
  obtain ⟨rfl, hZ, hh⟩ := hP
  have hx := Bd.exec
  have hby := Bd.bytes
  have hml : c.maxLocals = 2 := hml0
  have hown : s.vm.findClass "com/example/viral_counter/viralcounter/PostTrend" = some m.cls := findClass_of_methodNamed Bd.named
  have hnm := (name_of_methodNamed Bd.named Bd.method).1
  have X0 : Stand p l e ({ frames := 3, cells := 2, slots := 8, locals := 91 } : Room) s m #[(.ref a1)] below meth c s₁ [] 0 0 := Stand.of_body Bd
  have e0 : s₁.heap = h0 := by rw [← hh, Bd.state]; rfl
  have N0 := Fr.nil n0
  have pre0 : ∀ t, Steps p.tables e below (s₁.setTop (mkF m 0 #[.val (.ref a1), .unset] [])) t → Steps p.tables e below (s₁.setTop (entryFrame m #[(.ref a1)] 2)) t := fun t k => castTop (ef_414 m a1) k
  obtain ⟨am647, ac647, km647, kc647, E647, Fm647, Fc647, Ff647, Fe647, Fb647, Vm647, Vc647, Ga647, Gm647, Gc647, n1647, n2647, n3647⟩ := id P0
  have hz0 : h0.size ≤ h0.size := Nat.le_refl _
  obtain ⟨T648, X648, e648, st648⟩ := getF X0 hx hZ hown (host := "") (Or.inl (own_w hw 25 rfl)) Via.refl e0 Fe647 (g := (mkF m 1 #[.val (.ref a1), .unset] [(.ref a1)])) rfl rfl (hb hby d10_1)
  obtain ⟨T649, X649, e649, st649⟩ := getF X648 hx hZ hown (host := "") (Or.inl (own_w hw 23 rfl)) Via.refl e648 Ff647 (g := (mkF m 5 #[.val (.ref a1), .unset] [(.ref a1), (.int (2 : Int32))])) rfl rfl (hb hby d10_5)
  obtain ⟨T650, X650, e650, st650⟩ := getF X649 hx hZ hown (host := "") (Or.inl (own_w hw 13 rfl)) Via.refl e649 Fm647 (g := (mkF m 14 #[.val (.ref a1), .val (.int (2 : Int32))] [(.ref a1), (.int (8 : Int32))])) rfl rfl (hb hby d10_14)
  obtain ⟨cl651, A651, q651, S651, M651, H651, J651⟩ := id Vm647
  obtain ⟨T652, X652, e652, st652⟩ := getF X650 hx hZ hown (host := "") (Or.inl (own_w hw 13 rfl)) Via.refl e650 Fm647 (g := (mkF m 25 #[.val (.ref a1), .val (.int (2 : Int32))] [(.ref a1), (.ref a1)])) rfl rfl (hb hby d10_25)
  obtain ⟨T653, X653, e653, st653⟩ := getF X652 hx hZ hown (host := "") (Or.inl (own_w hw 23 rfl)) Via.refl e652 Ff647 (g := (mkF m 29 #[.val (.ref a1), .val (.int (2 : Int32))] [(.ref a1), (.ref am647), (.ref a1)])) rfl rfl (hb hby d10_29)
  obtain ⟨T654, X654, e654, st654⟩ := getF X653 hx hZ hown (host := "") (Or.inl (own_w hw 23 rfl)) Via.refl e653 Ff647 (g := (mkF m 33 #[.val (.ref a1), .val (.int (2 : Int32))] [(.ref a1), (.int (0 : Int32)), (.ref am647), (.ref a1)])) rfl rfl (hb hby d10_33)
  obtain ⟨T655, X655, e655, st655⟩ := getF X654 hx hZ hown (host := "") (Or.inl (own_w hw 13 rfl)) Via.refl e654 Fm647 (g := (mkF m 37 #[.val (.ref a1), .val (.int (2 : Int32))] [(.ref a1), (.int (0 : Int32)), (.int (0 : Int32)), (.ref am647), (.ref a1)])) rfl rfl (hb hby d10_37)
  obtain ⟨cl656, A656, q656, S656, M656, H656, J656⟩ := id Vm647
  obtain ⟨_, _, ⟨T657, L657, k657, n657⟩, -, X657, ⟨Lc657, hQ657, l657, y657, z657⟩, st657⟩ := Jvm.LawKit.callS X655 hx (y := own_y_307) hown (mvT hZ (own_w hw 59 rfl)) (mvT hZ (own_w hw 60 rfl)) (mvT hZ (own_w hw 47 rfl)) (mvT hZ (own_w hw 61 rfl)) (by decide) (backOf (W := 1) (rmRJ l Z a0 hw [] am647 km647 x0 x1 h0 n0 Z0 Vm647) hZ (own_w hw 61 rfl) (own_w hw 47 rfl) (by decide) (by decide)) (g := (mkF m 44 #[.val (.ref a1), .val (.int (2 : Int32))] [(.int (4 : Int32)), (.int (0 : Int32)), (.ref am647), (.ref a1)])) rfl (by rw [hml]; rfl) (argsL := [(.ref am647), (.int (0 : Int32)), (.int (4 : Int32))]) (rest := [(.ref a1)]) (lenOf pd_319 rfl) rfl (by show 2 * 0 + _ ≤ _; exact Nat.le_of_eq rfl) (hb hby d10_44) (fun _ _ => ⟨rfl, e655, (by decide : 0 + 1 ≤ _), (by decide : 0 + 4 ≤ _)⟩)
  dsimp only [Pt.U, Pt.locs, Pt.cells, Pt.slots] at X657 l657 y657 z657 st657 hQ657
  subst l657 y657 z657
  obtain ⟨r657, kc657, rfl, Nq657, K657, z657, G657, V657⟩ := hQ657
  have N657 := Fr.app N0 Nq657
  have ne658 : a1 ≠ r657 := Nat.ne_of_lt (Nat.lt_of_lt_of_le E647.lt z657)
  have ne659 : am647 ≠ r657 := Nat.ne_of_lt (Nat.lt_of_lt_of_le Vm647.lt z657)
  have ne660 : ac647 ≠ r657 := Nat.ne_of_lt (Nat.lt_of_lt_of_le Vc647.lt z657)
  have z661 : n0 ≤ T657.heap.size := Nat.le_trans Z0 K657.1
  have c662 := E647.keep K657
  have c663 := Fm647.keep K657 nin0
  have c664 := Fc647.keep K657 nin0
  have c665 := Ff647.keep K657 nin0
  have c666 := Fe647.keep K657 nin0
  have c667 := Fb647.keep K657 nin0
  have c668 := Vm647.keep K657 nin0
  have c669 := Vc647.keep K657 nin0
  obtain ⟨T670, h670, X670, e670, W670, st670⟩ := putF X657 hx hZ hown (host := "") (Or.inl (own_w hw 13 rfl)) Via.refl rfl c663 c662 (Or.inl (own_w hw 14 rfl)) (own_w hw 4 rfl) (ty := (.array .long)) (by decide) rfl rfl (g := (mkF m 47 #[.val (.ref a1), .val (.int (2 : Int32))] [(.ref r657), (.ref a1)])) rfl rfl (hb hby d10_47)
  have Fw670 := c663.same W670
  have N670 := Fr.snoc X670 N657 Ga647
  have z671 : n0 ≤ h670.size := Nat.le_trans z661 (Keep.of_wr W670).1
  have c672 := c662.wr W670
  have c674 := c664.other W670 (Or.inr (own_sn_9 hw))
  have c675 := c665.other W670 (Or.inr (own_sn_10 hw))
  have c676 := c666.other W670 (Or.inr (own_sn_11 hw))
  have c677 := c667.other W670 (Or.inr (own_sn_12 hw))
  have c678 := c668.other W670 (Ne.symm n1647)
  have c679 := c669.other W670 (Ne.symm n2647)
  have c680 := V657.other W670 (Ne.symm ne658)
  obtain ⟨T681, X681, e681, st681⟩ := getF X670 hx hZ hown (host := "") (Or.inl (own_w hw 16 rfl)) Via.refl e670 c674 (g := (mkF m 52 #[.val (.ref a1), .val (.int (2 : Int32))] [(.ref a1), (.ref a1)])) rfl rfl (hb hby d10_52)
  obtain ⟨T682, X682, e682, st682⟩ := getF X681 hx hZ hown (host := "") (Or.inl (own_w hw 23 rfl)) Via.refl e681 c675 (g := (mkF m 56 #[.val (.ref a1), .val (.int (2 : Int32))] [(.ref a1), (.ref ac647), (.ref a1)])) rfl rfl (hb hby d10_56)
  obtain ⟨T683, X683, e683, st683⟩ := getF X682 hx hZ hown (host := "") (Or.inl (own_w hw 23 rfl)) Via.refl e682 c675 (g := (mkF m 60 #[.val (.ref a1), .val (.int (2 : Int32))] [(.ref a1), (.int (0 : Int32)), (.ref ac647), (.ref a1)])) rfl rfl (hb hby d10_60)
  obtain ⟨T684, X684, e684, st684⟩ := getF X683 hx hZ hown (host := "") (Or.inl (own_w hw 16 rfl)) Via.refl e683 c674 (g := (mkF m 64 #[.val (.ref a1), .val (.int (2 : Int32))] [(.ref a1), (.int (0 : Int32)), (.int (0 : Int32)), (.ref ac647), (.ref a1)])) rfl rfl (hb hby d10_64)
  obtain ⟨cl685, A685, q685, S685, M685, H685, J685⟩ := id c679
  obtain ⟨_, _, ⟨T686, L686, k686, n686⟩, -, X686, ⟨Lc686, hQ686, l686, y686, z686⟩, st686⟩ := Jvm.LawKit.callS X684 hx (y := own_y_346) hown (mvT hZ (own_w hw 76 rfl)) (mvT hZ (own_w hw 77 rfl)) (mvT hZ (own_w hw 47 rfl)) (mvT hZ (own_w hw 78 rfl)) (by decide) (backOf (W := 1) (rmRI l Z a0 hw [] ac647 kc647 y0 y1 h670 n0 z671 c679) hZ (own_w hw 78 rfl) (own_w hw 47 rfl) (by decide) (by decide)) (g := (mkF m 71 #[.val (.ref a1), .val (.int (2 : Int32))] [(.int (4 : Int32)), (.int (0 : Int32)), (.ref ac647), (.ref a1)])) rfl (by rw [hml]; rfl) (argsL := [(.ref ac647), (.int (0 : Int32)), (.int (4 : Int32))]) (rest := [(.ref a1)]) (lenOf pd_358 rfl) rfl (by show 2 * 0 + _ ≤ _; exact Nat.le_of_eq rfl) (hb hby d10_71) (fun _ _ => ⟨rfl, e684, (by decide : 1 + 1 ≤ _), (by decide : 4 + 4 ≤ _)⟩)
  dsimp only [Pt.U, Pt.locs, Pt.cells, Pt.slots] at X686 l686 y686 z686 st686 hQ686
  subst l686 y686 z686
  obtain ⟨r686, kc686, rfl, Nq686, K686, z686, G686, V686⟩ := hQ686
  have N686 := Fr.app N670 Nq686
  have ne687 : a1 ≠ r686 := Nat.ne_of_lt (Nat.lt_of_lt_of_le c672.lt z686)
  have ne688 : am647 ≠ r686 := Nat.ne_of_lt (Nat.lt_of_lt_of_le c678.lt z686)
  have ne689 : ac647 ≠ r686 := Nat.ne_of_lt (Nat.lt_of_lt_of_le c679.lt z686)
  have ne690 : r657 ≠ r686 := Nat.ne_of_lt (Nat.lt_of_lt_of_le c680.lt z686)
  have z691 : n0 ≤ T686.heap.size := Nat.le_trans z671 K686.1
  have c692 := c672.keep K686
  have c693 := c674.keep K686 nin0
  have c694 := c675.keep K686 nin0
  have c695 := c676.keep K686 nin0
  have c696 := c677.keep K686 nin0
  have c697 := c678.keep K686 nin0
  have c698 := c679.keep K686 nin0
  have c699 := c680.keep K686 nin0
  have c700 := Fw670.keep K686 nin0
  obtain ⟨T701, h701, X701, e701, W701, st701⟩ := putF X686 hx hZ hown (host := "") (Or.inl (own_w hw 16 rfl)) Via.refl rfl c693 c692 (Or.inl (own_w hw 17 rfl)) (own_w hw 4 rfl) (ty := (.array .int)) (by decide) rfl rfl (g := (mkF m 74 #[.val (.ref a1), .val (.int (2 : Int32))] [(.ref r686), (.ref a1)])) rfl rfl (hb hby d10_74)
  have Fw701 := c693.same W701
  have N701 := Fr.snoc X701 N686 Ga647
  have z702 : n0 ≤ h701.size := Nat.le_trans z691 (Keep.of_wr W701).1
  have c703 := c692.wr W701
  have c705 := c694.other W701 (Or.inr (own_sn_17 hw))
  have c706 := c695.other W701 (Or.inr (own_sn_18 hw))
  have c707 := c696.other W701 (Or.inr (own_sn_19 hw))
  have c708 := c697.other W701 (Ne.symm n1647)
  have c709 := c698.other W701 (Ne.symm n2647)
  have c710 := c699.other W701 (Ne.symm ne658)
  have c711 := c700.other W701 (Or.inr (own_sn_20 hw))
  have c712 := V686.other W701 (Ne.symm ne687)
  obtain ⟨T713, h713, X713, e713, W713, st713⟩ := putF X701 hx hZ hown (host := "") (Or.inl (own_w hw 23 rfl)) Via.refl e701 c705 c703 (Or.inl (own_w hw 24 rfl)) (own_w hw 4 rfl) (ty := .int) (by decide) rfl rfl (g := (mkF m 116 #[.val (.ref a1), .val (.int (2 : Int32))] [(.int (0 : Int32)), (.ref a1)])) rfl rfl (hb hby d10_116)
  have Fw713 := c705.same W713
  have N713 := Fr.snoc X713 N701 Ga647
  have z714 : n0 ≤ h713.size := Nat.le_trans z702 (Keep.of_wr W713).1
  have c715 := c703.wr W713
  have c717 := c706.other W713 (Or.inr (own_sn_136 hw))
  have c718 := c707.other W713 (Or.inr (own_sn_137 hw))
  have c719 := c708.other W713 (Ne.symm n1647)
  have c720 := c709.other W713 (Ne.symm n2647)
  have c721 := c710.other W713 (Ne.symm ne658)
  have c722 := c711.other W713 (Or.inr (own_sn_134 hw))
  have c723 := c712.other W713 (Ne.symm ne687)
  have c724 := Fw701.other W713 (Or.inr (own_sn_135 hw))
  obtain ⟨T725, h725, X725, e725, W725, st725⟩ := putF X713 hx hZ hown (host := "") (Or.inl (own_w hw 25 rfl)) Via.refl e713 c717 c715 (Or.inl (own_w hw 26 rfl)) (own_w hw 4 rfl) (ty := .int) (by decide) rfl rfl (g := (mkF m 121 #[.val (.ref a1), .val (.int (2 : Int32))] [(.int (2 : Int32)), (.ref a1)])) rfl rfl (hb hby d10_121)
  have Fw725 := c717.same W725
  have N725 := Fr.snoc X725 N713 Ga647
  have z726 : n0 ≤ h725.size := Nat.le_trans z714 (Keep.of_wr W725).1
  have c727 := c715.wr W725
  have c729 := c718.other W725 (Or.inr (own_sn_108 hw))
  have c730 := c719.other W725 (Ne.symm n1647)
  have c731 := c720.other W725 (Ne.symm n2647)
  have c732 := c721.other W725 (Ne.symm ne658)
  have c733 := c722.other W725 (Or.inr (own_sn_105 hw))
  have c734 := c723.other W725 (Ne.symm ne687)
  have c735 := c724.other W725 (Or.inr (own_sn_106 hw))
  have c736 := Fw713.other W725 (Or.inr (own_sn_107 hw))
  have pre737 : ∀ t, Steps p.tables e below (T725.setTop (mkF m 124 #[.val (.ref a1), .val (.int (2 : Int32))] [])) t → Steps p.tables e below (s₁.setTop (entryFrame m #[(.ref a1)] 2)) t := fun t kt => pre0 t (by
    show Steps p.tables e below (s₁.setTop (mkF m 0 #[.val (.ref a1), .unset] [])) _
    refine XS.aloadN X0.here hx rfl (hb hby d10_0) rfl rfl ?_
    refine st648 _ ?_
    refine XS.aloadN X648.here hx rfl (hb hby d10_4) rfl rfl ?_
    refine st649 _ ?_
    refine XS.isub X649.here hx rfl (hb hby d10_8) rfl ?_
    refine XS.istoreN X649.here hx rfl (hb hby d10_9) rfl (l' := #[.val (.ref a1), .val (.int (2 : Int32))]) rfl ?_
    refine XS.iloadN X649.here hx rfl (hb hby d10_10) rfl ?_
    refine XS.iconst X649.here hx rfl (hb hby d10_11) ?_
    refine XS.imul X649.here hx rfl (hb hby d10_12) rfl ?_
    refine XS.aloadN X649.here hx rfl (hb hby d10_13) rfl rfl ?_
    refine st650 _ ?_
    refine X650.arraylength hx (by rw [e650]; exact A651.1) (State.isArrayOf_alike hZ.alike A651.2.1) (g := (mkF m 17 #[.val (.ref a1), .val (.int (2 : Int32))] [(.ref am647), (.int (8 : Int32))])) rfl rfl (hb hby d10_17) _ ?_
    rw [len_of S651 M651]
    show Steps p.tables e below (T650.setTop (mkF m 18 #[.val (.ref a1), .val (.int (2 : Int32))] [(.int (2 : Int32)), (.int (8 : Int32))])) _
    refine XS.iconst X650.here hx rfl (hb hby d10_18) ?_
    refine XS.imul X650.here hx rfl (hb hby d10_19) rfl ?_
    refine XS.icmpNo X650.here hx rfl (hb hby d10_20) rfl (tlt (by decide : (6 : Int32) < (8 : Int32))).2.2.2 ?_
    refine XS.aloadN X650.here hx rfl (hb hby d10_23) rfl rfl ?_
    refine XS.aloadN X650.here hx rfl (hb hby d10_24) rfl rfl ?_
    refine st652 _ ?_
    refine XS.aloadN X652.here hx rfl (hb hby d10_28) rfl rfl ?_
    refine st653 _ ?_
    refine XS.aloadN X653.here hx rfl (hb hby d10_32) rfl rfl ?_
    refine st654 _ ?_
    refine XS.aloadN X654.here hx rfl (hb hby d10_36) rfl rfl ?_
    refine st655 _ ?_
    show Steps p.tables e below (T655.setTop (mkF m 40 #[.val (.ref a1), .val (.int (2 : Int32))] [(.ref am647), (.int (0 : Int32)), (.int (0 : Int32)), (.ref am647), (.ref a1)])) _
    refine X655.arraylength hx (by rw [e655]; exact A656.1) (State.isArrayOf_alike hZ.alike A656.2.1) (g := (mkF m 40 #[.val (.ref a1), .val (.int (2 : Int32))] [(.ref am647), (.int (0 : Int32)), (.int (0 : Int32)), (.ref am647), (.ref a1)])) rfl rfl (hb hby d10_40) _ ?_
    rw [len_of S656 M656]
    refine XS.iconst X655.here hx rfl (hb hby d10_41) ?_
    refine XS.imul X655.here hx rfl (hb hby d10_42) rfl ?_
    refine XS.iadd X655.here hx rfl (hb hby d10_43) rfl ?_
    refine st657 _ ?_
    refine st670 _ ?_
    refine XS.aloadN X670.here hx rfl (hb hby d10_50) rfl rfl ?_
    refine XS.aloadN X670.here hx rfl (hb hby d10_51) rfl rfl ?_
    refine st681 _ ?_
    refine XS.aloadN X681.here hx rfl (hb hby d10_55) rfl rfl ?_
    refine st682 _ ?_
    refine XS.aloadN X682.here hx rfl (hb hby d10_59) rfl rfl ?_
    show Steps p.tables e below (T682.setTop (mkF m 60 #[.val (.ref a1), .val (.int (2 : Int32))] [(.ref a1), (.int (0 : Int32)), (.ref ac647), (.ref a1)])) _
    refine st683 _ ?_
    refine XS.aloadN X683.here hx rfl (hb hby d10_63) rfl rfl ?_
    refine st684 _ ?_
    refine X684.arraylength hx (by rw [e684]; exact A685.1) (State.isArrayOf_alike hZ.alike A685.2.1) (g := (mkF m 67 #[.val (.ref a1), .val (.int (2 : Int32))] [(.ref ac647), (.int (0 : Int32)), (.int (0 : Int32)), (.ref ac647), (.ref a1)])) rfl rfl (hb hby d10_67) _ ?_
    rw [len_of S685 M685]
    refine XS.iconst X684.here hx rfl (hb hby d10_68) ?_
    refine XS.imul X684.here hx rfl (hb hby d10_69) rfl ?_
    refine XS.iadd X684.here hx rfl (hb hby d10_70) rfl ?_
    refine st686 _ ?_
    refine st701 _ ?_
    refine XS.goto X701.here hx rfl (pc0 := 77) (pc' := 114) rfl (hb hby d10_77) (by decide) (by decide) ?_
    refine XS.aloadN X701.here hx rfl (hb hby d10_114) rfl rfl ?_
    refine XS.iconst X701.here hx rfl (hb hby d10_115) ?_
    show Steps p.tables e below (T701.setTop (mkF m 116 #[.val (.ref a1), .val (.int (2 : Int32))] [(.int (0 : Int32)), (.ref a1)])) _
    refine st713 _ ?_
    refine XS.aloadN X713.here hx rfl (hb hby d10_119) rfl rfl ?_
    refine XS.iloadN X713.here hx rfl (hb hby d10_120) rfl ?_
    refine st725 _ ?_
    exact kt)
  have hz : h0.size ≤ h725.size := Nat.le_trans (Nat.le_trans (Nat.le_trans (Nat.le_trans (Nat.le_trans (Nat.le_trans (Nat.le_refl _) K657.1) (Keep.of_wr W670).1) K686.1) (Keep.of_wr W701).1) (Keep.of_wr W713).1) (Keep.of_wr W725).1
  have hQ : QRoom022 Z a1 x0 x1 y0 y1 b h0 n0 none h725 _ := ⟨rfl, N725, hz, ⟨r657, r686, kc657, kc686, c727, c733, c735, c736, Fw725, c729, c732, c734, Ga647, G657, G686, ne658, ne687, ne690⟩⟩
  exact own_retV X725 hx Bd.notSynchronized Bd.returns (hb hby d10_124) pre737 (show QRoom022 Z a1 x0 x1 y0 y1 b h0 n0 _ _ _ from (by rw [e725]; exact hQ)) (by decide) (by decide)
theorem d3_83 : decode prog_25_method_2_code 83 = .ok (.aload_n 0, 1) := by decide +kernel
theorem d3_84 : decode prog_25_method_2_code 84 = .ok (.invokevirtual 27, 3) := by decide +kernel
def QCnt022a (Z : State) (a1 : Addr) (q2 : Int64) (p4 p5 : Int32) (x0 : Int64) (x1 : Int64) (y0 : Int32) (y1 : Int32) (b : Int32) (h0 : Heap) (n0 : Nat) (v : Option Value) (h : Heap) (L : List Loc) : Prop := v = none ∧ Fr n0 L ∧ h0.size ≤ h.size ∧ PT Z h n0 a1 (0 : Int32) (3 : Int32) (4 : Int32) [(.long x0), (.long x1), (.long q2), (.long (0 : Int64))] [(.int y0), (.int y1), (.int p4), (.int (0 : Int32))] b
set_option maxRecDepth 65536 in
set_option maxHeartbeats 40000000 in
theorem rmCnt022a (l : Launch) (Z : State) (a0 : Array Value) (hw : ∀ d ∈ tables_1, d.before a0 Z = true) (ws : List Jvm.Cond) (a1 : Addr) (q2 : Int64) (p4 p5 : Int32) (x0 : Int64) (x1 : Int64) (y0 : Int32) (y1 : Int32) (b : Int32) (h0 : Heap) (n0 : Nat) (Z0 : n0 ≤ h0.size) (P0 : PT Z h0 n0 a1 (0 : Int32) (2 : Int32) (2 : Int32) [(.long x0), (.long x1)] [(.int y0), (.int y1)] b) (c0 : x1 < q2) :
    MetFree l own_y_110 (head1 (Jvm.Cond.code own_y_110 prog_25_method_2_code 5 none :: ws) ({ frames := 4, cells := 2, slots := 8, locals := 104 } : Room)) (fun a U => a = #[(.ref a1), (.long q2), (.int p4), (.int p5)] ∧ Z.Warmed39 U.vm ∧ U.heap = h0) (fun _ _ _ _ _ => True) (fun _ U o U' => ∃ v L, o = .returned v ∧ QCnt022a Z a1 q2 p4 p5 x0 x1 y0 y1 b h0 n0 v U'.heap L ∧ FrameEnd U o U' L ({ frames := 4, cells := 2, slots := 8, locals := 104 } : Room).cells ({ frames := 4, cells := 2, slots := 8, locals := 104 } : Room).slots) := by
  refine MetFree.of_bodySF (plainFor_of_name pn_2) hisR ?_
  intro p e s m args below meth c s₁ Bd hml0 hP hK
  obtain ⟨rfl, hZ, hh⟩ := hP
  have hx := Bd.exec
  have hby := Bd.bytes
  have hml : c.maxLocals = 5 := hml0
  have hown : s.vm.findClass "com/example/viral_counter/viralcounter/PostTrend" = some m.cls := findClass_of_methodNamed Bd.named
  have hnm := (name_of_methodNamed Bd.named Bd.method).1
  have X0 : Stand p l e ({ frames := 4, cells := 2, slots := 8, locals := 104 } : Room) s m #[(.ref a1), (.long q2), (.int p4), (.int p5)] below meth c s₁ [] 0 0 := Stand.of_body Bd
  have e0 : s₁.heap = h0 := by rw [← hh, Bd.state]; rfl
  have N0 := Fr.nil n0
  have pre0 : ∀ t, Steps p.tables e below (s₁.setTop (mkF m 0 #[.val (.ref a1), .val (.long q2), .second, .val (.int p4), .val (.int p5)] [])) t → Steps p.tables e below (s₁.setTop (entryFrame m #[(.ref a1), (.long q2), (.int p4), (.int p5)] 5)) t := fun t k => castTop (ef_111 m a1 q2 p4 p5) k
  obtain ⟨am738, ac738, km738, kc738, E738, Fm738, Fc738, Ff738, Fe738, Fb738, Vm738, Vc738, Ga738, Gm738, Gc738, n1738, n2738, n3738⟩ := id P0
  have hz0 : h0.size ≤ h0.size := Nat.le_refl _
  obtain ⟨T739, X739, e739, st739⟩ := getF X0 hx hZ hown (host := "") (Or.inl (own_w hw 23 rfl)) Via.refl e0 Ff738 (g := (mkF m 1 #[.val (.ref a1), .val (.long q2), .second, .val (.int p4), .val (.int p5)] [(.ref a1)])) rfl rfl (hb hby d3_1)
  obtain ⟨T740, X740, e740, st740⟩ := getF X739 hx hZ hown (host := "") (Or.inl (own_w hw 25 rfl)) Via.refl e739 Fe738 (g := (mkF m 5 #[.val (.ref a1), .val (.long q2), .second, .val (.int p4), .val (.int p5)] [(.ref a1), (.int (0 : Int32))])) rfl rfl (hb hby d3_5)
  obtain ⟨T741, X741, e741, st741⟩ := getF X740 hx hZ hown (host := "") (Or.inl (own_w hw 23 rfl)) Via.refl e740 Ff738 (g := (mkF m 30 #[.val (.ref a1), .val (.long q2), .second, .val (.int p4), .val (.int p5)] [(.ref a1)])) rfl rfl (hb hby d3_30)
  obtain ⟨T742, X742, e742, st742⟩ := getF X741 hx hZ hown (host := "") (Or.inl (own_w hw 25 rfl)) Via.refl e741 Fe738 (g := (mkF m 34 #[.val (.ref a1), .val (.long q2), .second, .val (.int p4), .val (.int p5)] [(.ref a1), (.int (0 : Int32))])) rfl rfl (hb hby d3_34)
  obtain ⟨T743, X743, e743, st743⟩ := getF X742 hx hZ hown (host := "") (Or.inl (own_w hw 13 rfl)) Via.refl e742 Fm738 (g := (mkF m 42 #[.val (.ref a1), .val (.long q2), .second, .val (.int p4), .val (.int p5)] [(.ref a1), (.long q2)])) rfl rfl (hb hby d3_42)
  obtain ⟨T744, X744, e744, st744⟩ := getF X743 hx hZ hown (host := "") (Or.inl (own_w hw 25 rfl)) Via.refl e743 Fe738 (g := (mkF m 46 #[.val (.ref a1), .val (.long q2), .second, .val (.int p4), .val (.int p5)] [(.ref a1), (.ref am738), (.long q2)])) rfl rfl (hb hby d3_46)
  obtain ⟨cl745, A745, q745, S745, M745, H745, J745⟩ := id Vm738
  have hin745 : ¬ ((1 : Int32) < 0 ∨ cl745.slots.size ≤ ((1 : Int32)).toNatClampNeg) := inb_of S745 ⟨by decide, by decide⟩
  have hat745 : cl745.slots[((1 : Int32)).toNatClampNeg]? = some (.long x1) := H745.at hin745 rfl
  obtain ⟨T746, X746, e746, st746⟩ := getF X744 hx hZ hown (host := "") (Or.inl (own_w hw 25 rfl)) Via.refl e744 Fe738 (g := (mkF m 72 #[.val (.ref a1), .val (.long q2), .second, .val (.int p4), .val (.int p5)] [(.ref a1)])) rfl rfl (hb hby d3_72)
  obtain ⟨T747, X747, e747, st747⟩ := getF X746 hx hZ hown (host := "") (Or.inl (own_w hw 13 rfl)) Via.refl e746 Fm738 (g := (mkF m 76 #[.val (.ref a1), .val (.long q2), .second, .val (.int p4), .val (.int p5)] [(.ref a1), (.int (2 : Int32))])) rfl rfl (hb hby d3_76)
  obtain ⟨cl748, A748, q748, S748, M748, H748, J748⟩ := id Vm738
  have P749 : PT Z h0 n0 a1 (0 : Int32) (2 : Int32) (2 : Int32) [(.long x0), (.long x1)] [(.int y0), (.int y1)] b := ⟨am738, ac738, km738, kc738, E738, Fm738, Fc738, Ff738, Fe738, Fb738, Vm738, Vc738, Ga738, Gm738, Gc738, n1738, n2738, n3738⟩
  obtain ⟨cq750, q750, q750'⟩ := E738.cell
  obtain ⟨ci750, ki750, i1750, i2750, -, i4750, -⟩ := Cond.instantiable_spec (mvT (args := #[(.ref a1), (.long q2), (.int p4), (.int p5)]) hZ (own_w hw 4 rfl))
  have hni750 : ki750.isInterface = false := by cases q : ki750.isInterface <;> simp [q] at i4750 ⊢
  have hsel750 := selects_self_of_private (args := #[(.ref a1), (.long q2), (.int p4), (.int p5)]) (y := own_y_413) i1750 i2750 hni750 (Cond.privateMethod_at (mvP hZ (own_w hw 57 rfl) (args := #[]))) (mvT hZ (own_w hw 56 rfl)) (by decide)
  obtain ⟨_, _, ⟨T750, L750, k750, n750⟩, -, X750, ⟨Lc750, hQ750, l750, y750, z750⟩, st750⟩ := X747.privateBack hx (y := own_y_413) hown (mvT hZ (own_w hw 55 rfl)) (mvT hZ (own_w hw 56 rfl)) hsel750 (Cond.privateMethod_at (mvP hZ (own_w hw 57 rfl) (args := #[]))) (mvT hZ (own_w hw 58 rfl)) (by decide) (backOf (W := 0) (rmRoom022 l Z a0 hw [] a1 x0 x1 y0 y1 b h0 n0 Z0 P749) hZ (own_w hw 58 rfl) (own_w hw 5 rfl) (by decide) (by decide)) (g := (mkF m 84 #[.val (.ref a1), .val (.long q2), .second, .val (.int p4), .val (.int p5)] [(.ref a1)])) rfl (by rw [hml]; rfl) (Steps.refl _) (a := a1) (by rw [e747]; exact q750) q750' (argsL := []) (rest := []) (lenOf pd_24 rfl) rfl (by show 2 * 0 + _ ≤ _; exact Nat.le_of_eq rfl) (hb hby d3_84) (fun _ _ => ⟨rfl, e747, (by decide : 0 + 2 ≤ _), (by decide : 0 + 8 ≤ _)⟩)
  dsimp only [Pt.U, Pt.locs, Pt.cells, Pt.slots] at X750 l750 y750 z750 st750 hQ750
  subst l750 y750 z750
  obtain ⟨rfl, Nq750, z750, P750⟩ := hQ750
  have N750 := Fr.app N0 Nq750
  have z751 : n0 ≤ T750.heap.size := Nat.le_trans Z0 z750
  obtain ⟨am752, ac752, km752, kc752, E752, Fm752, Fc752, Ff752, Fe752, Fb752, Vm752, Vc752, Ga752, Gm752, Gc752, n1752, n2752, n3752⟩ := id P750
  obtain ⟨T753, X753, e753, st753⟩ := getF X750 hx hZ hown (host := "") (Or.inl (own_w hw 13 rfl)) Via.refl rfl Fm752 (g := (mkF m 88 #[.val (.ref a1), .val (.long q2), .second, .val (.int p4), .val (.int p5)] [(.ref a1)])) rfl rfl (hb hby d3_88)
  obtain ⟨T754, X754, e754, st754⟩ := getF X753 hx hZ hown (host := "") (Or.inl (own_w hw 25 rfl)) Via.refl e753 Fe752 (g := (mkF m 92 #[.val (.ref a1), .val (.long q2), .second, .val (.int p4), .val (.int p5)] [(.ref a1), (.ref am752)])) rfl rfl (hb hby d3_92)
  obtain ⟨cl755, Ar755, q755, S755, M755, H755, J755⟩ := id Vm752
  have hin755 : ¬ ((2 : Int32) < 0 ∨ cl755.slots.size ≤ ((2 : Int32)).toNatClampNeg) := inb_of S755 ⟨by decide, by decide⟩
  obtain ⟨T756, h756, X756, e756, W756, st756⟩ := stJ X754 hx hZ e754 Ar755 (j := (2 : Int32)) hin755 (g := (mkF m 96 #[.val (.ref a1), .val (.long q2), .second, .val (.int p4), .val (.int p5)] [(.long q2), (.int (2 : Int32)), (.ref am752)])) rfl rfl (hb hby d3_96)
  have V756 : Arv Z h756 am752 km752 .long (4 : Int32) [(.long x0), (.long x1), (.long q2), (.long (0 : Int64))] (.long (0 : Int64)) := Arv.set Ar755 q755 S755 M755 H755 J755 rfl W756 2 rfl (Nat.le_of_ble_eq_true rfl)
  have N756 := Fr.snoc X756 N750 Gm752
  have z757 : n0 ≤ h756.size := Nat.le_trans z751 (Keep.of_wr W756).1
  have c758 := E752.wr W756
  have c759 := Fm752.other W756 (Or.inl n1752)
  have c760 := Fc752.other W756 (Or.inl n1752)
  have c761 := Ff752.other W756 (Or.inl n1752)
  have c762 := Fe752.other W756 (Or.inl n1752)
  have c763 := Fb752.other W756 (Or.inl n1752)
  have c765 := Vc752.other W756 (Ne.symm n3752)
  obtain ⟨T766, X766, e766, st766⟩ := getF X756 hx hZ hown (host := "") (Or.inl (own_w hw 16 rfl)) Via.refl e756 c760 (g := (mkF m 98 #[.val (.ref a1), .val (.long q2), .second, .val (.int p4), .val (.int p5)] [(.ref a1)])) rfl rfl (hb hby d3_98)
  obtain ⟨T767, X767, e767, st767⟩ := getF X766 hx hZ hown (host := "") (Or.inl (own_w hw 25 rfl)) Via.refl e766 c762 (g := (mkF m 102 #[.val (.ref a1), .val (.long q2), .second, .val (.int p4), .val (.int p5)] [(.ref a1), (.ref ac752)])) rfl rfl (hb hby d3_102)
  obtain ⟨cl768, Ar768, q768, S768, M768, H768, J768⟩ := id c765
  have hin768 : ¬ ((2 : Int32) < 0 ∨ cl768.slots.size ≤ ((2 : Int32)).toNatClampNeg) := inb_of S768 ⟨by decide, by decide⟩
  obtain ⟨T769, h769, X769, e769, W769, st769⟩ := stI X767 hx hZ e767 Ar768 (j := (2 : Int32)) hin768 (g := (mkF m 106 #[.val (.ref a1), .val (.long q2), .second, .val (.int p4), .val (.int p5)] [(.int p4), (.int (2 : Int32)), (.ref ac752)])) rfl rfl (hb hby d3_106)
  have V769 : Arv Z h769 ac752 kc752 .int (4 : Int32) [(.int y0), (.int y1), (.int p4), (.int (0 : Int32))] (.int (0 : Int32)) := Arv.set Ar768 q768 S768 M768 H768 J768 rfl W769 2 rfl (Nat.le_of_ble_eq_true rfl)
  have N769 := Fr.snoc X769 N756 Gc752
  have z770 : n0 ≤ h769.size := Nat.le_trans z757 (Keep.of_wr W769).1
  have c771 := c758.wr W769
  have c772 := c759.other W769 (Or.inl n2752)
  have c773 := c760.other W769 (Or.inl n2752)
  have c774 := c761.other W769 (Or.inl n2752)
  have c775 := c762.other W769 (Or.inl n2752)
  have c776 := c763.other W769 (Or.inl n2752)
  have c778 := V756.other W769 n3752
  obtain ⟨T779, X779, e779, st779⟩ := getF X769 hx hZ hown (host := "") (Or.inl (own_w hw 25 rfl)) Via.refl e769 c775 (g := (mkF m 109 #[.val (.ref a1), .val (.long q2), .second, .val (.int p4), .val (.int p5)] [(.ref a1), (.ref a1)])) rfl rfl (hb hby d3_109)
  obtain ⟨T780, h780, X780, e780, W780, st780⟩ := putF X779 hx hZ hown (host := "") (Or.inl (own_w hw 25 rfl)) Via.refl e779 c775 c771 (Or.inl (own_w hw 26 rfl)) (own_w hw 4 rfl) (ty := .int) (by decide) rfl rfl (g := (mkF m 114 #[.val (.ref a1), .val (.long q2), .second, .val (.int p4), .val (.int p5)] [(.int (3 : Int32)), (.ref a1)])) rfl rfl (hb hby d3_114)
  have Fw780 := c775.same W780
  have N780 := Fr.snoc X780 N769 Ga752
  have z781 : n0 ≤ h780.size := Nat.le_trans z770 (Keep.of_wr W780).1
  have c782 := c771.wr W780
  have c783 := c772.other W780 (Or.inr (own_sn_105 hw))
  have c784 := c773.other W780 (Or.inr (own_sn_106 hw))
  have c785 := c774.other W780 (Or.inr (own_sn_107 hw))
  have c787 := c776.other W780 (Or.inr (own_sn_108 hw))
  have c788 := c778.other W780 (Ne.symm n1752)
  have c789 := V769.other W780 (Ne.symm n2752)
  have pre790 : ∀ t, Steps p.tables e below (T780.setTop (mkF m 117 #[.val (.ref a1), .val (.long q2), .second, .val (.int p4), .val (.int p5)] [])) t → Steps p.tables e below (s₁.setTop (entryFrame m #[(.ref a1), (.long q2), (.int p4), (.int p5)] 5)) t := fun t kt => pre0 t (by
    show Steps p.tables e below (s₁.setTop (mkF m 0 #[.val (.ref a1), .val (.long q2), .second, .val (.int p4), .val (.int p5)] [])) _
    refine XS.aloadN X0.here hx rfl (hb hby d3_0) rfl rfl ?_
    refine st739 _ ?_
    refine XS.aloadN X739.here hx rfl (hb hby d3_4) rfl rfl ?_
    refine st740 _ ?_
    refine XS.icmpYes X740.here hx rfl (pc0 := 8) (pc' := 29) rfl (hb hby d3_8) rfl (feq (by decide : ¬ ((0 : Int32) = (2 : Int32)))).2 (by decide) (by decide) ?_
    refine XS.aloadN X740.here hx rfl (hb hby d3_29) rfl rfl ?_
    refine st741 _ ?_
    refine XS.aloadN X741.here hx rfl (hb hby d3_33) rfl rfl ?_
    refine st742 _ ?_
    refine XS.icmpNo X742.here hx rfl (hb hby d3_37) rfl (tlt (by decide : (0 : Int32) < (2 : Int32))).2.1 ?_
    refine XS.lloadN X742.here hx rfl (hb hby d3_40) rfl ?_
    refine XS.aloadN X742.here hx rfl (hb hby d3_41) rfl rfl ?_
    show Steps p.tables e below (T742.setTop (mkF m 42 #[.val (.ref a1), .val (.long q2), .second, .val (.int p4), .val (.int p5)] [(.ref a1), (.long q2)])) _
    refine st743 _ ?_
    refine XS.aloadN X743.here hx rfl (hb hby d3_45) rfl rfl ?_
    refine st744 _ ?_
    refine XS.iconst X744.here hx rfl (hb hby d3_49) ?_
    refine XS.isub X744.here hx rfl (hb hby d3_50) rfl ?_
    refine X744.laload hx (j := (1 : Int32)) (v := (.long x1)) (by rw [e744]; exact A745.1) (State.isArrayOf_alike hZ.alike A745.2.1) A745.2.2 hin745 hat745 (g := (mkF m 51 #[.val (.ref a1), .val (.long q2), .second, .val (.int p4), .val (.int p5)] [(.int (1 : Int32)), (.ref am738), (.long q2)])) rfl rfl (hb hby d3_51) _ ?_
    refine XS.lcmp X744.here hx rfl (hb hby d3_52) rfl ?_
    refine XS.ifYes X744.here hx rfl (pc0 := 53) (pc' := 71) rfl (hb hby d3_53) rfl ((if0 _ _).trans (tlt ((lw_gt _ _).mpr c0)).2.2.1) (by decide) (by decide) ?_
    refine XS.aloadN X744.here hx rfl (hb hby d3_71) rfl rfl ?_
    refine st746 _ ?_
    refine XS.aloadN X746.here hx rfl (hb hby d3_75) rfl rfl ?_
    refine st747 _ ?_
    show Steps p.tables e below (T747.setTop (mkF m 79 #[.val (.ref a1), .val (.long q2), .second, .val (.int p4), .val (.int p5)] [(.ref am738), (.int (2 : Int32))])) _
    refine X747.arraylength hx (by rw [e747]; exact A748.1) (State.isArrayOf_alike hZ.alike A748.2.1) (g := (mkF m 79 #[.val (.ref a1), .val (.long q2), .second, .val (.int p4), .val (.int p5)] [(.ref am738), (.int (2 : Int32))])) rfl rfl (hb hby d3_79) _ ?_
    rw [len_of S748 M748]
    refine XS.icmpNo X747.here hx rfl (hb hby d3_80) rfl (teq (by decide : (2 : Int32) = (2 : Int32))).2 ?_
    refine XS.aloadN X747.here hx rfl (hb hby d3_83) rfl rfl ?_
    refine st750.trans ?_
    refine XS.aloadN X750.here hx rfl (hb hby d3_87) rfl rfl ?_
    refine st753 _ ?_
    refine XS.aloadN X753.here hx rfl (hb hby d3_91) rfl rfl ?_
    refine st754 _ ?_
    refine XS.lloadN X754.here hx rfl (hb hby d3_95) rfl ?_
    refine st756 _ ?_
    refine XS.aloadN X756.here hx rfl (hb hby d3_97) rfl rfl ?_
    refine st766 _ ?_
    show Steps p.tables e below (T766.setTop (mkF m 101 #[.val (.ref a1), .val (.long q2), .second, .val (.int p4), .val (.int p5)] [(.ref ac752)])) _
    refine XS.aloadN X766.here hx rfl (hb hby d3_101) rfl rfl ?_
    refine st767 _ ?_
    refine XS.iloadN X767.here hx rfl (hb hby d3_105) rfl ?_
    refine st769 _ ?_
    refine XS.aloadN X769.here hx rfl (hb hby d3_107) rfl rfl ?_
    refine XS.dup X769.here hx rfl (hb hby d3_108) rfl rfl ?_
    refine st779 _ ?_
    refine XS.iconst X779.here hx rfl (hb hby d3_112) ?_
    refine XS.iadd X779.here hx rfl (hb hby d3_113) rfl ?_
    refine st780 _ ?_
    exact kt)
  have hz : h0.size ≤ h780.size := Nat.le_trans (Nat.le_trans (Nat.le_trans (Nat.le_trans (Nat.le_refl _) z750) (Keep.of_wr W756).1) (Keep.of_wr W769).1) (Keep.of_wr W780).1
  have hQ : QCnt022a Z a1 q2 p4 p5 x0 x1 y0 y1 b h0 n0 none h780 _ := ⟨rfl, N780, hz, ⟨am752, ac752, km752, kc752, c782, c783, c784, c785, Fw780, c787, c788, c789, Ga752, Gm752, Gc752, n1752, n2752, n3752⟩⟩
  exact own_retV X780 hx Bd.notSynchronized Bd.returns (hb hby d3_117) pre790 (show QCnt022a Z a1 q2 p4 p5 x0 x1 y0 y1 b h0 n0 _ _ _ from (by rw [e780]; exact hQ)) (by decide) (by decide)
def QFgt034_3 (Z : State) (a1 : Addr) (q2 : Int64) (x0 : Int64) (x1 : Int64) (x2 : Int64) (x3 : Int64) (y0 : Int32) (y1 : Int32) (y2 : Int32) (y3 : Int32) (b : Int32) (h0 : Heap) (n0 : Nat) (v : Option Value) (h : Heap) (L : List Loc) : Prop := v = none ∧ Fr n0 L ∧ h0.size ≤ h.size ∧ PT Z h n0 a1 (3 : Int32) (3 : Int32) (4 : Int32) [(.long x0), (.long x1), (.long x2), (.long x3)] [(.int y0), (.int y1), (.int y2), (.int y3)] y2
set_option maxRecDepth 65536 in
set_option maxHeartbeats 40000000 in
theorem rmFgt034_3 (l : Launch) (Z : State) (a0 : Array Value) (hw : ∀ d ∈ tables_1, d.before a0 Z = true) (ws : List Jvm.Cond) (a1 : Addr) (q2 : Int64) (x0 : Int64) (x1 : Int64) (x2 : Int64) (x3 : Int64) (y0 : Int32) (y1 : Int32) (y2 : Int32) (y3 : Int32) (b : Int32) (h0 : Heap) (n0 : Nat) (Z0 : n0 ≤ h0.size) (P0 : PT Z h0 n0 a1 (0 : Int32) (3 : Int32) (4 : Int32) [(.long x0), (.long x1), (.long x2), (.long x3)] [(.int y0), (.int y1), (.int y2), (.int y3)] b) (c0 : x0 < q2) (c1 : x1 < q2) (c2 : x2 < q2) :
    MetFree l own_y_32 (head1 (Jvm.Cond.code own_y_32 prog_25_method_4_code 3 none :: ws) ({ frames := 0, cells := 0, slots := 0, locals := 0 } : Room)) (fun a U => a = #[(.ref a1), (.long q2)] ∧ Z.Warmed39 U.vm ∧ U.heap = h0) (fun _ _ _ _ _ => True) (fun _ U o U' => ∃ v L, o = .returned v ∧ QFgt034_3 Z a1 q2 x0 x1 x2 x3 y0 y1 y2 y3 b h0 n0 v U'.heap L ∧ FrameEnd U o U' L ({ frames := 0, cells := 0, slots := 0, locals := 0 } : Room).cells ({ frames := 0, cells := 0, slots := 0, locals := 0 } : Room).slots) := by
  refine MetFree.of_bodySF (plainFor_of_name pn_2) hisR ?_
  intro p e s m args below meth c s₁ Bd hml0 hP hK
  obtain ⟨rfl, hZ, hh⟩ := hP
  have hx := Bd.exec
  have hby := Bd.bytes
  have hml : c.maxLocals = 3 := hml0
  have hown : s.vm.findClass "com/example/viral_counter/viralcounter/PostTrend" = some m.cls := findClass_of_methodNamed Bd.named
  have hnm := (name_of_methodNamed Bd.named Bd.method).1
  have X0 : Stand p l e ({ frames := 0, cells := 0, slots := 0, locals := 0 } : Room) s m #[(.ref a1), (.long q2)] below meth c s₁ [] 0 0 := Stand.of_body Bd
  have e0 : s₁.heap = h0 := by rw [← hh, Bd.state]; rfl
  have N0 := Fr.nil n0
  have pre0 : ∀ t, Steps p.tables e below (s₁.setTop (mkF m 0 #[.val (.ref a1), .val (.long q2), .second] [])) t → Steps p.tables e below (s₁.setTop (entryFrame m #[(.ref a1), (.long q2)] 3)) t := fun t k => castTop (ef_33 m a1 q2) k
  obtain ⟨am797, ac797, km797, kc797, E797, Fm797, Fc797, Ff797, Fe797, Fb797, Vm797, Vc797, Ga797, Gm797, Gc797, n1797, n2797, n3797⟩ := id P0
  have hz0 : h0.size ≤ h0.size := Nat.le_refl _
  obtain ⟨T798, X798, e798, st798⟩ := getF X0 hx hZ hown (host := "") (Or.inl (own_w hw 23 rfl)) Via.refl e0 Ff797 (g := (mkF m 1 #[.val (.ref a1), .val (.long q2), .second] [(.ref a1)])) rfl rfl (hb hby d4_1)
  obtain ⟨T799, X799, e799, st799⟩ := getF X798 hx hZ hown (host := "") (Or.inl (own_w hw 25 rfl)) Via.refl e798 Fe797 (g := (mkF m 5 #[.val (.ref a1), .val (.long q2), .second] [(.ref a1), (.int (0 : Int32))])) rfl rfl (hb hby d4_5)
  obtain ⟨T800, X800, e800, st800⟩ := getF X799 hx hZ hown (host := "") (Or.inl (own_w hw 13 rfl)) Via.refl e799 Fm797 (g := (mkF m 12 #[.val (.ref a1), .val (.long q2), .second] [(.ref a1)])) rfl rfl (hb hby d4_12)
  obtain ⟨T801, X801, e801, st801⟩ := getF X800 hx hZ hown (host := "") (Or.inl (own_w hw 23 rfl)) Via.refl e800 Ff797 (g := (mkF m 16 #[.val (.ref a1), .val (.long q2), .second] [(.ref a1), (.ref am797)])) rfl rfl (hb hby d4_16)
  obtain ⟨cl802, A802, q802, S802, M802, H802, J802⟩ := id Vm797
  have hin802 : ¬ ((0 : Int32) < 0 ∨ cl802.slots.size ≤ ((0 : Int32)).toNatClampNeg) := inb_of S802 ⟨by decide, by decide⟩
  have hat802 : cl802.slots[((0 : Int32)).toNatClampNeg]? = some (.long x0) := H802.at hin802 rfl
  obtain ⟨T803, X803, e803, st803⟩ := getF X801 hx hZ hown (host := "") (Or.inl (own_w hw 16 rfl)) Via.refl e801 Fc797 (g := (mkF m 27 #[.val (.ref a1), .val (.long q2), .second] [(.ref a1), (.ref a1)])) rfl rfl (hb hby d4_27)
  obtain ⟨T804, X804, e804, st804⟩ := getF X803 hx hZ hown (host := "") (Or.inl (own_w hw 23 rfl)) Via.refl e803 Ff797 (g := (mkF m 31 #[.val (.ref a1), .val (.long q2), .second] [(.ref a1), (.ref ac797), (.ref a1)])) rfl rfl (hb hby d4_31)
  obtain ⟨cl805, A805, q805, S805, M805, H805, J805⟩ := id Vc797
  have hin805 : ¬ ((0 : Int32) < 0 ∨ cl805.slots.size ≤ ((0 : Int32)).toNatClampNeg) := inb_of S805 ⟨by decide, by decide⟩
  have hat805 : cl805.slots[((0 : Int32)).toNatClampNeg]? = some (.int y0) := H805.at hin805 rfl
  obtain ⟨T806, h806, X806, e806, W806, st806⟩ := putF X804 hx hZ hown (host := "") (Or.inl (own_w hw 27 rfl)) Via.refl e804 Fb797 E797 (Or.inl (own_w hw 28 rfl)) (own_w hw 4 rfl) (ty := .int) (by decide) rfl rfl (g := (mkF m 35 #[.val (.ref a1), .val (.long q2), .second] [(.int y0), (.ref a1)])) rfl rfl (hb hby d4_35)
  have Fw806 := Fb797.same W806
  have N806 := Fr.snoc X806 N0 Ga797
  have z807 : n0 ≤ h806.size := Nat.le_trans Z0 (Keep.of_wr W806).1
  have c808 := E797.wr W806
  have c809 := Fm797.other W806 (Or.inr (own_sn_72 hw))
  have c810 := Fc797.other W806 (Or.inr (own_sn_73 hw))
  have c811 := Ff797.other W806 (Or.inr (own_sn_74 hw))
  have c812 := Fe797.other W806 (Or.inr (own_sn_75 hw))
  have c814 := Vm797.other W806 (Ne.symm n1797)
  have c815 := Vc797.other W806 (Ne.symm n2797)
  obtain ⟨T816, X816, e816, st816⟩ := getF X806 hx hZ hown (host := "") (Or.inl (own_w hw 23 rfl)) Via.refl e806 c811 (g := (mkF m 40 #[.val (.ref a1), .val (.long q2), .second] [(.ref a1), (.ref a1)])) rfl rfl (hb hby d4_40)
  obtain ⟨T817, h817, X817, e817, W817, st817⟩ := putF X816 hx hZ hown (host := "") (Or.inl (own_w hw 23 rfl)) Via.refl e816 c811 c808 (Or.inl (own_w hw 24 rfl)) (own_w hw 4 rfl) (ty := .int) (by decide) rfl rfl (g := (mkF m 45 #[.val (.ref a1), .val (.long q2), .second] [(.int (1 : Int32)), (.ref a1)])) rfl rfl (hb hby d4_45)
  have Fw817 := c811.same W817
  have N817 := Fr.snoc X817 N806 Ga797
  have z818 : n0 ≤ h817.size := Nat.le_trans z807 (Keep.of_wr W817).1
  have c819 := c808.wr W817
  have c820 := c809.other W817 (Or.inr (own_sn_134 hw))
  have c821 := c810.other W817 (Or.inr (own_sn_135 hw))
  have c823 := c812.other W817 (Or.inr (own_sn_136 hw))
  have c824 := c814.other W817 (Ne.symm n1797)
  have c825 := c815.other W817 (Ne.symm n2797)
  have c826 := Fw806.other W817 (Or.inr (own_sn_137 hw))
  obtain ⟨T827, X827, e827, st827⟩ := getF X817 hx hZ hown (host := "") (Or.inl (own_w hw 23 rfl)) Via.refl e817 Fw817 (g := (mkF m 1 #[.val (.ref a1), .val (.long q2), .second] [(.ref a1)])) rfl rfl (hb hby d4_1)
  obtain ⟨T828, X828, e828, st828⟩ := getF X827 hx hZ hown (host := "") (Or.inl (own_w hw 25 rfl)) Via.refl e827 c823 (g := (mkF m 5 #[.val (.ref a1), .val (.long q2), .second] [(.ref a1), (.int (1 : Int32))])) rfl rfl (hb hby d4_5)
  obtain ⟨T829, X829, e829, st829⟩ := getF X828 hx hZ hown (host := "") (Or.inl (own_w hw 13 rfl)) Via.refl e828 c820 (g := (mkF m 12 #[.val (.ref a1), .val (.long q2), .second] [(.ref a1)])) rfl rfl (hb hby d4_12)
  obtain ⟨T830, X830, e830, st830⟩ := getF X829 hx hZ hown (host := "") (Or.inl (own_w hw 23 rfl)) Via.refl e829 Fw817 (g := (mkF m 16 #[.val (.ref a1), .val (.long q2), .second] [(.ref a1), (.ref am797)])) rfl rfl (hb hby d4_16)
  obtain ⟨cl831, A831, q831, S831, M831, H831, J831⟩ := id c824
  have hin831 : ¬ ((1 : Int32) < 0 ∨ cl831.slots.size ≤ ((1 : Int32)).toNatClampNeg) := inb_of S831 ⟨by decide, by decide⟩
  have hat831 : cl831.slots[((1 : Int32)).toNatClampNeg]? = some (.long x1) := H831.at hin831 rfl
  obtain ⟨T832, X832, e832, st832⟩ := getF X830 hx hZ hown (host := "") (Or.inl (own_w hw 16 rfl)) Via.refl e830 c821 (g := (mkF m 27 #[.val (.ref a1), .val (.long q2), .second] [(.ref a1), (.ref a1)])) rfl rfl (hb hby d4_27)
  obtain ⟨T833, X833, e833, st833⟩ := getF X832 hx hZ hown (host := "") (Or.inl (own_w hw 23 rfl)) Via.refl e832 Fw817 (g := (mkF m 31 #[.val (.ref a1), .val (.long q2), .second] [(.ref a1), (.ref ac797), (.ref a1)])) rfl rfl (hb hby d4_31)
  obtain ⟨cl834, A834, q834, S834, M834, H834, J834⟩ := id c825
  have hin834 : ¬ ((1 : Int32) < 0 ∨ cl834.slots.size ≤ ((1 : Int32)).toNatClampNeg) := inb_of S834 ⟨by decide, by decide⟩
  have hat834 : cl834.slots[((1 : Int32)).toNatClampNeg]? = some (.int y1) := H834.at hin834 rfl
  obtain ⟨T835, h835, X835, e835, W835, st835⟩ := putF X833 hx hZ hown (host := "") (Or.inl (own_w hw 27 rfl)) Via.refl e833 c826 c819 (Or.inl (own_w hw 28 rfl)) (own_w hw 4 rfl) (ty := .int) (by decide) rfl rfl (g := (mkF m 35 #[.val (.ref a1), .val (.long q2), .second] [(.int y1), (.ref a1)])) rfl rfl (hb hby d4_35)
  have Fw835 := c826.same W835
  have N835 := Fr.snoc X835 N817 Ga797
  have z836 : n0 ≤ h835.size := Nat.le_trans z818 (Keep.of_wr W835).1
  have c837 := c819.wr W835
  have c838 := c820.other W835 (Or.inr (own_sn_72 hw))
  have c839 := c821.other W835 (Or.inr (own_sn_73 hw))
  have c840 := c823.other W835 (Or.inr (own_sn_75 hw))
  have c841 := c824.other W835 (Ne.symm n1797)
  have c842 := c825.other W835 (Ne.symm n2797)
  have c844 := Fw817.other W835 (Or.inr (own_sn_74 hw))
  obtain ⟨T845, X845, e845, st845⟩ := getF X835 hx hZ hown (host := "") (Or.inl (own_w hw 23 rfl)) Via.refl e835 c844 (g := (mkF m 40 #[.val (.ref a1), .val (.long q2), .second] [(.ref a1), (.ref a1)])) rfl rfl (hb hby d4_40)
  obtain ⟨T846, h846, X846, e846, W846, st846⟩ := putF X845 hx hZ hown (host := "") (Or.inl (own_w hw 23 rfl)) Via.refl e845 c844 c837 (Or.inl (own_w hw 24 rfl)) (own_w hw 4 rfl) (ty := .int) (by decide) rfl rfl (g := (mkF m 45 #[.val (.ref a1), .val (.long q2), .second] [(.int (2 : Int32)), (.ref a1)])) rfl rfl (hb hby d4_45)
  have Fw846 := c844.same W846
  have N846 := Fr.snoc X846 N835 Ga797
  have z847 : n0 ≤ h846.size := Nat.le_trans z836 (Keep.of_wr W846).1
  have c848 := c837.wr W846
  have c849 := c838.other W846 (Or.inr (own_sn_134 hw))
  have c850 := c839.other W846 (Or.inr (own_sn_135 hw))
  have c851 := c840.other W846 (Or.inr (own_sn_136 hw))
  have c852 := c841.other W846 (Ne.symm n1797)
  have c853 := c842.other W846 (Ne.symm n2797)
  have c855 := Fw835.other W846 (Or.inr (own_sn_137 hw))
  obtain ⟨T856, X856, e856, st856⟩ := getF X846 hx hZ hown (host := "") (Or.inl (own_w hw 23 rfl)) Via.refl e846 Fw846 (g := (mkF m 1 #[.val (.ref a1), .val (.long q2), .second] [(.ref a1)])) rfl rfl (hb hby d4_1)
  obtain ⟨T857, X857, e857, st857⟩ := getF X856 hx hZ hown (host := "") (Or.inl (own_w hw 25 rfl)) Via.refl e856 c851 (g := (mkF m 5 #[.val (.ref a1), .val (.long q2), .second] [(.ref a1), (.int (2 : Int32))])) rfl rfl (hb hby d4_5)
  obtain ⟨T858, X858, e858, st858⟩ := getF X857 hx hZ hown (host := "") (Or.inl (own_w hw 13 rfl)) Via.refl e857 c849 (g := (mkF m 12 #[.val (.ref a1), .val (.long q2), .second] [(.ref a1)])) rfl rfl (hb hby d4_12)
  obtain ⟨T859, X859, e859, st859⟩ := getF X858 hx hZ hown (host := "") (Or.inl (own_w hw 23 rfl)) Via.refl e858 Fw846 (g := (mkF m 16 #[.val (.ref a1), .val (.long q2), .second] [(.ref a1), (.ref am797)])) rfl rfl (hb hby d4_16)
  obtain ⟨cl860, A860, q860, S860, M860, H860, J860⟩ := id c852
  have hin860 : ¬ ((2 : Int32) < 0 ∨ cl860.slots.size ≤ ((2 : Int32)).toNatClampNeg) := inb_of S860 ⟨by decide, by decide⟩
  have hat860 : cl860.slots[((2 : Int32)).toNatClampNeg]? = some (.long x2) := H860.at hin860 rfl
  obtain ⟨T861, X861, e861, st861⟩ := getF X859 hx hZ hown (host := "") (Or.inl (own_w hw 16 rfl)) Via.refl e859 c850 (g := (mkF m 27 #[.val (.ref a1), .val (.long q2), .second] [(.ref a1), (.ref a1)])) rfl rfl (hb hby d4_27)
  obtain ⟨T862, X862, e862, st862⟩ := getF X861 hx hZ hown (host := "") (Or.inl (own_w hw 23 rfl)) Via.refl e861 Fw846 (g := (mkF m 31 #[.val (.ref a1), .val (.long q2), .second] [(.ref a1), (.ref ac797), (.ref a1)])) rfl rfl (hb hby d4_31)
  obtain ⟨cl863, A863, q863, S863, M863, H863, J863⟩ := id c853
  have hin863 : ¬ ((2 : Int32) < 0 ∨ cl863.slots.size ≤ ((2 : Int32)).toNatClampNeg) := inb_of S863 ⟨by decide, by decide⟩
  have hat863 : cl863.slots[((2 : Int32)).toNatClampNeg]? = some (.int y2) := H863.at hin863 rfl
  obtain ⟨T864, h864, X864, e864, W864, st864⟩ := putF X862 hx hZ hown (host := "") (Or.inl (own_w hw 27 rfl)) Via.refl e862 c855 c848 (Or.inl (own_w hw 28 rfl)) (own_w hw 4 rfl) (ty := .int) (by decide) rfl rfl (g := (mkF m 35 #[.val (.ref a1), .val (.long q2), .second] [(.int y2), (.ref a1)])) rfl rfl (hb hby d4_35)
  have Fw864 := c855.same W864
  have N864 := Fr.snoc X864 N846 Ga797
  have z865 : n0 ≤ h864.size := Nat.le_trans z847 (Keep.of_wr W864).1
  have c866 := c848.wr W864
  have c867 := c849.other W864 (Or.inr (own_sn_72 hw))
  have c868 := c850.other W864 (Or.inr (own_sn_73 hw))
  have c869 := c851.other W864 (Or.inr (own_sn_75 hw))
  have c870 := c852.other W864 (Ne.symm n1797)
  have c871 := c853.other W864 (Ne.symm n2797)
  have c873 := Fw846.other W864 (Or.inr (own_sn_74 hw))
  obtain ⟨T874, X874, e874, st874⟩ := getF X864 hx hZ hown (host := "") (Or.inl (own_w hw 23 rfl)) Via.refl e864 c873 (g := (mkF m 40 #[.val (.ref a1), .val (.long q2), .second] [(.ref a1), (.ref a1)])) rfl rfl (hb hby d4_40)
  obtain ⟨T875, h875, X875, e875, W875, st875⟩ := putF X874 hx hZ hown (host := "") (Or.inl (own_w hw 23 rfl)) Via.refl e874 c873 c866 (Or.inl (own_w hw 24 rfl)) (own_w hw 4 rfl) (ty := .int) (by decide) rfl rfl (g := (mkF m 45 #[.val (.ref a1), .val (.long q2), .second] [(.int (3 : Int32)), (.ref a1)])) rfl rfl (hb hby d4_45)
  have Fw875 := c873.same W875
  have N875 := Fr.snoc X875 N864 Ga797
  have z876 : n0 ≤ h875.size := Nat.le_trans z865 (Keep.of_wr W875).1
  have c877 := c866.wr W875
  have c878 := c867.other W875 (Or.inr (own_sn_134 hw))
  have c879 := c868.other W875 (Or.inr (own_sn_135 hw))
  have c880 := c869.other W875 (Or.inr (own_sn_136 hw))
  have c881 := c870.other W875 (Ne.symm n1797)
  have c882 := c871.other W875 (Ne.symm n2797)
  have c884 := Fw864.other W875 (Or.inr (own_sn_137 hw))
  obtain ⟨T885, X885, e885, st885⟩ := getF X875 hx hZ hown (host := "") (Or.inl (own_w hw 23 rfl)) Via.refl e875 Fw875 (g := (mkF m 1 #[.val (.ref a1), .val (.long q2), .second] [(.ref a1)])) rfl rfl (hb hby d4_1)
  obtain ⟨T886, X886, e886, st886⟩ := getF X885 hx hZ hown (host := "") (Or.inl (own_w hw 25 rfl)) Via.refl e885 c880 (g := (mkF m 5 #[.val (.ref a1), .val (.long q2), .second] [(.ref a1), (.int (3 : Int32))])) rfl rfl (hb hby d4_5)
  have pre887 : ∀ t, Steps p.tables e below (T886.setTop (mkF m 51 #[.val (.ref a1), .val (.long q2), .second] [])) t → Steps p.tables e below (s₁.setTop (entryFrame m #[(.ref a1), (.long q2)] 3)) t := fun t kt => pre0 t (by
    show Steps p.tables e below (s₁.setTop (mkF m 0 #[.val (.ref a1), .val (.long q2), .second] [])) _
    refine XS.aloadN X0.here hx rfl (hb hby d4_0) rfl rfl ?_
    refine st798 _ ?_
    refine XS.aloadN X798.here hx rfl (hb hby d4_4) rfl rfl ?_
    refine st799 _ ?_
    refine XS.icmpNo X799.here hx rfl (hb hby d4_8) rfl (tlt (by decide : (0 : Int32) < (3 : Int32))).2.1 ?_
    refine XS.aloadN X799.here hx rfl (hb hby d4_11) rfl rfl ?_
    refine st800 _ ?_
    refine XS.aloadN X800.here hx rfl (hb hby d4_15) rfl rfl ?_
    refine st801 _ ?_
    refine X801.laload hx (j := (0 : Int32)) (v := (.long x0)) (by rw [e801]; exact A802.1) (State.isArrayOf_alike hZ.alike A802.2.1) A802.2.2 hin802 hat802 (g := (mkF m 19 #[.val (.ref a1), .val (.long q2), .second] [(.int (0 : Int32)), (.ref am797)])) rfl rfl (hb hby d4_19) _ ?_
    refine XS.lloadN X801.here hx rfl (hb hby d4_20) rfl ?_
    refine XS.lcmp X801.here hx rfl (hb hby d4_21) rfl ?_
    show Steps p.tables e below (T801.setTop (mkF m 22 #[.val (.ref a1), .val (.long q2), .second] [(.int (lcmpW x0 q2))])) _
    refine XS.ifNo X801.here hx rfl (hb hby d4_22) rfl ((if0 _ _).trans (tlt ((lw_lt _ _).mpr c0)).2.1) ?_
    refine XS.aloadN X801.here hx rfl (hb hby d4_25) rfl rfl ?_
    refine XS.aloadN X801.here hx rfl (hb hby d4_26) rfl rfl ?_
    refine st803 _ ?_
    refine XS.aloadN X803.here hx rfl (hb hby d4_30) rfl rfl ?_
    refine st804 _ ?_
    refine X804.iaload hx (j := (0 : Int32)) (v := (.int y0)) (by rw [e804]; exact A805.1) (State.isArrayOf_alike hZ.alike A805.2.1) A805.2.2 hin805 hat805 (g := (mkF m 34 #[.val (.ref a1), .val (.long q2), .second] [(.int (0 : Int32)), (.ref ac797), (.ref a1)])) rfl rfl (hb hby d4_34) _ ?_
    refine st806 _ ?_
    refine XS.aloadN X806.here hx rfl (hb hby d4_38) rfl rfl ?_
    refine XS.dup X806.here hx rfl (hb hby d4_39) rfl rfl ?_
    refine st816 _ ?_
    refine XS.iconst X816.here hx rfl (hb hby d4_43) ?_
    show Steps p.tables e below (T816.setTop (mkF m 44 #[.val (.ref a1), .val (.long q2), .second] [(.int (1 : Int32)), (.int (0 : Int32)), (.ref a1)])) _
    refine XS.iadd X816.here hx rfl (hb hby d4_44) rfl ?_
    refine st817 _ ?_
    refine XS.goto X817.here hx rfl (pc0 := 48) (pc' := 0) rfl (hb hby d4_48) (by decide) (by decide) ?_
    refine XS.aloadN X817.here hx rfl (hb hby d4_0) rfl rfl ?_
    refine st827 _ ?_
    refine XS.aloadN X827.here hx rfl (hb hby d4_4) rfl rfl ?_
    refine st828 _ ?_
    refine XS.icmpNo X828.here hx rfl (hb hby d4_8) rfl (tlt (by decide : (1 : Int32) < (3 : Int32))).2.1 ?_
    refine XS.aloadN X828.here hx rfl (hb hby d4_11) rfl rfl ?_
    refine st829 _ ?_
    refine XS.aloadN X829.here hx rfl (hb hby d4_15) rfl rfl ?_
    refine st830 _ ?_
    show Steps p.tables e below (T830.setTop (mkF m 19 #[.val (.ref a1), .val (.long q2), .second] [(.int (1 : Int32)), (.ref am797)])) _
    refine X830.laload hx (j := (1 : Int32)) (v := (.long x1)) (by rw [e830]; exact A831.1) (State.isArrayOf_alike hZ.alike A831.2.1) A831.2.2 hin831 hat831 (g := (mkF m 19 #[.val (.ref a1), .val (.long q2), .second] [(.int (1 : Int32)), (.ref am797)])) rfl rfl (hb hby d4_19) _ ?_
    refine XS.lloadN X830.here hx rfl (hb hby d4_20) rfl ?_
    refine XS.lcmp X830.here hx rfl (hb hby d4_21) rfl ?_
    refine XS.ifNo X830.here hx rfl (hb hby d4_22) rfl ((if0 _ _).trans (tlt ((lw_lt _ _).mpr c1)).2.1) ?_
    refine XS.aloadN X830.here hx rfl (hb hby d4_25) rfl rfl ?_
    refine XS.aloadN X830.here hx rfl (hb hby d4_26) rfl rfl ?_
    refine st832 _ ?_
    refine XS.aloadN X832.here hx rfl (hb hby d4_30) rfl rfl ?_
    refine st833 _ ?_
    refine X833.iaload hx (j := (1 : Int32)) (v := (.int y1)) (by rw [e833]; exact A834.1) (State.isArrayOf_alike hZ.alike A834.2.1) A834.2.2 hin834 hat834 (g := (mkF m 34 #[.val (.ref a1), .val (.long q2), .second] [(.int (1 : Int32)), (.ref ac797), (.ref a1)])) rfl rfl (hb hby d4_34) _ ?_
    refine st835 _ ?_
    refine XS.aloadN X835.here hx rfl (hb hby d4_38) rfl rfl ?_
    show Steps p.tables e below (T835.setTop (mkF m 39 #[.val (.ref a1), .val (.long q2), .second] [(.ref a1)])) _
    refine XS.dup X835.here hx rfl (hb hby d4_39) rfl rfl ?_
    refine st845 _ ?_
    refine XS.iconst X845.here hx rfl (hb hby d4_43) ?_
    refine XS.iadd X845.here hx rfl (hb hby d4_44) rfl ?_
    refine st846 _ ?_
    refine XS.goto X846.here hx rfl (pc0 := 48) (pc' := 0) rfl (hb hby d4_48) (by decide) (by decide) ?_
    refine XS.aloadN X846.here hx rfl (hb hby d4_0) rfl rfl ?_
    refine st856 _ ?_
    refine XS.aloadN X856.here hx rfl (hb hby d4_4) rfl rfl ?_
    refine st857 _ ?_
    refine XS.icmpNo X857.here hx rfl (hb hby d4_8) rfl (tlt (by decide : (2 : Int32) < (3 : Int32))).2.1 ?_
    refine XS.aloadN X857.here hx rfl (hb hby d4_11) rfl rfl ?_
    show Steps p.tables e below (T857.setTop (mkF m 12 #[.val (.ref a1), .val (.long q2), .second] [(.ref a1)])) _
    refine st858 _ ?_
    refine XS.aloadN X858.here hx rfl (hb hby d4_15) rfl rfl ?_
    refine st859 _ ?_
    refine X859.laload hx (j := (2 : Int32)) (v := (.long x2)) (by rw [e859]; exact A860.1) (State.isArrayOf_alike hZ.alike A860.2.1) A860.2.2 hin860 hat860 (g := (mkF m 19 #[.val (.ref a1), .val (.long q2), .second] [(.int (2 : Int32)), (.ref am797)])) rfl rfl (hb hby d4_19) _ ?_
    refine XS.lloadN X859.here hx rfl (hb hby d4_20) rfl ?_
    refine XS.lcmp X859.here hx rfl (hb hby d4_21) rfl ?_
    refine XS.ifNo X859.here hx rfl (hb hby d4_22) rfl ((if0 _ _).trans (tlt ((lw_lt _ _).mpr c2)).2.1) ?_
    refine XS.aloadN X859.here hx rfl (hb hby d4_25) rfl rfl ?_
    refine XS.aloadN X859.here hx rfl (hb hby d4_26) rfl rfl ?_
    refine st861 _ ?_
    refine XS.aloadN X861.here hx rfl (hb hby d4_30) rfl rfl ?_
    refine st862 _ ?_
    show Steps p.tables e below (T862.setTop (mkF m 34 #[.val (.ref a1), .val (.long q2), .second] [(.int (2 : Int32)), (.ref ac797), (.ref a1)])) _
    refine X862.iaload hx (j := (2 : Int32)) (v := (.int y2)) (by rw [e862]; exact A863.1) (State.isArrayOf_alike hZ.alike A863.2.1) A863.2.2 hin863 hat863 (g := (mkF m 34 #[.val (.ref a1), .val (.long q2), .second] [(.int (2 : Int32)), (.ref ac797), (.ref a1)])) rfl rfl (hb hby d4_34) _ ?_
    refine st864 _ ?_
    refine XS.aloadN X864.here hx rfl (hb hby d4_38) rfl rfl ?_
    refine XS.dup X864.here hx rfl (hb hby d4_39) rfl rfl ?_
    refine st874 _ ?_
    refine XS.iconst X874.here hx rfl (hb hby d4_43) ?_
    refine XS.iadd X874.here hx rfl (hb hby d4_44) rfl ?_
    refine st875 _ ?_
    refine XS.goto X875.here hx rfl (pc0 := 48) (pc' := 0) rfl (hb hby d4_48) (by decide) (by decide) ?_
    refine XS.aloadN X875.here hx rfl (hb hby d4_0) rfl rfl ?_
    refine st885 _ ?_
    refine XS.aloadN X885.here hx rfl (hb hby d4_4) rfl rfl ?_
    show Steps p.tables e below (T885.setTop (mkF m 5 #[.val (.ref a1), .val (.long q2), .second] [(.ref a1), (.int (3 : Int32))])) _
    refine st886 _ ?_
    refine XS.icmpYes X886.here hx rfl (pc0 := 8) (pc' := 51) rfl (hb hby d4_8) rfl (flt (by decide : ¬ ((3 : Int32) < (3 : Int32)))).2.1 (by decide) (by decide) ?_
    exact kt)
  have hz : h0.size ≤ h875.size := Nat.le_trans (Nat.le_trans (Nat.le_trans (Nat.le_trans (Nat.le_trans (Nat.le_trans (Nat.le_refl _) (Keep.of_wr W806).1) (Keep.of_wr W817).1) (Keep.of_wr W835).1) (Keep.of_wr W846).1) (Keep.of_wr W864).1) (Keep.of_wr W875).1
  have hQ : QFgt034_3 Z a1 q2 x0 x1 x2 x3 y0 y1 y2 y3 b h0 n0 none h875 _ := ⟨rfl, N875, hz, ⟨am797, ac797, km797, kc797, c877, c878, c879, Fw875, c880, c884, c881, c882, Ga797, Gm797, Gc797, n1797, n2797, n3797⟩⟩
  exact own_retV X886 hx Bd.notSynchronized Bd.returns (hb hby d4_51) pre887 (show QFgt034_3 Z a1 q2 x0 x1 x2 x3 y0 y1 y2 y3 b h0 n0 _ _ _ from (by rw [e886]; exact hQ)) (by decide) (by decide)
def QFgt034_2 (Z : State) (a1 : Addr) (q2 : Int64) (x0 : Int64) (x1 : Int64) (x2 : Int64) (x3 : Int64) (y0 : Int32) (y1 : Int32) (y2 : Int32) (y3 : Int32) (b : Int32) (h0 : Heap) (n0 : Nat) (v : Option Value) (h : Heap) (L : List Loc) : Prop := v = none ∧ Fr n0 L ∧ h0.size ≤ h.size ∧ PT Z h n0 a1 (2 : Int32) (3 : Int32) (4 : Int32) [(.long x0), (.long x1), (.long x2), (.long x3)] [(.int y0), (.int y1), (.int y2), (.int y3)] y1
set_option maxRecDepth 65536 in
set_option maxHeartbeats 40000000 in
theorem rmFgt034_2 (l : Launch) (Z : State) (a0 : Array Value) (hw : ∀ d ∈ tables_1, d.before a0 Z = true) (ws : List Jvm.Cond) (a1 : Addr) (q2 : Int64) (x0 : Int64) (x1 : Int64) (x2 : Int64) (x3 : Int64) (y0 : Int32) (y1 : Int32) (y2 : Int32) (y3 : Int32) (b : Int32) (h0 : Heap) (n0 : Nat) (Z0 : n0 ≤ h0.size) (P0 : PT Z h0 n0 a1 (0 : Int32) (3 : Int32) (4 : Int32) [(.long x0), (.long x1), (.long x2), (.long x3)] [(.int y0), (.int y1), (.int y2), (.int y3)] b) (c0 : x0 < q2) (c1 : x1 < q2) (c2 : ¬ (x2 < q2)) :
    MetFree l own_y_32 (head1 (Jvm.Cond.code own_y_32 prog_25_method_4_code 3 none :: ws) ({ frames := 0, cells := 0, slots := 0, locals := 0 } : Room)) (fun a U => a = #[(.ref a1), (.long q2)] ∧ Z.Warmed39 U.vm ∧ U.heap = h0) (fun _ _ _ _ _ => True) (fun _ U o U' => ∃ v L, o = .returned v ∧ QFgt034_2 Z a1 q2 x0 x1 x2 x3 y0 y1 y2 y3 b h0 n0 v U'.heap L ∧ FrameEnd U o U' L ({ frames := 0, cells := 0, slots := 0, locals := 0 } : Room).cells ({ frames := 0, cells := 0, slots := 0, locals := 0 } : Room).slots) := by
  refine MetFree.of_bodySF (plainFor_of_name pn_2) hisR ?_
  intro p e s m args below meth c s₁ Bd hml0 hP hK
  obtain ⟨rfl, hZ, hh⟩ := hP
  have hx := Bd.exec
  have hby := Bd.bytes
  have hml : c.maxLocals = 3 := hml0
  have hown : s.vm.findClass "com/example/viral_counter/viralcounter/PostTrend" = some m.cls := findClass_of_methodNamed Bd.named
  have hnm := (name_of_methodNamed Bd.named Bd.method).1
  have X0 : Stand p l e ({ frames := 0, cells := 0, slots := 0, locals := 0 } : Room) s m #[(.ref a1), (.long q2)] below meth c s₁ [] 0 0 := Stand.of_body Bd
  have e0 : s₁.heap = h0 := by rw [← hh, Bd.state]; rfl
  have N0 := Fr.nil n0
  have pre0 : ∀ t, Steps p.tables e below (s₁.setTop (mkF m 0 #[.val (.ref a1), .val (.long q2), .second] [])) t → Steps p.tables e below (s₁.setTop (entryFrame m #[(.ref a1), (.long q2)] 3)) t := fun t k => castTop (ef_33 m a1 q2) k
  obtain ⟨am894, ac894, km894, kc894, E894, Fm894, Fc894, Ff894, Fe894, Fb894, Vm894, Vc894, Ga894, Gm894, Gc894, n1894, n2894, n3894⟩ := id P0
  have hz0 : h0.size ≤ h0.size := Nat.le_refl _
  obtain ⟨T895, X895, e895, st895⟩ := getF X0 hx hZ hown (host := "") (Or.inl (own_w hw 23 rfl)) Via.refl e0 Ff894 (g := (mkF m 1 #[.val (.ref a1), .val (.long q2), .second] [(.ref a1)])) rfl rfl (hb hby d4_1)
  obtain ⟨T896, X896, e896, st896⟩ := getF X895 hx hZ hown (host := "") (Or.inl (own_w hw 25 rfl)) Via.refl e895 Fe894 (g := (mkF m 5 #[.val (.ref a1), .val (.long q2), .second] [(.ref a1), (.int (0 : Int32))])) rfl rfl (hb hby d4_5)
  obtain ⟨T897, X897, e897, st897⟩ := getF X896 hx hZ hown (host := "") (Or.inl (own_w hw 13 rfl)) Via.refl e896 Fm894 (g := (mkF m 12 #[.val (.ref a1), .val (.long q2), .second] [(.ref a1)])) rfl rfl (hb hby d4_12)
  obtain ⟨T898, X898, e898, st898⟩ := getF X897 hx hZ hown (host := "") (Or.inl (own_w hw 23 rfl)) Via.refl e897 Ff894 (g := (mkF m 16 #[.val (.ref a1), .val (.long q2), .second] [(.ref a1), (.ref am894)])) rfl rfl (hb hby d4_16)
  obtain ⟨cl899, A899, q899, S899, M899, H899, J899⟩ := id Vm894
  have hin899 : ¬ ((0 : Int32) < 0 ∨ cl899.slots.size ≤ ((0 : Int32)).toNatClampNeg) := inb_of S899 ⟨by decide, by decide⟩
  have hat899 : cl899.slots[((0 : Int32)).toNatClampNeg]? = some (.long x0) := H899.at hin899 rfl
  obtain ⟨T900, X900, e900, st900⟩ := getF X898 hx hZ hown (host := "") (Or.inl (own_w hw 16 rfl)) Via.refl e898 Fc894 (g := (mkF m 27 #[.val (.ref a1), .val (.long q2), .second] [(.ref a1), (.ref a1)])) rfl rfl (hb hby d4_27)
  obtain ⟨T901, X901, e901, st901⟩ := getF X900 hx hZ hown (host := "") (Or.inl (own_w hw 23 rfl)) Via.refl e900 Ff894 (g := (mkF m 31 #[.val (.ref a1), .val (.long q2), .second] [(.ref a1), (.ref ac894), (.ref a1)])) rfl rfl (hb hby d4_31)
  obtain ⟨cl902, A902, q902, S902, M902, H902, J902⟩ := id Vc894
  have hin902 : ¬ ((0 : Int32) < 0 ∨ cl902.slots.size ≤ ((0 : Int32)).toNatClampNeg) := inb_of S902 ⟨by decide, by decide⟩
  have hat902 : cl902.slots[((0 : Int32)).toNatClampNeg]? = some (.int y0) := H902.at hin902 rfl
  obtain ⟨T903, h903, X903, e903, W903, st903⟩ := putF X901 hx hZ hown (host := "") (Or.inl (own_w hw 27 rfl)) Via.refl e901 Fb894 E894 (Or.inl (own_w hw 28 rfl)) (own_w hw 4 rfl) (ty := .int) (by decide) rfl rfl (g := (mkF m 35 #[.val (.ref a1), .val (.long q2), .second] [(.int y0), (.ref a1)])) rfl rfl (hb hby d4_35)
  have Fw903 := Fb894.same W903
  have N903 := Fr.snoc X903 N0 Ga894
  have z904 : n0 ≤ h903.size := Nat.le_trans Z0 (Keep.of_wr W903).1
  have c905 := E894.wr W903
  have c906 := Fm894.other W903 (Or.inr (own_sn_72 hw))
  have c907 := Fc894.other W903 (Or.inr (own_sn_73 hw))
  have c908 := Ff894.other W903 (Or.inr (own_sn_74 hw))
  have c909 := Fe894.other W903 (Or.inr (own_sn_75 hw))
  have c911 := Vm894.other W903 (Ne.symm n1894)
  have c912 := Vc894.other W903 (Ne.symm n2894)
  obtain ⟨T913, X913, e913, st913⟩ := getF X903 hx hZ hown (host := "") (Or.inl (own_w hw 23 rfl)) Via.refl e903 c908 (g := (mkF m 40 #[.val (.ref a1), .val (.long q2), .second] [(.ref a1), (.ref a1)])) rfl rfl (hb hby d4_40)
  obtain ⟨T914, h914, X914, e914, W914, st914⟩ := putF X913 hx hZ hown (host := "") (Or.inl (own_w hw 23 rfl)) Via.refl e913 c908 c905 (Or.inl (own_w hw 24 rfl)) (own_w hw 4 rfl) (ty := .int) (by decide) rfl rfl (g := (mkF m 45 #[.val (.ref a1), .val (.long q2), .second] [(.int (1 : Int32)), (.ref a1)])) rfl rfl (hb hby d4_45)
  have Fw914 := c908.same W914
  have N914 := Fr.snoc X914 N903 Ga894
  have z915 : n0 ≤ h914.size := Nat.le_trans z904 (Keep.of_wr W914).1
  have c916 := c905.wr W914
  have c917 := c906.other W914 (Or.inr (own_sn_134 hw))
  have c918 := c907.other W914 (Or.inr (own_sn_135 hw))
  have c920 := c909.other W914 (Or.inr (own_sn_136 hw))
  have c921 := c911.other W914 (Ne.symm n1894)
  have c922 := c912.other W914 (Ne.symm n2894)
  have c923 := Fw903.other W914 (Or.inr (own_sn_137 hw))
  obtain ⟨T924, X924, e924, st924⟩ := getF X914 hx hZ hown (host := "") (Or.inl (own_w hw 23 rfl)) Via.refl e914 Fw914 (g := (mkF m 1 #[.val (.ref a1), .val (.long q2), .second] [(.ref a1)])) rfl rfl (hb hby d4_1)
  obtain ⟨T925, X925, e925, st925⟩ := getF X924 hx hZ hown (host := "") (Or.inl (own_w hw 25 rfl)) Via.refl e924 c920 (g := (mkF m 5 #[.val (.ref a1), .val (.long q2), .second] [(.ref a1), (.int (1 : Int32))])) rfl rfl (hb hby d4_5)
  obtain ⟨T926, X926, e926, st926⟩ := getF X925 hx hZ hown (host := "") (Or.inl (own_w hw 13 rfl)) Via.refl e925 c917 (g := (mkF m 12 #[.val (.ref a1), .val (.long q2), .second] [(.ref a1)])) rfl rfl (hb hby d4_12)
  obtain ⟨T927, X927, e927, st927⟩ := getF X926 hx hZ hown (host := "") (Or.inl (own_w hw 23 rfl)) Via.refl e926 Fw914 (g := (mkF m 16 #[.val (.ref a1), .val (.long q2), .second] [(.ref a1), (.ref am894)])) rfl rfl (hb hby d4_16)
  obtain ⟨cl928, A928, q928, S928, M928, H928, J928⟩ := id c921
  have hin928 : ¬ ((1 : Int32) < 0 ∨ cl928.slots.size ≤ ((1 : Int32)).toNatClampNeg) := inb_of S928 ⟨by decide, by decide⟩
  have hat928 : cl928.slots[((1 : Int32)).toNatClampNeg]? = some (.long x1) := H928.at hin928 rfl
  obtain ⟨T929, X929, e929, st929⟩ := getF X927 hx hZ hown (host := "") (Or.inl (own_w hw 16 rfl)) Via.refl e927 c918 (g := (mkF m 27 #[.val (.ref a1), .val (.long q2), .second] [(.ref a1), (.ref a1)])) rfl rfl (hb hby d4_27)
  obtain ⟨T930, X930, e930, st930⟩ := getF X929 hx hZ hown (host := "") (Or.inl (own_w hw 23 rfl)) Via.refl e929 Fw914 (g := (mkF m 31 #[.val (.ref a1), .val (.long q2), .second] [(.ref a1), (.ref ac894), (.ref a1)])) rfl rfl (hb hby d4_31)
  obtain ⟨cl931, A931, q931, S931, M931, H931, J931⟩ := id c922
  have hin931 : ¬ ((1 : Int32) < 0 ∨ cl931.slots.size ≤ ((1 : Int32)).toNatClampNeg) := inb_of S931 ⟨by decide, by decide⟩
  have hat931 : cl931.slots[((1 : Int32)).toNatClampNeg]? = some (.int y1) := H931.at hin931 rfl
  obtain ⟨T932, h932, X932, e932, W932, st932⟩ := putF X930 hx hZ hown (host := "") (Or.inl (own_w hw 27 rfl)) Via.refl e930 c923 c916 (Or.inl (own_w hw 28 rfl)) (own_w hw 4 rfl) (ty := .int) (by decide) rfl rfl (g := (mkF m 35 #[.val (.ref a1), .val (.long q2), .second] [(.int y1), (.ref a1)])) rfl rfl (hb hby d4_35)
  have Fw932 := c923.same W932
  have N932 := Fr.snoc X932 N914 Ga894
  have z933 : n0 ≤ h932.size := Nat.le_trans z915 (Keep.of_wr W932).1
  have c934 := c916.wr W932
  have c935 := c917.other W932 (Or.inr (own_sn_72 hw))
  have c936 := c918.other W932 (Or.inr (own_sn_73 hw))
  have c937 := c920.other W932 (Or.inr (own_sn_75 hw))
  have c938 := c921.other W932 (Ne.symm n1894)
  have c939 := c922.other W932 (Ne.symm n2894)
  have c941 := Fw914.other W932 (Or.inr (own_sn_74 hw))
  obtain ⟨T942, X942, e942, st942⟩ := getF X932 hx hZ hown (host := "") (Or.inl (own_w hw 23 rfl)) Via.refl e932 c941 (g := (mkF m 40 #[.val (.ref a1), .val (.long q2), .second] [(.ref a1), (.ref a1)])) rfl rfl (hb hby d4_40)
  obtain ⟨T943, h943, X943, e943, W943, st943⟩ := putF X942 hx hZ hown (host := "") (Or.inl (own_w hw 23 rfl)) Via.refl e942 c941 c934 (Or.inl (own_w hw 24 rfl)) (own_w hw 4 rfl) (ty := .int) (by decide) rfl rfl (g := (mkF m 45 #[.val (.ref a1), .val (.long q2), .second] [(.int (2 : Int32)), (.ref a1)])) rfl rfl (hb hby d4_45)
  have Fw943 := c941.same W943
  have N943 := Fr.snoc X943 N932 Ga894
  have z944 : n0 ≤ h943.size := Nat.le_trans z933 (Keep.of_wr W943).1
  have c945 := c934.wr W943
  have c946 := c935.other W943 (Or.inr (own_sn_134 hw))
  have c947 := c936.other W943 (Or.inr (own_sn_135 hw))
  have c948 := c937.other W943 (Or.inr (own_sn_136 hw))
  have c949 := c938.other W943 (Ne.symm n1894)
  have c950 := c939.other W943 (Ne.symm n2894)
  have c952 := Fw932.other W943 (Or.inr (own_sn_137 hw))
  obtain ⟨T953, X953, e953, st953⟩ := getF X943 hx hZ hown (host := "") (Or.inl (own_w hw 23 rfl)) Via.refl e943 Fw943 (g := (mkF m 1 #[.val (.ref a1), .val (.long q2), .second] [(.ref a1)])) rfl rfl (hb hby d4_1)
  obtain ⟨T954, X954, e954, st954⟩ := getF X953 hx hZ hown (host := "") (Or.inl (own_w hw 25 rfl)) Via.refl e953 c948 (g := (mkF m 5 #[.val (.ref a1), .val (.long q2), .second] [(.ref a1), (.int (2 : Int32))])) rfl rfl (hb hby d4_5)
  obtain ⟨T955, X955, e955, st955⟩ := getF X954 hx hZ hown (host := "") (Or.inl (own_w hw 13 rfl)) Via.refl e954 c946 (g := (mkF m 12 #[.val (.ref a1), .val (.long q2), .second] [(.ref a1)])) rfl rfl (hb hby d4_12)
  obtain ⟨T956, X956, e956, st956⟩ := getF X955 hx hZ hown (host := "") (Or.inl (own_w hw 23 rfl)) Via.refl e955 Fw943 (g := (mkF m 16 #[.val (.ref a1), .val (.long q2), .second] [(.ref a1), (.ref am894)])) rfl rfl (hb hby d4_16)
  obtain ⟨cl957, A957, q957, S957, M957, H957, J957⟩ := id c949
  have hin957 : ¬ ((2 : Int32) < 0 ∨ cl957.slots.size ≤ ((2 : Int32)).toNatClampNeg) := inb_of S957 ⟨by decide, by decide⟩
  have hat957 : cl957.slots[((2 : Int32)).toNatClampNeg]? = some (.long x2) := H957.at hin957 rfl
  have pre958 : ∀ t, Steps p.tables e below (T956.setTop (mkF m 51 #[.val (.ref a1), .val (.long q2), .second] [])) t → Steps p.tables e below (s₁.setTop (entryFrame m #[(.ref a1), (.long q2)] 3)) t := fun t kt => pre0 t (by
    show Steps p.tables e below (s₁.setTop (mkF m 0 #[.val (.ref a1), .val (.long q2), .second] [])) _
    refine XS.aloadN X0.here hx rfl (hb hby d4_0) rfl rfl ?_
    refine st895 _ ?_
    refine XS.aloadN X895.here hx rfl (hb hby d4_4) rfl rfl ?_
    refine st896 _ ?_
    refine XS.icmpNo X896.here hx rfl (hb hby d4_8) rfl (tlt (by decide : (0 : Int32) < (3 : Int32))).2.1 ?_
    refine XS.aloadN X896.here hx rfl (hb hby d4_11) rfl rfl ?_
    refine st897 _ ?_
    refine XS.aloadN X897.here hx rfl (hb hby d4_15) rfl rfl ?_
    refine st898 _ ?_
    refine X898.laload hx (j := (0 : Int32)) (v := (.long x0)) (by rw [e898]; exact A899.1) (State.isArrayOf_alike hZ.alike A899.2.1) A899.2.2 hin899 hat899 (g := (mkF m 19 #[.val (.ref a1), .val (.long q2), .second] [(.int (0 : Int32)), (.ref am894)])) rfl rfl (hb hby d4_19) _ ?_
    refine XS.lloadN X898.here hx rfl (hb hby d4_20) rfl ?_
    refine XS.lcmp X898.here hx rfl (hb hby d4_21) rfl ?_
    show Steps p.tables e below (T898.setTop (mkF m 22 #[.val (.ref a1), .val (.long q2), .second] [(.int (lcmpW x0 q2))])) _
    refine XS.ifNo X898.here hx rfl (hb hby d4_22) rfl ((if0 _ _).trans (tlt ((lw_lt _ _).mpr c0)).2.1) ?_
    refine XS.aloadN X898.here hx rfl (hb hby d4_25) rfl rfl ?_
    refine XS.aloadN X898.here hx rfl (hb hby d4_26) rfl rfl ?_
    refine st900 _ ?_
    refine XS.aloadN X900.here hx rfl (hb hby d4_30) rfl rfl ?_
    refine st901 _ ?_
    refine X901.iaload hx (j := (0 : Int32)) (v := (.int y0)) (by rw [e901]; exact A902.1) (State.isArrayOf_alike hZ.alike A902.2.1) A902.2.2 hin902 hat902 (g := (mkF m 34 #[.val (.ref a1), .val (.long q2), .second] [(.int (0 : Int32)), (.ref ac894), (.ref a1)])) rfl rfl (hb hby d4_34) _ ?_
    refine st903 _ ?_
    refine XS.aloadN X903.here hx rfl (hb hby d4_38) rfl rfl ?_
    refine XS.dup X903.here hx rfl (hb hby d4_39) rfl rfl ?_
    refine st913 _ ?_
    refine XS.iconst X913.here hx rfl (hb hby d4_43) ?_
    show Steps p.tables e below (T913.setTop (mkF m 44 #[.val (.ref a1), .val (.long q2), .second] [(.int (1 : Int32)), (.int (0 : Int32)), (.ref a1)])) _
    refine XS.iadd X913.here hx rfl (hb hby d4_44) rfl ?_
    refine st914 _ ?_
    refine XS.goto X914.here hx rfl (pc0 := 48) (pc' := 0) rfl (hb hby d4_48) (by decide) (by decide) ?_
    refine XS.aloadN X914.here hx rfl (hb hby d4_0) rfl rfl ?_
    refine st924 _ ?_
    refine XS.aloadN X924.here hx rfl (hb hby d4_4) rfl rfl ?_
    refine st925 _ ?_
    refine XS.icmpNo X925.here hx rfl (hb hby d4_8) rfl (tlt (by decide : (1 : Int32) < (3 : Int32))).2.1 ?_
    refine XS.aloadN X925.here hx rfl (hb hby d4_11) rfl rfl ?_
    refine st926 _ ?_
    refine XS.aloadN X926.here hx rfl (hb hby d4_15) rfl rfl ?_
    refine st927 _ ?_
    show Steps p.tables e below (T927.setTop (mkF m 19 #[.val (.ref a1), .val (.long q2), .second] [(.int (1 : Int32)), (.ref am894)])) _
    refine X927.laload hx (j := (1 : Int32)) (v := (.long x1)) (by rw [e927]; exact A928.1) (State.isArrayOf_alike hZ.alike A928.2.1) A928.2.2 hin928 hat928 (g := (mkF m 19 #[.val (.ref a1), .val (.long q2), .second] [(.int (1 : Int32)), (.ref am894)])) rfl rfl (hb hby d4_19) _ ?_
    refine XS.lloadN X927.here hx rfl (hb hby d4_20) rfl ?_
    refine XS.lcmp X927.here hx rfl (hb hby d4_21) rfl ?_
    refine XS.ifNo X927.here hx rfl (hb hby d4_22) rfl ((if0 _ _).trans (tlt ((lw_lt _ _).mpr c1)).2.1) ?_
    refine XS.aloadN X927.here hx rfl (hb hby d4_25) rfl rfl ?_
    refine XS.aloadN X927.here hx rfl (hb hby d4_26) rfl rfl ?_
    refine st929 _ ?_
    refine XS.aloadN X929.here hx rfl (hb hby d4_30) rfl rfl ?_
    refine st930 _ ?_
    refine X930.iaload hx (j := (1 : Int32)) (v := (.int y1)) (by rw [e930]; exact A931.1) (State.isArrayOf_alike hZ.alike A931.2.1) A931.2.2 hin931 hat931 (g := (mkF m 34 #[.val (.ref a1), .val (.long q2), .second] [(.int (1 : Int32)), (.ref ac894), (.ref a1)])) rfl rfl (hb hby d4_34) _ ?_
    refine st932 _ ?_
    refine XS.aloadN X932.here hx rfl (hb hby d4_38) rfl rfl ?_
    show Steps p.tables e below (T932.setTop (mkF m 39 #[.val (.ref a1), .val (.long q2), .second] [(.ref a1)])) _
    refine XS.dup X932.here hx rfl (hb hby d4_39) rfl rfl ?_
    refine st942 _ ?_
    refine XS.iconst X942.here hx rfl (hb hby d4_43) ?_
    refine XS.iadd X942.here hx rfl (hb hby d4_44) rfl ?_
    refine st943 _ ?_
    refine XS.goto X943.here hx rfl (pc0 := 48) (pc' := 0) rfl (hb hby d4_48) (by decide) (by decide) ?_
    refine XS.aloadN X943.here hx rfl (hb hby d4_0) rfl rfl ?_
    refine st953 _ ?_
    refine XS.aloadN X953.here hx rfl (hb hby d4_4) rfl rfl ?_
    refine st954 _ ?_
    refine XS.icmpNo X954.here hx rfl (hb hby d4_8) rfl (tlt (by decide : (2 : Int32) < (3 : Int32))).2.1 ?_
    refine XS.aloadN X954.here hx rfl (hb hby d4_11) rfl rfl ?_
    show Steps p.tables e below (T954.setTop (mkF m 12 #[.val (.ref a1), .val (.long q2), .second] [(.ref a1)])) _
    refine st955 _ ?_
    refine XS.aloadN X955.here hx rfl (hb hby d4_15) rfl rfl ?_
    refine st956 _ ?_
    refine X956.laload hx (j := (2 : Int32)) (v := (.long x2)) (by rw [e956]; exact A957.1) (State.isArrayOf_alike hZ.alike A957.2.1) A957.2.2 hin957 hat957 (g := (mkF m 19 #[.val (.ref a1), .val (.long q2), .second] [(.int (2 : Int32)), (.ref am894)])) rfl rfl (hb hby d4_19) _ ?_
    refine XS.lloadN X956.here hx rfl (hb hby d4_20) rfl ?_
    refine XS.lcmp X956.here hx rfl (hb hby d4_21) rfl ?_
    refine XS.ifYes X956.here hx rfl (pc0 := 22) (pc' := 51) rfl (hb hby d4_22) rfl ((if0 _ _).trans (flt (fun q => c2 ((lw_lt _ _).mp q))).2.1) (by decide) (by decide) ?_
    exact kt)
  have hz : h0.size ≤ h943.size := Nat.le_trans (Nat.le_trans (Nat.le_trans (Nat.le_trans (Nat.le_refl _) (Keep.of_wr W903).1) (Keep.of_wr W914).1) (Keep.of_wr W932).1) (Keep.of_wr W943).1
  have hQ : QFgt034_2 Z a1 q2 x0 x1 x2 x3 y0 y1 y2 y3 b h0 n0 none h943 _ := ⟨rfl, N943, hz, ⟨am894, ac894, km894, kc894, c945, c946, c947, Fw943, c948, c952, c949, c950, Ga894, Gm894, Gc894, n1894, n2894, n3894⟩⟩
  exact own_retV X956 hx Bd.notSynchronized Bd.returns (hb hby d4_51) pre958 (show QFgt034_2 Z a1 q2 x0 x1 x2 x3 y0 y1 y2 y3 b h0 n0 _ _ _ from (by rw [e956]; exact hQ)) (by decide) (by decide)
set_option maxRecDepth 65536 in
set_option maxHeartbeats 40000000 in
theorem rmBs234 (l : Launch) (Z : State) (a0 : Array Value) (hw : ∀ d ∈ tables_1, d.before a0 Z = true) (ws : List Jvm.Cond) (a1 : Addr) (q4 : Int64) (k0 : ClassId) (x0 : Int64) (x1 : Int64) (x2 : Int64) (x3 : Int64) (r : Int32) (h0 : Heap) (n0 : Nat) (Z0 : n0 ≤ h0.size) (V0 : Arv Z h0 a1 k0 .long (4 : Int32) [(.long x0), (.long x1), (.long x2), (.long x3)] (.long (0 : Int64))) (er : (if x2 < q4 then (-4 : Int32) else (if q4 < x2 then (-3 : Int32) else (2 : Int32))) = r) :
    MetFree l own_y_185 (head1 (Jvm.Cond.code own_y_185 jdk_65_method_56_code 10 (some .int) :: ws) ({ frames := 0, cells := 0, slots := 0, locals := 0 } : Room)) (fun a U => a = #[(.ref a1), (.int (2 : Int32)), (.int (3 : Int32)), (.long q4)] ∧ Z.Warmed39 U.vm ∧ U.heap = h0) (fun _ _ _ _ _ => True) (fun _ U o U' => ∃ v L, o = .returned v ∧ QBs r h0 n0 v U'.heap L ∧ FrameEnd U o U' L ({ frames := 0, cells := 0, slots := 0, locals := 0 } : Room).cells ({ frames := 0, cells := 0, slots := 0, locals := 0 } : Room).slots) := by
  refine MetFree.of_bodySF (plainFor_of_name pn_187) hisR ?_
  intro p e s m args below meth c s₁ Bd hml0 hP hK
  obtain ⟨rfl, hZ, hh⟩ := hP
  have hx := Bd.exec
  have hby := Bd.bytes
  have hml : c.maxLocals = 10 := hml0
  have hown : s.vm.findClass "java/util/Arrays" = some m.cls := findClass_of_methodNamed Bd.named
  have hnm := (name_of_methodNamed Bd.named Bd.method).1
  have X0 : Stand p l e ({ frames := 0, cells := 0, slots := 0, locals := 0 } : Room) s m #[(.ref a1), (.int (2 : Int32)), (.int (3 : Int32)), (.long q4)] below meth c s₁ [] 0 0 := Stand.of_body Bd
  have e0 : s₁.heap = h0 := by rw [← hh, Bd.state]; rfl
  have N0 := Fr.nil n0
  have pre0 : ∀ t, Steps p.tables e below (s₁.setTop (mkF m 0 #[.val (.ref a1), .val (.int (2 : Int32)), .val (.int (3 : Int32)), .val (.long q4), .second, .unset, .unset, .unset, .unset, .unset] [])) t → Steps p.tables e below (s₁.setTop (entryFrame m #[(.ref a1), (.int (2 : Int32)), (.int (3 : Int32)), (.long q4)] 10)) t := fun t k => castTop (ef_186 m a1 (2 : Int32) (3 : Int32) q4) k
  obtain ⟨cl962, A962, q962, S962, M962, H962, J962⟩ := id V0
  have hin962 : ¬ ((2 : Int32) < 0 ∨ cl962.slots.size ≤ ((2 : Int32)).toNatClampNeg) := inb_of S962 ⟨by decide, by decide⟩
  have hat962 : cl962.slots[((2 : Int32)).toNatClampNeg]? = some (.long x2) := H962.at hin962 rfl
  have pre963 : ∀ t, Steps p.tables e below (s₁.setTop (mkF m 34 #[.val (.ref a1), .val (.int (2 : Int32)), .val (.int (3 : Int32)), .val (.long q4), .second, .val (.int (2 : Int32)), .val (.int (2 : Int32)), .val (.int (2 : Int32)), .val (.long x2), .second] [(.int (lcmpW x2 q4))])) t → Steps p.tables e below (s₁.setTop (entryFrame m #[(.ref a1), (.int (2 : Int32)), (.int (3 : Int32)), (.long q4)] 10)) t := fun t kt => pre0 t (by
    show Steps p.tables e below (s₁.setTop (mkF m 0 #[.val (.ref a1), .val (.int (2 : Int32)), .val (.int (3 : Int32)), .val (.long q4), .second, .unset, .unset, .unset, .unset, .unset] [])) _
    refine XS.iloadN X0.here hx rfl (hb hby d9_0) rfl ?_
    refine XS.istore X0.here hx rfl (hb hby d9_1) rfl (l' := #[.val (.ref a1), .val (.int (2 : Int32)), .val (.int (3 : Int32)), .val (.long q4), .second, .val (.int (2 : Int32)), .unset, .unset, .unset, .unset]) rfl ?_
    refine XS.iloadN X0.here hx rfl (hb hby d9_3) rfl ?_
    refine XS.iconst X0.here hx rfl (hb hby d9_4) ?_
    refine XS.isub X0.here hx rfl (hb hby d9_5) rfl ?_
    refine XS.istore X0.here hx rfl (hb hby d9_6) rfl (l' := #[.val (.ref a1), .val (.int (2 : Int32)), .val (.int (3 : Int32)), .val (.long q4), .second, .val (.int (2 : Int32)), .val (.int (2 : Int32)), .unset, .unset, .unset]) rfl ?_
    refine XS.iload X0.here hx rfl (hb hby d9_8) rfl ?_
    refine XS.iload X0.here hx rfl (hb hby d9_10) rfl ?_
    refine XS.icmpNo X0.here hx rfl (hb hby d9_12) rfl (flt (by decide : ¬ ((2 : Int32) < (2 : Int32)))).2.2.1 ?_
    refine XS.iload X0.here hx rfl (hb hby d9_15) rfl ?_
    refine XS.iload X0.here hx rfl (hb hby d9_17) rfl ?_
    refine XS.iadd X0.here hx rfl (hb hby d9_19) rfl ?_
    show Steps p.tables e below (s₁.setTop (mkF m 20 #[.val (.ref a1), .val (.int (2 : Int32)), .val (.int (3 : Int32)), .val (.long q4), .second, .val (.int (2 : Int32)), .val (.int (2 : Int32)), .unset, .unset, .unset] [(.int (4 : Int32))])) _
    refine XS.iconst X0.here hx rfl (hb hby d9_20) ?_
    refine XS.iushr X0.here hx rfl (hb hby d9_21) rfl ?_
    refine XS.istore X0.here hx rfl (hb hby d9_22) rfl (l' := #[.val (.ref a1), .val (.int (2 : Int32)), .val (.int (3 : Int32)), .val (.long q4), .second, .val (.int (2 : Int32)), .val (.int (2 : Int32)), .val (.int (2 : Int32)), .unset, .unset]) rfl ?_
    refine XS.aloadN X0.here hx rfl (hb hby d9_24) rfl rfl ?_
    refine XS.iload X0.here hx rfl (hb hby d9_25) rfl ?_
    refine X0.laload hx (j := (2 : Int32)) (v := (.long x2)) (by rw [e0]; exact A962.1) (State.isArrayOf_alike hZ.alike A962.2.1) A962.2.2 hin962 hat962 (g := (mkF m 27 #[.val (.ref a1), .val (.int (2 : Int32)), .val (.int (3 : Int32)), .val (.long q4), .second, .val (.int (2 : Int32)), .val (.int (2 : Int32)), .val (.int (2 : Int32)), .unset, .unset] [(.int (2 : Int32)), (.ref a1)])) rfl rfl (hb hby d9_27) _ ?_
    refine XS.lstore X0.here hx rfl (hb hby d9_28) rfl (l' := #[.val (.ref a1), .val (.int (2 : Int32)), .val (.int (3 : Int32)), .val (.long q4), .second, .val (.int (2 : Int32)), .val (.int (2 : Int32)), .val (.int (2 : Int32)), .val (.long x2), .second]) rfl ?_
    refine XS.lload X0.here hx rfl (hb hby d9_30) rfl ?_
    refine XS.lloadN X0.here hx rfl (hb hby d9_32) rfl ?_
    refine XS.lcmp X0.here hx rfl (hb hby d9_33) rfl ?_
    exact kt)
  by_cases hc964 : x2 < q4
  case pos =>
    have pre967 : ∀ t, Steps p.tables e below (s₁.setTop (mkF m 73 #[.val (.ref a1), .val (.int (2 : Int32)), .val (.int (3 : Int32)), .val (.long q4), .second, .val (.int (3 : Int32)), .val (.int (2 : Int32)), .val (.int (2 : Int32)), .val (.long x2), .second] [(.int (-4 : Int32))])) t → Steps p.tables e below (s₁.setTop (entryFrame m #[(.ref a1), (.int (2 : Int32)), (.int (3 : Int32)), (.long q4)] 10)) t := fun t kt => pre963 t (by
      show Steps p.tables e below (s₁.setTop (mkF m 34 #[.val (.ref a1), .val (.int (2 : Int32)), .val (.int (3 : Int32)), .val (.long q4), .second, .val (.int (2 : Int32)), .val (.int (2 : Int32)), .val (.int (2 : Int32)), .val (.long x2), .second] [(.int (lcmpW x2 q4))])) _
      refine XS.ifNo X0.here hx rfl (hb hby d9_34) rfl ((if0 _ _).trans (tlt ((lw_lt _ _).mpr hc964)).2.1) ?_
      refine XS.iload X0.here hx rfl (hb hby d9_37) rfl ?_
      refine XS.iconst X0.here hx rfl (hb hby d9_39) ?_
      refine XS.iadd X0.here hx rfl (hb hby d9_40) rfl ?_
      refine XS.istore X0.here hx rfl (hb hby d9_41) rfl (l' := #[.val (.ref a1), .val (.int (2 : Int32)), .val (.int (3 : Int32)), .val (.long q4), .second, .val (.int (3 : Int32)), .val (.int (2 : Int32)), .val (.int (2 : Int32)), .val (.long x2), .second]) rfl ?_
      refine XS.goto X0.here hx rfl (pc0 := 43) (pc' := 65) rfl (hb hby d9_43) (by decide) (by decide) ?_
      refine XS.goto X0.here hx rfl (pc0 := 65) (pc' := 8) rfl (hb hby d9_65) (by decide) (by decide) ?_
      refine XS.iload X0.here hx rfl (hb hby d9_8) rfl ?_
      refine XS.iload X0.here hx rfl (hb hby d9_10) rfl ?_
      refine XS.icmpYes X0.here hx rfl (pc0 := 12) (pc' := 68) rfl (hb hby d9_12) rfl (tlt (by decide : (2 : Int32) < (3 : Int32))).2.2.1 (by decide) (by decide) ?_
      refine XS.iload X0.here hx rfl (hb hby d9_68) rfl ?_
      refine XS.iconst X0.here hx rfl (hb hby d9_70) ?_
      show Steps p.tables e below (s₁.setTop (mkF m 71 #[.val (.ref a1), .val (.int (2 : Int32)), .val (.int (3 : Int32)), .val (.long q4), .second, .val (.int (3 : Int32)), .val (.int (2 : Int32)), .val (.int (2 : Int32)), .val (.long x2), .second] [(.int (1 : Int32)), (.int (3 : Int32))])) _
      refine XS.iadd X0.here hx rfl (hb hby d9_71) rfl ?_
      refine XS.ineg X0.here hx rfl (hb hby d9_72) rfl ?_
      exact kt)
    have ev : r = (-4 : Int32) := er.symm.trans (if_pos hc964)
    exact own_retI X0 hx Bd.notSynchronized Bd.returns (hb hby d9_73) pre967 (show QBs r h0 n0 _ _ _ from ⟨by rw [ev], N0, e0⟩) (by decide) (by decide)
  case neg =>
    have pre965 : ∀ t, Steps p.tables e below (s₁.setTop (mkF m 50 #[.val (.ref a1), .val (.int (2 : Int32)), .val (.int (3 : Int32)), .val (.long q4), .second, .val (.int (2 : Int32)), .val (.int (2 : Int32)), .val (.int (2 : Int32)), .val (.long x2), .second] [(.int (lcmpW x2 q4))])) t → Steps p.tables e below (s₁.setTop (entryFrame m #[(.ref a1), (.int (2 : Int32)), (.int (3 : Int32)), (.long q4)] 10)) t := fun t kt => pre963 t (by
      show Steps p.tables e below (s₁.setTop (mkF m 34 #[.val (.ref a1), .val (.int (2 : Int32)), .val (.int (3 : Int32)), .val (.long q4), .second, .val (.int (2 : Int32)), .val (.int (2 : Int32)), .val (.int (2 : Int32)), .val (.long x2), .second] [(.int (lcmpW x2 q4))])) _
      refine XS.ifYes X0.here hx rfl (pc0 := 34) (pc' := 46) rfl (hb hby d9_34) rfl ((if0 _ _).trans (flt (fun q => hc964 ((lw_lt _ _).mp q))).2.1) (by decide) (by decide) ?_
      refine XS.lload X0.here hx rfl (hb hby d9_46) rfl ?_
      refine XS.lloadN X0.here hx rfl (hb hby d9_48) rfl ?_
      refine XS.lcmp X0.here hx rfl (hb hby d9_49) rfl ?_
      exact kt)
    by_cases hc966 : q4 < x2
    case pos =>
      have pre968 : ∀ t, Steps p.tables e below (s₁.setTop (mkF m 73 #[.val (.ref a1), .val (.int (2 : Int32)), .val (.int (3 : Int32)), .val (.long q4), .second, .val (.int (2 : Int32)), .val (.int (1 : Int32)), .val (.int (2 : Int32)), .val (.long x2), .second] [(.int (-3 : Int32))])) t → Steps p.tables e below (s₁.setTop (entryFrame m #[(.ref a1), (.int (2 : Int32)), (.int (3 : Int32)), (.long q4)] 10)) t := fun t kt => pre965 t (by
        show Steps p.tables e below (s₁.setTop (mkF m 50 #[.val (.ref a1), .val (.int (2 : Int32)), .val (.int (3 : Int32)), .val (.long q4), .second, .val (.int (2 : Int32)), .val (.int (2 : Int32)), .val (.int (2 : Int32)), .val (.long x2), .second] [(.int (lcmpW x2 q4))])) _
        refine XS.ifNo X0.here hx rfl (hb hby d9_50) rfl ((if0 _ _).trans (tlt ((lw_gt _ _).mpr hc966)).2.2.2) ?_
        refine XS.iload X0.here hx rfl (hb hby d9_53) rfl ?_
        refine XS.iconst X0.here hx rfl (hb hby d9_55) ?_
        refine XS.isub X0.here hx rfl (hb hby d9_56) rfl ?_
        refine XS.istore X0.here hx rfl (hb hby d9_57) rfl (l' := #[.val (.ref a1), .val (.int (2 : Int32)), .val (.int (3 : Int32)), .val (.long q4), .second, .val (.int (2 : Int32)), .val (.int (1 : Int32)), .val (.int (2 : Int32)), .val (.long x2), .second]) rfl ?_
        refine XS.goto X0.here hx rfl (pc0 := 59) (pc' := 65) rfl (hb hby d9_59) (by decide) (by decide) ?_
        refine XS.goto X0.here hx rfl (pc0 := 65) (pc' := 8) rfl (hb hby d9_65) (by decide) (by decide) ?_
        refine XS.iload X0.here hx rfl (hb hby d9_8) rfl ?_
        refine XS.iload X0.here hx rfl (hb hby d9_10) rfl ?_
        refine XS.icmpYes X0.here hx rfl (pc0 := 12) (pc' := 68) rfl (hb hby d9_12) rfl (tlt (by decide : (1 : Int32) < (2 : Int32))).2.2.1 (by decide) (by decide) ?_
        refine XS.iload X0.here hx rfl (hb hby d9_68) rfl ?_
        refine XS.iconst X0.here hx rfl (hb hby d9_70) ?_
        show Steps p.tables e below (s₁.setTop (mkF m 71 #[.val (.ref a1), .val (.int (2 : Int32)), .val (.int (3 : Int32)), .val (.long q4), .second, .val (.int (2 : Int32)), .val (.int (1 : Int32)), .val (.int (2 : Int32)), .val (.long x2), .second] [(.int (1 : Int32)), (.int (2 : Int32))])) _
        refine XS.iadd X0.here hx rfl (hb hby d9_71) rfl ?_
        refine XS.ineg X0.here hx rfl (hb hby d9_72) rfl ?_
        exact kt)
      have ev : r = (-3 : Int32) := er.symm.trans ((if_neg hc964).trans (if_pos hc966))
      exact own_retI X0 hx Bd.notSynchronized Bd.returns (hb hby d9_73) pre968 (show QBs r h0 n0 _ _ _ from ⟨by rw [ev], N0, e0⟩) (by decide) (by decide)
    case neg =>
      have pre969 : ∀ t, Steps p.tables e below (s₁.setTop (mkF m 64 #[.val (.ref a1), .val (.int (2 : Int32)), .val (.int (3 : Int32)), .val (.long q4), .second, .val (.int (2 : Int32)), .val (.int (2 : Int32)), .val (.int (2 : Int32)), .val (.long x2), .second] [(.int (2 : Int32))])) t → Steps p.tables e below (s₁.setTop (entryFrame m #[(.ref a1), (.int (2 : Int32)), (.int (3 : Int32)), (.long q4)] 10)) t := fun t kt => pre965 t (by
        show Steps p.tables e below (s₁.setTop (mkF m 50 #[.val (.ref a1), .val (.int (2 : Int32)), .val (.int (3 : Int32)), .val (.long q4), .second, .val (.int (2 : Int32)), .val (.int (2 : Int32)), .val (.int (2 : Int32)), .val (.long x2), .second] [(.int (lcmpW x2 q4))])) _
        refine XS.ifYes X0.here hx rfl (pc0 := 50) (pc' := 62) rfl (hb hby d9_50) rfl ((if0 _ _).trans (flt (fun q => hc966 ((lw_gt _ _).mp q))).2.2.2) (by decide) (by decide) ?_
        refine XS.iload X0.here hx rfl (hb hby d9_62) rfl ?_
        exact kt)
      have ev : r = (2 : Int32) := er.symm.trans ((if_neg hc964).trans (if_neg hc966))
      exact own_retI X0 hx Bd.notSynchronized Bd.returns (hb hby d9_64) pre969 (show QBs r h0 n0 _ _ _ from ⟨by rw [ev], N0, e0⟩) (by decide) (by decide)
set_option maxRecDepth 65536 in
set_option maxHeartbeats 40000000 in
theorem rmRcBs234 (l : Launch) (Z : State) (a0 : Array Value) (hw : ∀ d ∈ tables_1, d.before a0 Z = true) (ws : List Jvm.Cond)  (h0 : Heap) (n0 : Nat) (Z0 : n0 ≤ h0.size) :
    MetFree l own_y_188 (head1 (Jvm.Cond.code own_y_188 jdk_65_method_30_code 3 none :: ws) ({ frames := 0, cells := 0, slots := 0, locals := 0 } : Room)) (fun a U => a = #[(.int (4 : Int32)), (.int (2 : Int32)), (.int (3 : Int32))] ∧ Z.Warmed39 U.vm ∧ U.heap = h0) (fun _ _ _ _ _ => True) (fun _ U o U' => ∃ v L, o = .returned v ∧ QRc h0 n0 v U'.heap L ∧ FrameEnd U o U' L ({ frames := 0, cells := 0, slots := 0, locals := 0 } : Room).cells ({ frames := 0, cells := 0, slots := 0, locals := 0 } : Room).slots) := by
  refine MetFree.of_bodySF (plainFor_of_name pn_187) hisR ?_
  intro p e s m args below meth c s₁ Bd hml0 hP hK
  obtain ⟨rfl, hZ, hh⟩ := hP
  have hx := Bd.exec
  have hby := Bd.bytes
  have hml : c.maxLocals = 3 := hml0
  have hown : s.vm.findClass "java/util/Arrays" = some m.cls := findClass_of_methodNamed Bd.named
  have hnm := (name_of_methodNamed Bd.named Bd.method).1
  have X0 : Stand p l e ({ frames := 0, cells := 0, slots := 0, locals := 0 } : Room) s m #[(.int (4 : Int32)), (.int (2 : Int32)), (.int (3 : Int32))] below meth c s₁ [] 0 0 := Stand.of_body Bd
  have e0 : s₁.heap = h0 := by rw [← hh, Bd.state]; rfl
  have N0 := Fr.nil n0
  have pre0 : ∀ t, Steps p.tables e below (s₁.setTop (mkF m 0 #[.val (.int (4 : Int32)), .val (.int (2 : Int32)), .val (.int (3 : Int32))] [])) t → Steps p.tables e below (s₁.setTop (entryFrame m #[(.int (4 : Int32)), (.int (2 : Int32)), (.int (3 : Int32))] 3)) t := fun t k => castTop (ef_189 m (4 : Int32) (2 : Int32) (3 : Int32)) k
  have pre970 : ∀ t, Steps p.tables e below (s₁.setTop (mkF m 73 #[.val (.int (4 : Int32)), .val (.int (2 : Int32)), .val (.int (3 : Int32))] [])) t → Steps p.tables e below (s₁.setTop (entryFrame m #[(.int (4 : Int32)), (.int (2 : Int32)), (.int (3 : Int32))] 3)) t := fun t kt => pre0 t (by
    show Steps p.tables e below (s₁.setTop (mkF m 0 #[.val (.int (4 : Int32)), .val (.int (2 : Int32)), .val (.int (3 : Int32))] [])) _
    refine XS.iloadN X0.here hx rfl (hb hby d8_0) rfl ?_
    refine XS.iloadN X0.here hx rfl (hb hby d8_1) rfl ?_
    refine XS.icmpYes X0.here hx rfl (pc0 := 2) (pc' := 46) rfl (hb hby d8_2) rfl (flt (by decide : ¬ ((3 : Int32) < (2 : Int32)))).2.2.2 (by decide) (by decide) ?_
    refine XS.iloadN X0.here hx rfl (hb hby d8_46) rfl ?_
    refine XS.ifYes X0.here hx rfl (pc0 := 47) (pc' := 59) rfl (hb hby d8_47) rfl ((if0 _ _).trans (flt (by decide : ¬ ((2 : Int32) < (0 : Int32)))).2.1) (by decide) (by decide) ?_
    refine XS.iloadN X0.here hx rfl (hb hby d8_59) rfl ?_
    refine XS.iloadN X0.here hx rfl (hb hby d8_60) rfl ?_
    refine XS.icmpYes X0.here hx rfl (pc0 := 61) (pc' := 73) rfl (hb hby d8_61) rfl (flt (by decide : ¬ ((4 : Int32) < (3 : Int32)))).2.2.2 (by decide) (by decide) ?_
    exact kt)
  exact own_retV X0 hx Bd.notSynchronized Bd.returns (hb hby d8_73) pre970 (show QRc h0 n0 _ _ _ from ⟨rfl, N0, e0⟩) (by decide) (by decide)
set_option maxRecDepth 65536 in
set_option maxHeartbeats 40000000 in
theorem rmSBs234 (l : Launch) (Z : State) (a0 : Array Value) (hw : ∀ d ∈ tables_1, d.before a0 Z = true) (ws : List Jvm.Cond) (a1 : Addr) (q4 : Int64) (k0 : ClassId) (x0 : Int64) (x1 : Int64) (x2 : Int64) (x3 : Int64) (r : Int32) (h0 : Heap) (n0 : Nat) (Z0 : n0 ≤ h0.size) (V0 : Arv Z h0 a1 k0 .long (4 : Int32) [(.long x0), (.long x1), (.long x2), (.long x3)] (.long (0 : Int64))) (er : (if x2 < q4 then (-4 : Int32) else (if q4 < x2 then (-3 : Int32) else (2 : Int32))) = r) :
    MetFree l own_y_199 (head1 (Jvm.Cond.code own_y_199 jdk_65_method_55_code 5 (some .int) :: ws) ({ frames := 1, cells := 0, slots := 0, locals := 21 } : Room)) (fun a U => a = #[(.ref a1), (.int (2 : Int32)), (.int (3 : Int32)), (.long q4)] ∧ Z.Warmed39 U.vm ∧ U.heap = h0) (fun _ _ _ _ _ => True) (fun _ U o U' => ∃ v L, o = .returned v ∧ QBs r h0 n0 v U'.heap L ∧ FrameEnd U o U' L ({ frames := 1, cells := 0, slots := 0, locals := 21 } : Room).cells ({ frames := 1, cells := 0, slots := 0, locals := 21 } : Room).slots) := by
  refine MetFree.of_bodySF (plainFor_of_name pn_187) hisR ?_
  intro p e s m args below meth c s₁ Bd hml0 hP hK
  obtain ⟨rfl, hZ, hh⟩ := hP
  have hx := Bd.exec
  have hby := Bd.bytes
  have hml : c.maxLocals = 5 := hml0
  have hown : s.vm.findClass "java/util/Arrays" = some m.cls := findClass_of_methodNamed Bd.named
  have hnm := (name_of_methodNamed Bd.named Bd.method).1
  have X0 : Stand p l e ({ frames := 1, cells := 0, slots := 0, locals := 21 } : Room) s m #[(.ref a1), (.int (2 : Int32)), (.int (3 : Int32)), (.long q4)] below meth c s₁ [] 0 0 := Stand.of_body Bd
  have e0 : s₁.heap = h0 := by rw [← hh, Bd.state]; rfl
  have N0 := Fr.nil n0
  have pre0 : ∀ t, Steps p.tables e below (s₁.setTop (mkF m 0 #[.val (.ref a1), .val (.int (2 : Int32)), .val (.int (3 : Int32)), .val (.long q4), .second] [])) t → Steps p.tables e below (s₁.setTop (entryFrame m #[(.ref a1), (.int (2 : Int32)), (.int (3 : Int32)), (.long q4)] 5)) t := fun t k => castTop (ef_200 m a1 (2 : Int32) (3 : Int32) q4) k
  obtain ⟨cl971, A971, q971, S971, M971, H971, J971⟩ := id V0
  obtain ⟨_, _, ⟨T972, L972, k972, n972⟩, -, X972, ⟨Lc972, hQ972, l972, y972, z972⟩, st972⟩ := Jvm.LawKit.callS X0 hx (y := own_y_188) hown (mvT hZ (own_w hw 49 rfl)) (mvT hZ (own_w hw 50 rfl)) (mvT hZ (own_w hw 47 rfl)) (mvT hZ (own_w hw 51 rfl)) (by decide) (backOf (W := 0) (rmRcBs234 l Z a0 hw [] h0 n0 Z0) hZ (own_w hw 51 rfl) (own_w hw 47 rfl) (by decide) (by decide)) (g := (mkF m 4 #[.val (.ref a1), .val (.int (2 : Int32)), .val (.int (3 : Int32)), .val (.long q4), .second] [(.int (3 : Int32)), (.int (2 : Int32)), (.int (4 : Int32))])) rfl (by rw [hml]; rfl) (argsL := [(.int (4 : Int32)), (.int (2 : Int32)), (.int (3 : Int32))]) (rest := []) (lenOf pd_206 rfl) rfl (by show 2 * 0 + _ ≤ _; exact Nat.le_of_eq rfl) (hb hby d7_4) (fun _ _ => ⟨rfl, e0, (by decide : 0 + 0 ≤ _), (by decide : 0 + 0 ≤ _)⟩)
  dsimp only [Pt.U, Pt.locs, Pt.cells, Pt.slots] at X972 l972 y972 z972 st972 hQ972
  subst l972 y972 z972
  obtain ⟨rfl, Nq972, e972⟩ := hQ972
  have N972 := Fr.app N0 Nq972
  obtain ⟨_, _, ⟨T973, L973, k973, n973⟩, -, X973, ⟨Lc973, hQ973, l973, y973, z973⟩, st973⟩ := Jvm.LawKit.callS X972 hx (y := own_y_185) hown (mvT hZ (own_w hw 52 rfl)) (mvT hZ (own_w hw 53 rfl)) (mvT hZ (own_w hw 47 rfl)) (mvT hZ (own_w hw 54 rfl)) (by decide) (backOf (W := 0) (rmBs234 l Z a0 hw [] a1 q4 k0 x0 x1 x2 x3 r h0 n0 Z0 V0 er) hZ (own_w hw 54 rfl) (own_w hw 47 rfl) (by decide) (by decide)) (g := (mkF m 11 #[.val (.ref a1), .val (.int (2 : Int32)), .val (.int (3 : Int32)), .val (.long q4), .second] [(.long q4), (.int (3 : Int32)), (.int (2 : Int32)), (.ref a1)])) rfl (by rw [hml]; rfl) (argsL := [(.ref a1), (.int (2 : Int32)), (.int (3 : Int32)), (.long q4)]) (rest := []) (lenOf pd_212 rfl) rfl (by show 2 * 0 + _ ≤ _; exact Nat.le_of_eq rfl) (hb hby d7_11) (fun _ _ => ⟨rfl, e972, (by decide : 0 + 0 ≤ _), (by decide : 0 + 0 ≤ _)⟩)
  dsimp only [Pt.U, Pt.locs, Pt.cells, Pt.slots] at X973 l973 y973 z973 st973 hQ973
  subst l973 y973 z973
  obtain ⟨rfl, Nq973, e973⟩ := hQ973
  have N973 := Fr.app N972 Nq973
  have pre974 : ∀ t, Steps p.tables e below (T973.setTop (mkF m 14 #[.val (.ref a1), .val (.int (2 : Int32)), .val (.int (3 : Int32)), .val (.long q4), .second] [(.int r)])) t → Steps p.tables e below (s₁.setTop (entryFrame m #[(.ref a1), (.int (2 : Int32)), (.int (3 : Int32)), (.long q4)] 5)) t := fun t kt => pre0 t (by
    show Steps p.tables e below (s₁.setTop (mkF m 0 #[.val (.ref a1), .val (.int (2 : Int32)), .val (.int (3 : Int32)), .val (.long q4), .second] [])) _
    refine XS.aloadN X0.here hx rfl (hb hby d7_0) rfl rfl ?_
    refine X0.arraylength hx (by rw [e0]; exact A971.1) (State.isArrayOf_alike hZ.alike A971.2.1) (g := (mkF m 1 #[.val (.ref a1), .val (.int (2 : Int32)), .val (.int (3 : Int32)), .val (.long q4), .second] [(.ref a1)])) rfl rfl (hb hby d7_1) _ ?_
    rw [len_of S971 M971]
    refine XS.iloadN X0.here hx rfl (hb hby d7_2) rfl ?_
    refine XS.iloadN X0.here hx rfl (hb hby d7_3) rfl ?_
    refine st972 _ ?_
    refine XS.aloadN X972.here hx rfl (hb hby d7_7) rfl rfl ?_
    refine XS.iloadN X972.here hx rfl (hb hby d7_8) rfl ?_
    refine XS.iloadN X972.here hx rfl (hb hby d7_9) rfl ?_
    refine XS.lloadN X972.here hx rfl (hb hby d7_10) rfl ?_
    refine st973 _ ?_
    exact kt)
  exact own_retI X973 hx Bd.notSynchronized Bd.returns (hb hby d7_14) pre974 (show QBs r h0 n0 _ _ _ from ⟨rfl, N973, e973⟩) (by decide) (by decide)
set_option maxRecDepth 65536 in
set_option maxHeartbeats 40000000 in
theorem rmGn234 (l : Launch) (Z : State) (a0 : Array Value) (hw : ∀ d ∈ tables_1, d.before a0 Z = true) (ws : List Jvm.Cond) (a1 : Addr) (q2 : Int64) (x0 : Int64) (x1 : Int64) (x2 : Int64) (x3 : Int64) (y0 : Int32) (y1 : Int32) (y2 : Int32) (y3 : Int32) (b : Int32) (h0 : Heap) (n0 : Nat) (Z0 : n0 ≤ h0.size) (P0 : PT Z h0 n0 a1 (2 : Int32) (3 : Int32) (4 : Int32) [(.long x0), (.long x1), (.long x2), (.long x3)] [(.int y0), (.int y1), (.int y2), (.int y3)] b) :
    MetFree l own_y_46 (head1 (Jvm.Cond.code own_y_46 prog_25_method_3_code 6 (some .int) :: ws) ({ frames := 2, cells := 0, slots := 0, locals := 60 } : Room)) (fun a U => a = #[(.ref a1), (.long q2)] ∧ Z.Warmed39 U.vm ∧ U.heap = h0) (fun _ _ _ _ _ => True) (fun _ U o U' => ∃ v L, o = .returned v ∧ QRi (y2 - (if x2 < q2 then y2 else b)) h0 n0 v U'.heap L ∧ FrameEnd U o U' L ({ frames := 2, cells := 0, slots := 0, locals := 60 } : Room).cells ({ frames := 2, cells := 0, slots := 0, locals := 60 } : Room).slots) := by
  refine MetFree.of_bodySF (plainFor_of_name pn_2) hisR ?_
  intro p e s m args below meth c s₁ Bd hml0 hP hK
  obtain ⟨rfl, hZ, hh⟩ := hP
  have hx := Bd.exec
  have hby := Bd.bytes
  have hml : c.maxLocals = 6 := hml0
  have hown : s.vm.findClass "com/example/viral_counter/viralcounter/PostTrend" = some m.cls := findClass_of_methodNamed Bd.named
  have hnm := (name_of_methodNamed Bd.named Bd.method).1
  have X0 : Stand p l e ({ frames := 2, cells := 0, slots := 0, locals := 60 } : Room) s m #[(.ref a1), (.long q2)] below meth c s₁ [] 0 0 := Stand.of_body Bd
  have e0 : s₁.heap = h0 := by rw [← hh, Bd.state]; rfl
  have N0 := Fr.nil n0
  have pre0 : ∀ t, Steps p.tables e below (s₁.setTop (mkF m 0 #[.val (.ref a1), .val (.long q2), .second, .unset, .unset, .unset] [])) t → Steps p.tables e below (s₁.setTop (entryFrame m #[(.ref a1), (.long q2)] 6)) t := fun t k => castTop (ef_47 m a1 q2) k
  obtain ⟨am975, ac975, km975, kc975, E975, Fm975, Fc975, Ff975, Fe975, Fb975, Vm975, Vc975, Ga975, Gm975, Gc975, n1975, n2975, n3975⟩ := id P0
  obtain ⟨T976, X976, e976, st976⟩ := getF X0 hx hZ hown (host := "") (Or.inl (own_w hw 23 rfl)) Via.refl e0 Ff975 (g := (mkF m 1 #[.val (.ref a1), .val (.long q2), .second, .unset, .unset, .unset] [(.ref a1)])) rfl rfl (hb hby d6_1)
  obtain ⟨T977, X977, e977, st977⟩ := getF X976 hx hZ hown (host := "") (Or.inl (own_w hw 25 rfl)) Via.refl e976 Fe975 (g := (mkF m 5 #[.val (.ref a1), .val (.long q2), .second, .unset, .unset, .unset] [(.ref a1), (.int (2 : Int32))])) rfl rfl (hb hby d6_5)
  obtain ⟨T978, X978, e978, st978⟩ := getF X977 hx hZ hown (host := "") (Or.inl (own_w hw 13 rfl)) Via.refl e977 Fm975 (g := (mkF m 14 #[.val (.ref a1), .val (.long q2), .second, .unset, .unset, .unset] [(.ref a1)])) rfl rfl (hb hby d6_14)
  obtain ⟨T979, X979, e979, st979⟩ := getF X978 hx hZ hown (host := "") (Or.inl (own_w hw 23 rfl)) Via.refl e978 Ff975 (g := (mkF m 18 #[.val (.ref a1), .val (.long q2), .second, .unset, .unset, .unset] [(.ref a1), (.ref am975)])) rfl rfl (hb hby d6_18)
  obtain ⟨T980, X980, e980, st980⟩ := getF X979 hx hZ hown (host := "") (Or.inl (own_w hw 25 rfl)) Via.refl e979 Fe975 (g := (mkF m 22 #[.val (.ref a1), .val (.long q2), .second, .unset, .unset, .unset] [(.ref a1), (.int (2 : Int32)), (.ref am975)])) rfl rfl (hb hby d6_22)
  have pre981 : ∀ t, Steps p.tables e below (T980.setTop (mkF m 26 #[.val (.ref a1), .val (.long q2), .second, .unset, .unset, .unset] [(.long q2), (.int (3 : Int32)), (.int (2 : Int32)), (.ref am975)])) t → Steps p.tables e below (s₁.setTop (entryFrame m #[(.ref a1), (.long q2)] 6)) t := fun t kt => pre0 t (by
    show Steps p.tables e below (s₁.setTop (mkF m 0 #[.val (.ref a1), .val (.long q2), .second, .unset, .unset, .unset] [])) _
    refine XS.aloadN X0.here hx rfl (hb hby d6_0) rfl rfl ?_
    refine st976 _ ?_
    refine XS.aloadN X976.here hx rfl (hb hby d6_4) rfl rfl ?_
    refine st977 _ ?_
    refine XS.icmpYes X977.here hx rfl (pc0 := 8) (pc' := 13) rfl (hb hby d6_8) rfl (feq (by decide : ¬ ((2 : Int32) = (3 : Int32)))).2 (by decide) (by decide) ?_
    refine XS.aloadN X977.here hx rfl (hb hby d6_13) rfl rfl ?_
    refine st978 _ ?_
    refine XS.aloadN X978.here hx rfl (hb hby d6_17) rfl rfl ?_
    refine st979 _ ?_
    refine XS.aloadN X979.here hx rfl (hb hby d6_21) rfl rfl ?_
    refine st980 _ ?_
    refine XS.lloadN X980.here hx rfl (hb hby d6_25) rfl ?_
    exact kt)
  by_cases hc982 : x2 < q2
  case pos =>
    obtain ⟨_, _, ⟨T983, L983, k983, n983⟩, -, X983, ⟨Lc983, hQ983, l983, y983, z983⟩, st983⟩ := Jvm.LawKit.callS X980 hx (y := own_y_199) hown (mvT hZ (own_w hw 45 rfl)) (mvT hZ (own_w hw 46 rfl)) (mvT hZ (own_w hw 47 rfl)) (mvT hZ (own_w hw 48 rfl)) (by decide) (backOf (W := 0) (rmSBs234 l Z a0 hw [] am975 q2 km975 x0 x1 x2 x3 (-4 : Int32) h0 n0 Z0 Vm975 (if_pos hc982)) hZ (own_w hw 48 rfl) (own_w hw 47 rfl) (by decide) (by decide)) (g := (mkF m 26 #[.val (.ref a1), .val (.long q2), .second, .unset, .unset, .unset] [(.long q2), (.int (3 : Int32)), (.int (2 : Int32)), (.ref am975)])) rfl (by rw [hml]; rfl) (argsL := [(.ref am975), (.int (2 : Int32)), (.int (3 : Int32)), (.long q2)]) (rest := []) (lenOf pd_212 rfl) rfl (by show 2 * 0 + _ ≤ _; exact Nat.le_of_eq rfl) (hb hby d6_26) (fun _ _ => ⟨rfl, e980, (by decide : 0 + 0 ≤ _), (by decide : 0 + 0 ≤ _)⟩)
    dsimp only [Pt.U, Pt.locs, Pt.cells, Pt.slots] at X983 l983 y983 z983 st983 hQ983
    subst l983 y983 z983
    obtain ⟨rfl, Nq983, e983⟩ := hQ983
    have N983 := Fr.app N0 Nq983
    obtain ⟨T984, X984, e984, st984⟩ := getF X983 hx hZ hown (host := "") (Or.inl (own_w hw 23 rfl)) Via.refl e983 Ff975 (g := (mkF m 49 #[.val (.ref a1), .val (.long q2), .second, .val (.int (-4 : Int32)), .val (.int (2 : Int32)), .unset] [(.ref a1), (.int (2 : Int32))])) rfl rfl (hb hby d6_49)
    obtain ⟨T985, X985, e985, st985⟩ := getF X984 hx hZ hown (host := "") (Or.inl (own_w hw 16 rfl)) Via.refl e984 Fc975 (g := (mkF m 63 #[.val (.ref a1), .val (.long q2), .second, .val (.int (-4 : Int32)), .val (.int (2 : Int32)), .unset] [(.ref a1)])) rfl rfl (hb hby d6_63)
    obtain ⟨cl986, A986, q986, S986, M986, H986, J986⟩ := id Vc975
    have hin986 : ¬ ((2 : Int32) < 0 ∨ cl986.slots.size ≤ ((2 : Int32)).toNatClampNeg) := inb_of S986 ⟨by decide, by decide⟩
    have hat986 : cl986.slots[((2 : Int32)).toNatClampNeg]? = some (.int y2) := H986.at hin986 rfl
    obtain ⟨T987, X987, e987, st987⟩ := getF X985 hx hZ hown (host := "") (Or.inl (own_w hw 16 rfl)) Via.refl e985 Fc975 (g := (mkF m 72 #[.val (.ref a1), .val (.long q2), .second, .val (.int (-4 : Int32)), .val (.int (2 : Int32)), .val (.int y2)] [(.ref a1)])) rfl rfl (hb hby d6_72)
    obtain ⟨T988, X988, e988, st988⟩ := getF X987 hx hZ hown (host := "") (Or.inl (own_w hw 25 rfl)) Via.refl e987 Fe975 (g := (mkF m 76 #[.val (.ref a1), .val (.long q2), .second, .val (.int (-4 : Int32)), .val (.int (2 : Int32)), .val (.int y2)] [(.ref a1), (.ref ac975)])) rfl rfl (hb hby d6_76)
    obtain ⟨cl989, A989, q989, S989, M989, H989, J989⟩ := id Vc975
    have hin989 : ¬ ((2 : Int32) < 0 ∨ cl989.slots.size ≤ ((2 : Int32)).toNatClampNeg) := inb_of S989 ⟨by decide, by decide⟩
    have hat989 : cl989.slots[((2 : Int32)).toNatClampNeg]? = some (.int y2) := H989.at hin989 rfl
    have pre990 : ∀ t, Steps p.tables e below (T988.setTop (mkF m 85 #[.val (.ref a1), .val (.long q2), .second, .val (.int (-4 : Int32)), .val (.int (2 : Int32)), .val (.int y2)] [(.int (y2 - y2))])) t → Steps p.tables e below (s₁.setTop (entryFrame m #[(.ref a1), (.long q2)] 6)) t := fun t kt => pre981 t (by
      show Steps p.tables e below (T980.setTop (mkF m 26 #[.val (.ref a1), .val (.long q2), .second, .unset, .unset, .unset] [(.long q2), (.int (3 : Int32)), (.int (2 : Int32)), (.ref am975)])) _
      refine st983 _ ?_
      refine XS.istoreN X983.here hx rfl (hb hby d6_29) rfl (l' := #[.val (.ref a1), .val (.long q2), .second, .val (.int (-4 : Int32)), .unset, .unset]) rfl ?_
      refine XS.iloadN X983.here hx rfl (hb hby d6_30) rfl ?_
      refine XS.ifYes X983.here hx rfl (pc0 := 31) (pc' := 38) rfl (hb hby d6_31) rfl ((if0 _ _).trans (tlt (by decide : (-4 : Int32) < (0 : Int32))).1) (by decide) (by decide) ?_
      refine XS.iloadN X983.here hx rfl (hb hby d6_38) rfl ?_
      refine XS.ineg X983.here hx rfl (hb hby d6_39) rfl ?_
      refine XS.iconst X983.here hx rfl (hb hby d6_40) ?_
      refine XS.isub X983.here hx rfl (hb hby d6_41) rfl ?_
      refine XS.iconst X983.here hx rfl (hb hby d6_42) ?_
      refine XS.isub X983.here hx rfl (hb hby d6_43) rfl ?_
      refine XS.istore X983.here hx rfl (hb hby d6_44) rfl (l' := #[.val (.ref a1), .val (.long q2), .second, .val (.int (-4 : Int32)), .val (.int (2 : Int32)), .unset]) rfl ?_
      refine XS.iload X983.here hx rfl (hb hby d6_46) rfl ?_
      show Steps p.tables e below (T983.setTop (mkF m 48 #[.val (.ref a1), .val (.long q2), .second, .val (.int (-4 : Int32)), .val (.int (2 : Int32)), .unset] [(.int (2 : Int32))])) _
      refine XS.aloadN X983.here hx rfl (hb hby d6_48) rfl rfl ?_
      refine st984 _ ?_
      refine XS.icmpYes X984.here hx rfl (pc0 := 52) (pc' := 62) rfl (hb hby d6_52) rfl (flt (by decide : ¬ ((2 : Int32) < (2 : Int32)))).2.1 (by decide) (by decide) ?_
      refine XS.aloadN X984.here hx rfl (hb hby d6_62) rfl rfl ?_
      refine st985 _ ?_
      refine XS.iload X985.here hx rfl (hb hby d6_66) rfl ?_
      refine X985.iaload hx (j := (2 : Int32)) (v := (.int y2)) (by rw [e985]; exact A986.1) (State.isArrayOf_alike hZ.alike A986.2.1) A986.2.2 hin986 hat986 (g := (mkF m 68 #[.val (.ref a1), .val (.long q2), .second, .val (.int (-4 : Int32)), .val (.int (2 : Int32)), .unset] [(.int (2 : Int32)), (.ref ac975)])) rfl rfl (hb hby d6_68) _ ?_
      refine XS.istore X985.here hx rfl (hb hby d6_69) rfl (l' := #[.val (.ref a1), .val (.long q2), .second, .val (.int (-4 : Int32)), .val (.int (2 : Int32)), .val (.int y2)]) rfl ?_
      refine XS.aloadN X985.here hx rfl (hb hby d6_71) rfl rfl ?_
      refine st987 _ ?_
      refine XS.aloadN X987.here hx rfl (hb hby d6_75) rfl rfl ?_
      refine st988 _ ?_
      show Steps p.tables e below (T988.setTop (mkF m 79 #[.val (.ref a1), .val (.long q2), .second, .val (.int (-4 : Int32)), .val (.int (2 : Int32)), .val (.int y2)] [(.int (3 : Int32)), (.ref ac975)])) _
      refine XS.iconst X988.here hx rfl (hb hby d6_79) ?_
      refine XS.isub X988.here hx rfl (hb hby d6_80) rfl ?_
      refine X988.iaload hx (j := (2 : Int32)) (v := (.int y2)) (by rw [e988]; exact A989.1) (State.isArrayOf_alike hZ.alike A989.2.1) A989.2.2 hin989 hat989 (g := (mkF m 81 #[.val (.ref a1), .val (.long q2), .second, .val (.int (-4 : Int32)), .val (.int (2 : Int32)), .val (.int y2)] [(.int (2 : Int32)), (.ref ac975)])) rfl rfl (hb hby d6_81) _ ?_
      refine XS.iload X988.here hx rfl (hb hby d6_82) rfl ?_
      refine XS.isub X988.here hx rfl (hb hby d6_84) rfl ?_
      exact kt)
    have lt991 : x2 < q2 := by
      rw [Int64.lt_iff_toInt_lt] at hc982 ⊢
      omega
    have ev : (y2 - (if x2 < q2 then y2 else b)) = (y2 - y2) := congrArg (fun z => y2 - z) (if_pos lt991)
    exact own_retI X988 hx Bd.notSynchronized Bd.returns (hb hby d6_85) pre990 (show QRi (y2 - (if x2 < q2 then y2 else b)) h0 n0 _ _ _ from ⟨by rw [ev], N983, e988⟩) (by decide) (by decide)
  case neg =>
    by_cases hc992 : q2 < x2
    case pos =>
      obtain ⟨_, _, ⟨T993, L993, k993, n993⟩, -, X993, ⟨Lc993, hQ993, l993, y993, z993⟩, st993⟩ := Jvm.LawKit.callS X980 hx (y := own_y_199) hown (mvT hZ (own_w hw 45 rfl)) (mvT hZ (own_w hw 46 rfl)) (mvT hZ (own_w hw 47 rfl)) (mvT hZ (own_w hw 48 rfl)) (by decide) (backOf (W := 0) (rmSBs234 l Z a0 hw [] am975 q2 km975 x0 x1 x2 x3 (-3 : Int32) h0 n0 Z0 Vm975 ((if_neg hc982).trans (if_pos hc992))) hZ (own_w hw 48 rfl) (own_w hw 47 rfl) (by decide) (by decide)) (g := (mkF m 26 #[.val (.ref a1), .val (.long q2), .second, .unset, .unset, .unset] [(.long q2), (.int (3 : Int32)), (.int (2 : Int32)), (.ref am975)])) rfl (by rw [hml]; rfl) (argsL := [(.ref am975), (.int (2 : Int32)), (.int (3 : Int32)), (.long q2)]) (rest := []) (lenOf pd_212 rfl) rfl (by show 2 * 0 + _ ≤ _; exact Nat.le_of_eq rfl) (hb hby d6_26) (fun _ _ => ⟨rfl, e980, (by decide : 0 + 0 ≤ _), (by decide : 0 + 0 ≤ _)⟩)
      dsimp only [Pt.U, Pt.locs, Pt.cells, Pt.slots] at X993 l993 y993 z993 st993 hQ993
      subst l993 y993 z993
      obtain ⟨rfl, Nq993, e993⟩ := hQ993
      have N993 := Fr.app N0 Nq993
      obtain ⟨T994, X994, e994, st994⟩ := getF X993 hx hZ hown (host := "") (Or.inl (own_w hw 23 rfl)) Via.refl e993 Ff975 (g := (mkF m 49 #[.val (.ref a1), .val (.long q2), .second, .val (.int (-3 : Int32)), .val (.int (1 : Int32)), .unset] [(.ref a1), (.int (1 : Int32))])) rfl rfl (hb hby d6_49)
      obtain ⟨T995, X995, e995, st995⟩ := getF X994 hx hZ hown (host := "") (Or.inl (own_w hw 27 rfl)) Via.refl e994 Fb975 (g := (mkF m 56 #[.val (.ref a1), .val (.long q2), .second, .val (.int (-3 : Int32)), .val (.int (1 : Int32)), .unset] [(.ref a1)])) rfl rfl (hb hby d6_56)
      obtain ⟨T996, X996, e996, st996⟩ := getF X995 hx hZ hown (host := "") (Or.inl (own_w hw 16 rfl)) Via.refl e995 Fc975 (g := (mkF m 72 #[.val (.ref a1), .val (.long q2), .second, .val (.int (-3 : Int32)), .val (.int (1 : Int32)), .val (.int b)] [(.ref a1)])) rfl rfl (hb hby d6_72)
      obtain ⟨T997, X997, e997, st997⟩ := getF X996 hx hZ hown (host := "") (Or.inl (own_w hw 25 rfl)) Via.refl e996 Fe975 (g := (mkF m 76 #[.val (.ref a1), .val (.long q2), .second, .val (.int (-3 : Int32)), .val (.int (1 : Int32)), .val (.int b)] [(.ref a1), (.ref ac975)])) rfl rfl (hb hby d6_76)
      obtain ⟨cl998, A998, q998, S998, M998, H998, J998⟩ := id Vc975
      have hin998 : ¬ ((2 : Int32) < 0 ∨ cl998.slots.size ≤ ((2 : Int32)).toNatClampNeg) := inb_of S998 ⟨by decide, by decide⟩
      have hat998 : cl998.slots[((2 : Int32)).toNatClampNeg]? = some (.int y2) := H998.at hin998 rfl
      have pre999 : ∀ t, Steps p.tables e below (T997.setTop (mkF m 85 #[.val (.ref a1), .val (.long q2), .second, .val (.int (-3 : Int32)), .val (.int (1 : Int32)), .val (.int b)] [(.int (y2 - b))])) t → Steps p.tables e below (s₁.setTop (entryFrame m #[(.ref a1), (.long q2)] 6)) t := fun t kt => pre981 t (by
        show Steps p.tables e below (T980.setTop (mkF m 26 #[.val (.ref a1), .val (.long q2), .second, .unset, .unset, .unset] [(.long q2), (.int (3 : Int32)), (.int (2 : Int32)), (.ref am975)])) _
        refine st993 _ ?_
        refine XS.istoreN X993.here hx rfl (hb hby d6_29) rfl (l' := #[.val (.ref a1), .val (.long q2), .second, .val (.int (-3 : Int32)), .unset, .unset]) rfl ?_
        refine XS.iloadN X993.here hx rfl (hb hby d6_30) rfl ?_
        refine XS.ifYes X993.here hx rfl (pc0 := 31) (pc' := 38) rfl (hb hby d6_31) rfl ((if0 _ _).trans (tlt (by decide : (-3 : Int32) < (0 : Int32))).1) (by decide) (by decide) ?_
        refine XS.iloadN X993.here hx rfl (hb hby d6_38) rfl ?_
        refine XS.ineg X993.here hx rfl (hb hby d6_39) rfl ?_
        refine XS.iconst X993.here hx rfl (hb hby d6_40) ?_
        refine XS.isub X993.here hx rfl (hb hby d6_41) rfl ?_
        refine XS.iconst X993.here hx rfl (hb hby d6_42) ?_
        refine XS.isub X993.here hx rfl (hb hby d6_43) rfl ?_
        refine XS.istore X993.here hx rfl (hb hby d6_44) rfl (l' := #[.val (.ref a1), .val (.long q2), .second, .val (.int (-3 : Int32)), .val (.int (1 : Int32)), .unset]) rfl ?_
        refine XS.iload X993.here hx rfl (hb hby d6_46) rfl ?_
        show Steps p.tables e below (T993.setTop (mkF m 48 #[.val (.ref a1), .val (.long q2), .second, .val (.int (-3 : Int32)), .val (.int (1 : Int32)), .unset] [(.int (1 : Int32))])) _
        refine XS.aloadN X993.here hx rfl (hb hby d6_48) rfl rfl ?_
        refine st994 _ ?_
        refine XS.icmpNo X994.here hx rfl (hb hby d6_52) rfl (tlt (by decide : (1 : Int32) < (2 : Int32))).2.1 ?_
        refine XS.aloadN X994.here hx rfl (hb hby d6_55) rfl rfl ?_
        refine st995 _ ?_
        refine XS.goto X995.here hx rfl (pc0 := 59) (pc' := 69) rfl (hb hby d6_59) (by decide) (by decide) ?_
        refine XS.istore X995.here hx rfl (hb hby d6_69) rfl (l' := #[.val (.ref a1), .val (.long q2), .second, .val (.int (-3 : Int32)), .val (.int (1 : Int32)), .val (.int b)]) rfl ?_
        refine XS.aloadN X995.here hx rfl (hb hby d6_71) rfl rfl ?_
        refine st996 _ ?_
        refine XS.aloadN X996.here hx rfl (hb hby d6_75) rfl rfl ?_
        refine st997 _ ?_
        refine XS.iconst X997.here hx rfl (hb hby d6_79) ?_
        show Steps p.tables e below (T997.setTop (mkF m 80 #[.val (.ref a1), .val (.long q2), .second, .val (.int (-3 : Int32)), .val (.int (1 : Int32)), .val (.int b)] [(.int (1 : Int32)), (.int (3 : Int32)), (.ref ac975)])) _
        refine XS.isub X997.here hx rfl (hb hby d6_80) rfl ?_
        refine X997.iaload hx (j := (2 : Int32)) (v := (.int y2)) (by rw [e997]; exact A998.1) (State.isArrayOf_alike hZ.alike A998.2.1) A998.2.2 hin998 hat998 (g := (mkF m 81 #[.val (.ref a1), .val (.long q2), .second, .val (.int (-3 : Int32)), .val (.int (1 : Int32)), .val (.int b)] [(.int (2 : Int32)), (.ref ac975)])) rfl rfl (hb hby d6_81) _ ?_
        refine XS.iload X997.here hx rfl (hb hby d6_82) rfl ?_
        refine XS.isub X997.here hx rfl (hb hby d6_84) rfl ?_
        exact kt)
      have lt1000 : ¬ (x2 < q2) := by
        rw [Int64.lt_iff_toInt_lt] at hc982 hc992 ⊢
        omega
      have ev : (y2 - (if x2 < q2 then y2 else b)) = (y2 - b) := congrArg (fun z => y2 - z) (if_neg lt1000)
      exact own_retI X997 hx Bd.notSynchronized Bd.returns (hb hby d6_85) pre999 (show QRi (y2 - (if x2 < q2 then y2 else b)) h0 n0 _ _ _ from ⟨by rw [ev], N993, e997⟩) (by decide) (by decide)
    case neg =>
      obtain ⟨_, _, ⟨T1001, L1001, k1001, n1001⟩, -, X1001, ⟨Lc1001, hQ1001, l1001, y1001, z1001⟩, st1001⟩ := Jvm.LawKit.callS X980 hx (y := own_y_199) hown (mvT hZ (own_w hw 45 rfl)) (mvT hZ (own_w hw 46 rfl)) (mvT hZ (own_w hw 47 rfl)) (mvT hZ (own_w hw 48 rfl)) (by decide) (backOf (W := 0) (rmSBs234 l Z a0 hw [] am975 q2 km975 x0 x1 x2 x3 (2 : Int32) h0 n0 Z0 Vm975 ((if_neg hc982).trans (if_neg hc992))) hZ (own_w hw 48 rfl) (own_w hw 47 rfl) (by decide) (by decide)) (g := (mkF m 26 #[.val (.ref a1), .val (.long q2), .second, .unset, .unset, .unset] [(.long q2), (.int (3 : Int32)), (.int (2 : Int32)), (.ref am975)])) rfl (by rw [hml]; rfl) (argsL := [(.ref am975), (.int (2 : Int32)), (.int (3 : Int32)), (.long q2)]) (rest := []) (lenOf pd_212 rfl) rfl (by show 2 * 0 + _ ≤ _; exact Nat.le_of_eq rfl) (hb hby d6_26) (fun _ _ => ⟨rfl, e980, (by decide : 0 + 0 ≤ _), (by decide : 0 + 0 ≤ _)⟩)
      dsimp only [Pt.U, Pt.locs, Pt.cells, Pt.slots] at X1001 l1001 y1001 z1001 st1001 hQ1001
      subst l1001 y1001 z1001
      obtain ⟨rfl, Nq1001, e1001⟩ := hQ1001
      have N1001 := Fr.app N0 Nq1001
      obtain ⟨T1002, X1002, e1002, st1002⟩ := getF X1001 hx hZ hown (host := "") (Or.inl (own_w hw 23 rfl)) Via.refl e1001 Ff975 (g := (mkF m 49 #[.val (.ref a1), .val (.long q2), .second, .val (.int (2 : Int32)), .val (.int (1 : Int32)), .unset] [(.ref a1), (.int (1 : Int32))])) rfl rfl (hb hby d6_49)
      obtain ⟨T1003, X1003, e1003, st1003⟩ := getF X1002 hx hZ hown (host := "") (Or.inl (own_w hw 27 rfl)) Via.refl e1002 Fb975 (g := (mkF m 56 #[.val (.ref a1), .val (.long q2), .second, .val (.int (2 : Int32)), .val (.int (1 : Int32)), .unset] [(.ref a1)])) rfl rfl (hb hby d6_56)
      obtain ⟨T1004, X1004, e1004, st1004⟩ := getF X1003 hx hZ hown (host := "") (Or.inl (own_w hw 16 rfl)) Via.refl e1003 Fc975 (g := (mkF m 72 #[.val (.ref a1), .val (.long q2), .second, .val (.int (2 : Int32)), .val (.int (1 : Int32)), .val (.int b)] [(.ref a1)])) rfl rfl (hb hby d6_72)
      obtain ⟨T1005, X1005, e1005, st1005⟩ := getF X1004 hx hZ hown (host := "") (Or.inl (own_w hw 25 rfl)) Via.refl e1004 Fe975 (g := (mkF m 76 #[.val (.ref a1), .val (.long q2), .second, .val (.int (2 : Int32)), .val (.int (1 : Int32)), .val (.int b)] [(.ref a1), (.ref ac975)])) rfl rfl (hb hby d6_76)
      obtain ⟨cl1006, A1006, q1006, S1006, M1006, H1006, J1006⟩ := id Vc975
      have hin1006 : ¬ ((2 : Int32) < 0 ∨ cl1006.slots.size ≤ ((2 : Int32)).toNatClampNeg) := inb_of S1006 ⟨by decide, by decide⟩
      have hat1006 : cl1006.slots[((2 : Int32)).toNatClampNeg]? = some (.int y2) := H1006.at hin1006 rfl
      have pre1007 : ∀ t, Steps p.tables e below (T1005.setTop (mkF m 85 #[.val (.ref a1), .val (.long q2), .second, .val (.int (2 : Int32)), .val (.int (1 : Int32)), .val (.int b)] [(.int (y2 - b))])) t → Steps p.tables e below (s₁.setTop (entryFrame m #[(.ref a1), (.long q2)] 6)) t := fun t kt => pre981 t (by
        show Steps p.tables e below (T980.setTop (mkF m 26 #[.val (.ref a1), .val (.long q2), .second, .unset, .unset, .unset] [(.long q2), (.int (3 : Int32)), (.int (2 : Int32)), (.ref am975)])) _
        refine st1001 _ ?_
        refine XS.istoreN X1001.here hx rfl (hb hby d6_29) rfl (l' := #[.val (.ref a1), .val (.long q2), .second, .val (.int (2 : Int32)), .unset, .unset]) rfl ?_
        refine XS.iloadN X1001.here hx rfl (hb hby d6_30) rfl ?_
        refine XS.ifNo X1001.here hx rfl (hb hby d6_31) rfl ((if0 _ _).trans (flt (by decide : ¬ ((2 : Int32) < (0 : Int32)))).1) ?_
        refine XS.iloadN X1001.here hx rfl (hb hby d6_34) rfl ?_
        refine XS.goto X1001.here hx rfl (pc0 := 35) (pc' := 42) rfl (hb hby d6_35) (by decide) (by decide) ?_
        refine XS.iconst X1001.here hx rfl (hb hby d6_42) ?_
        refine XS.isub X1001.here hx rfl (hb hby d6_43) rfl ?_
        refine XS.istore X1001.here hx rfl (hb hby d6_44) rfl (l' := #[.val (.ref a1), .val (.long q2), .second, .val (.int (2 : Int32)), .val (.int (1 : Int32)), .unset]) rfl ?_
        refine XS.iload X1001.here hx rfl (hb hby d6_46) rfl ?_
        refine XS.aloadN X1001.here hx rfl (hb hby d6_48) rfl rfl ?_
        refine st1002 _ ?_
        show Steps p.tables e below (T1002.setTop (mkF m 52 #[.val (.ref a1), .val (.long q2), .second, .val (.int (2 : Int32)), .val (.int (1 : Int32)), .unset] [(.int (2 : Int32)), (.int (1 : Int32))])) _
        refine XS.icmpNo X1002.here hx rfl (hb hby d6_52) rfl (tlt (by decide : (1 : Int32) < (2 : Int32))).2.1 ?_
        refine XS.aloadN X1002.here hx rfl (hb hby d6_55) rfl rfl ?_
        refine st1003 _ ?_
        refine XS.goto X1003.here hx rfl (pc0 := 59) (pc' := 69) rfl (hb hby d6_59) (by decide) (by decide) ?_
        refine XS.istore X1003.here hx rfl (hb hby d6_69) rfl (l' := #[.val (.ref a1), .val (.long q2), .second, .val (.int (2 : Int32)), .val (.int (1 : Int32)), .val (.int b)]) rfl ?_
        refine XS.aloadN X1003.here hx rfl (hb hby d6_71) rfl rfl ?_
        refine st1004 _ ?_
        refine XS.aloadN X1004.here hx rfl (hb hby d6_75) rfl rfl ?_
        refine st1005 _ ?_
        refine XS.iconst X1005.here hx rfl (hb hby d6_79) ?_
        refine XS.isub X1005.here hx rfl (hb hby d6_80) rfl ?_
        refine X1005.iaload hx (j := (2 : Int32)) (v := (.int y2)) (by rw [e1005]; exact A1006.1) (State.isArrayOf_alike hZ.alike A1006.2.1) A1006.2.2 hin1006 hat1006 (g := (mkF m 81 #[.val (.ref a1), .val (.long q2), .second, .val (.int (2 : Int32)), .val (.int (1 : Int32)), .val (.int b)] [(.int (2 : Int32)), (.ref ac975)])) rfl rfl (hb hby d6_81) _ ?_
        show Steps p.tables e below (T1005.setTop (mkF m 82 #[.val (.ref a1), .val (.long q2), .second, .val (.int (2 : Int32)), .val (.int (1 : Int32)), .val (.int b)] [(.int y2)])) _
        refine XS.iload X1005.here hx rfl (hb hby d6_82) rfl ?_
        refine XS.isub X1005.here hx rfl (hb hby d6_84) rfl ?_
        exact kt)
      have lt1008 : ¬ (x2 < q2) := by
        rw [Int64.lt_iff_toInt_lt] at hc982 hc992 ⊢
        omega
      have ev : (y2 - (if x2 < q2 then y2 else b)) = (y2 - b) := congrArg (fun z => y2 - z) (if_neg lt1008)
      exact own_retI X1005 hx Bd.notSynchronized Bd.returns (hb hby d6_85) pre1007 (show QRi (y2 - (if x2 < q2 then y2 else b)) h0 n0 _ _ _ from ⟨by rw [ev], N1001, e1005⟩) (by decide) (by decide)
def QFgt034_1 (Z : State) (a1 : Addr) (q2 : Int64) (x0 : Int64) (x1 : Int64) (x2 : Int64) (x3 : Int64) (y0 : Int32) (y1 : Int32) (y2 : Int32) (y3 : Int32) (b : Int32) (h0 : Heap) (n0 : Nat) (v : Option Value) (h : Heap) (L : List Loc) : Prop := v = none ∧ Fr n0 L ∧ h0.size ≤ h.size ∧ PT Z h n0 a1 (1 : Int32) (3 : Int32) (4 : Int32) [(.long x0), (.long x1), (.long x2), (.long x3)] [(.int y0), (.int y1), (.int y2), (.int y3)] y0
set_option maxRecDepth 65536 in
set_option maxHeartbeats 40000000 in
theorem rmFgt034_1 (l : Launch) (Z : State) (a0 : Array Value) (hw : ∀ d ∈ tables_1, d.before a0 Z = true) (ws : List Jvm.Cond) (a1 : Addr) (q2 : Int64) (x0 : Int64) (x1 : Int64) (x2 : Int64) (x3 : Int64) (y0 : Int32) (y1 : Int32) (y2 : Int32) (y3 : Int32) (b : Int32) (h0 : Heap) (n0 : Nat) (Z0 : n0 ≤ h0.size) (P0 : PT Z h0 n0 a1 (0 : Int32) (3 : Int32) (4 : Int32) [(.long x0), (.long x1), (.long x2), (.long x3)] [(.int y0), (.int y1), (.int y2), (.int y3)] b) (c0 : x0 < q2) (c1 : ¬ (x1 < q2)) :
    MetFree l own_y_32 (head1 (Jvm.Cond.code own_y_32 prog_25_method_4_code 3 none :: ws) ({ frames := 0, cells := 0, slots := 0, locals := 0 } : Room)) (fun a U => a = #[(.ref a1), (.long q2)] ∧ Z.Warmed39 U.vm ∧ U.heap = h0) (fun _ _ _ _ _ => True) (fun _ U o U' => ∃ v L, o = .returned v ∧ QFgt034_1 Z a1 q2 x0 x1 x2 x3 y0 y1 y2 y3 b h0 n0 v U'.heap L ∧ FrameEnd U o U' L ({ frames := 0, cells := 0, slots := 0, locals := 0 } : Room).cells ({ frames := 0, cells := 0, slots := 0, locals := 0 } : Room).slots) := by
  refine MetFree.of_bodySF (plainFor_of_name pn_2) hisR ?_
  intro p e s m args below meth c s₁ Bd hml0 hP hK
  obtain ⟨rfl, hZ, hh⟩ := hP
  have hx := Bd.exec
  have hby := Bd.bytes
  have hml : c.maxLocals = 3 := hml0
  have hown : s.vm.findClass "com/example/viral_counter/viralcounter/PostTrend" = some m.cls := findClass_of_methodNamed Bd.named
  have hnm := (name_of_methodNamed Bd.named Bd.method).1
  have X0 : Stand p l e ({ frames := 0, cells := 0, slots := 0, locals := 0 } : Room) s m #[(.ref a1), (.long q2)] below meth c s₁ [] 0 0 := Stand.of_body Bd
  have e0 : s₁.heap = h0 := by rw [← hh, Bd.state]; rfl
  have N0 := Fr.nil n0
  have pre0 : ∀ t, Steps p.tables e below (s₁.setTop (mkF m 0 #[.val (.ref a1), .val (.long q2), .second] [])) t → Steps p.tables e below (s₁.setTop (entryFrame m #[(.ref a1), (.long q2)] 3)) t := fun t k => castTop (ef_33 m a1 q2) k
  obtain ⟨am1012, ac1012, km1012, kc1012, E1012, Fm1012, Fc1012, Ff1012, Fe1012, Fb1012, Vm1012, Vc1012, Ga1012, Gm1012, Gc1012, n11012, n21012, n31012⟩ := id P0
  have hz0 : h0.size ≤ h0.size := Nat.le_refl _
  obtain ⟨T1013, X1013, e1013, st1013⟩ := getF X0 hx hZ hown (host := "") (Or.inl (own_w hw 23 rfl)) Via.refl e0 Ff1012 (g := (mkF m 1 #[.val (.ref a1), .val (.long q2), .second] [(.ref a1)])) rfl rfl (hb hby d4_1)
  obtain ⟨T1014, X1014, e1014, st1014⟩ := getF X1013 hx hZ hown (host := "") (Or.inl (own_w hw 25 rfl)) Via.refl e1013 Fe1012 (g := (mkF m 5 #[.val (.ref a1), .val (.long q2), .second] [(.ref a1), (.int (0 : Int32))])) rfl rfl (hb hby d4_5)
  obtain ⟨T1015, X1015, e1015, st1015⟩ := getF X1014 hx hZ hown (host := "") (Or.inl (own_w hw 13 rfl)) Via.refl e1014 Fm1012 (g := (mkF m 12 #[.val (.ref a1), .val (.long q2), .second] [(.ref a1)])) rfl rfl (hb hby d4_12)
  obtain ⟨T1016, X1016, e1016, st1016⟩ := getF X1015 hx hZ hown (host := "") (Or.inl (own_w hw 23 rfl)) Via.refl e1015 Ff1012 (g := (mkF m 16 #[.val (.ref a1), .val (.long q2), .second] [(.ref a1), (.ref am1012)])) rfl rfl (hb hby d4_16)
  obtain ⟨cl1017, A1017, q1017, S1017, M1017, H1017, J1017⟩ := id Vm1012
  have hin1017 : ¬ ((0 : Int32) < 0 ∨ cl1017.slots.size ≤ ((0 : Int32)).toNatClampNeg) := inb_of S1017 ⟨by decide, by decide⟩
  have hat1017 : cl1017.slots[((0 : Int32)).toNatClampNeg]? = some (.long x0) := H1017.at hin1017 rfl
  obtain ⟨T1018, X1018, e1018, st1018⟩ := getF X1016 hx hZ hown (host := "") (Or.inl (own_w hw 16 rfl)) Via.refl e1016 Fc1012 (g := (mkF m 27 #[.val (.ref a1), .val (.long q2), .second] [(.ref a1), (.ref a1)])) rfl rfl (hb hby d4_27)
  obtain ⟨T1019, X1019, e1019, st1019⟩ := getF X1018 hx hZ hown (host := "") (Or.inl (own_w hw 23 rfl)) Via.refl e1018 Ff1012 (g := (mkF m 31 #[.val (.ref a1), .val (.long q2), .second] [(.ref a1), (.ref ac1012), (.ref a1)])) rfl rfl (hb hby d4_31)
  obtain ⟨cl1020, A1020, q1020, S1020, M1020, H1020, J1020⟩ := id Vc1012
  have hin1020 : ¬ ((0 : Int32) < 0 ∨ cl1020.slots.size ≤ ((0 : Int32)).toNatClampNeg) := inb_of S1020 ⟨by decide, by decide⟩
  have hat1020 : cl1020.slots[((0 : Int32)).toNatClampNeg]? = some (.int y0) := H1020.at hin1020 rfl
  obtain ⟨T1021, h1021, X1021, e1021, W1021, st1021⟩ := putF X1019 hx hZ hown (host := "") (Or.inl (own_w hw 27 rfl)) Via.refl e1019 Fb1012 E1012 (Or.inl (own_w hw 28 rfl)) (own_w hw 4 rfl) (ty := .int) (by decide) rfl rfl (g := (mkF m 35 #[.val (.ref a1), .val (.long q2), .second] [(.int y0), (.ref a1)])) rfl rfl (hb hby d4_35)
  have Fw1021 := Fb1012.same W1021
  have N1021 := Fr.snoc X1021 N0 Ga1012
  have z1022 : n0 ≤ h1021.size := Nat.le_trans Z0 (Keep.of_wr W1021).1
  have c1023 := E1012.wr W1021
  have c1024 := Fm1012.other W1021 (Or.inr (own_sn_72 hw))
  have c1025 := Fc1012.other W1021 (Or.inr (own_sn_73 hw))
  have c1026 := Ff1012.other W1021 (Or.inr (own_sn_74 hw))
  have c1027 := Fe1012.other W1021 (Or.inr (own_sn_75 hw))
  have c1029 := Vm1012.other W1021 (Ne.symm n11012)
  have c1030 := Vc1012.other W1021 (Ne.symm n21012)
  obtain ⟨T1031, X1031, e1031, st1031⟩ := getF X1021 hx hZ hown (host := "") (Or.inl (own_w hw 23 rfl)) Via.refl e1021 c1026 (g := (mkF m 40 #[.val (.ref a1), .val (.long q2), .second] [(.ref a1), (.ref a1)])) rfl rfl (hb hby d4_40)
  obtain ⟨T1032, h1032, X1032, e1032, W1032, st1032⟩ := putF X1031 hx hZ hown (host := "") (Or.inl (own_w hw 23 rfl)) Via.refl e1031 c1026 c1023 (Or.inl (own_w hw 24 rfl)) (own_w hw 4 rfl) (ty := .int) (by decide) rfl rfl (g := (mkF m 45 #[.val (.ref a1), .val (.long q2), .second] [(.int (1 : Int32)), (.ref a1)])) rfl rfl (hb hby d4_45)
  have Fw1032 := c1026.same W1032
  have N1032 := Fr.snoc X1032 N1021 Ga1012
  have z1033 : n0 ≤ h1032.size := Nat.le_trans z1022 (Keep.of_wr W1032).1
  have c1034 := c1023.wr W1032
  have c1035 := c1024.other W1032 (Or.inr (own_sn_134 hw))
  have c1036 := c1025.other W1032 (Or.inr (own_sn_135 hw))
  have c1038 := c1027.other W1032 (Or.inr (own_sn_136 hw))
  have c1039 := c1029.other W1032 (Ne.symm n11012)
  have c1040 := c1030.other W1032 (Ne.symm n21012)
  have c1041 := Fw1021.other W1032 (Or.inr (own_sn_137 hw))
  obtain ⟨T1042, X1042, e1042, st1042⟩ := getF X1032 hx hZ hown (host := "") (Or.inl (own_w hw 23 rfl)) Via.refl e1032 Fw1032 (g := (mkF m 1 #[.val (.ref a1), .val (.long q2), .second] [(.ref a1)])) rfl rfl (hb hby d4_1)
  obtain ⟨T1043, X1043, e1043, st1043⟩ := getF X1042 hx hZ hown (host := "") (Or.inl (own_w hw 25 rfl)) Via.refl e1042 c1038 (g := (mkF m 5 #[.val (.ref a1), .val (.long q2), .second] [(.ref a1), (.int (1 : Int32))])) rfl rfl (hb hby d4_5)
  obtain ⟨T1044, X1044, e1044, st1044⟩ := getF X1043 hx hZ hown (host := "") (Or.inl (own_w hw 13 rfl)) Via.refl e1043 c1035 (g := (mkF m 12 #[.val (.ref a1), .val (.long q2), .second] [(.ref a1)])) rfl rfl (hb hby d4_12)
  obtain ⟨T1045, X1045, e1045, st1045⟩ := getF X1044 hx hZ hown (host := "") (Or.inl (own_w hw 23 rfl)) Via.refl e1044 Fw1032 (g := (mkF m 16 #[.val (.ref a1), .val (.long q2), .second] [(.ref a1), (.ref am1012)])) rfl rfl (hb hby d4_16)
  obtain ⟨cl1046, A1046, q1046, S1046, M1046, H1046, J1046⟩ := id c1039
  have hin1046 : ¬ ((1 : Int32) < 0 ∨ cl1046.slots.size ≤ ((1 : Int32)).toNatClampNeg) := inb_of S1046 ⟨by decide, by decide⟩
  have hat1046 : cl1046.slots[((1 : Int32)).toNatClampNeg]? = some (.long x1) := H1046.at hin1046 rfl
  have pre1047 : ∀ t, Steps p.tables e below (T1045.setTop (mkF m 51 #[.val (.ref a1), .val (.long q2), .second] [])) t → Steps p.tables e below (s₁.setTop (entryFrame m #[(.ref a1), (.long q2)] 3)) t := fun t kt => pre0 t (by
    show Steps p.tables e below (s₁.setTop (mkF m 0 #[.val (.ref a1), .val (.long q2), .second] [])) _
    refine XS.aloadN X0.here hx rfl (hb hby d4_0) rfl rfl ?_
    refine st1013 _ ?_
    refine XS.aloadN X1013.here hx rfl (hb hby d4_4) rfl rfl ?_
    refine st1014 _ ?_
    refine XS.icmpNo X1014.here hx rfl (hb hby d4_8) rfl (tlt (by decide : (0 : Int32) < (3 : Int32))).2.1 ?_
    refine XS.aloadN X1014.here hx rfl (hb hby d4_11) rfl rfl ?_
    refine st1015 _ ?_
    refine XS.aloadN X1015.here hx rfl (hb hby d4_15) rfl rfl ?_
    refine st1016 _ ?_
    refine X1016.laload hx (j := (0 : Int32)) (v := (.long x0)) (by rw [e1016]; exact A1017.1) (State.isArrayOf_alike hZ.alike A1017.2.1) A1017.2.2 hin1017 hat1017 (g := (mkF m 19 #[.val (.ref a1), .val (.long q2), .second] [(.int (0 : Int32)), (.ref am1012)])) rfl rfl (hb hby d4_19) _ ?_
    refine XS.lloadN X1016.here hx rfl (hb hby d4_20) rfl ?_
    refine XS.lcmp X1016.here hx rfl (hb hby d4_21) rfl ?_
    show Steps p.tables e below (T1016.setTop (mkF m 22 #[.val (.ref a1), .val (.long q2), .second] [(.int (lcmpW x0 q2))])) _
    refine XS.ifNo X1016.here hx rfl (hb hby d4_22) rfl ((if0 _ _).trans (tlt ((lw_lt _ _).mpr c0)).2.1) ?_
    refine XS.aloadN X1016.here hx rfl (hb hby d4_25) rfl rfl ?_
    refine XS.aloadN X1016.here hx rfl (hb hby d4_26) rfl rfl ?_
    refine st1018 _ ?_
    refine XS.aloadN X1018.here hx rfl (hb hby d4_30) rfl rfl ?_
    refine st1019 _ ?_
    refine X1019.iaload hx (j := (0 : Int32)) (v := (.int y0)) (by rw [e1019]; exact A1020.1) (State.isArrayOf_alike hZ.alike A1020.2.1) A1020.2.2 hin1020 hat1020 (g := (mkF m 34 #[.val (.ref a1), .val (.long q2), .second] [(.int (0 : Int32)), (.ref ac1012), (.ref a1)])) rfl rfl (hb hby d4_34) _ ?_
    refine st1021 _ ?_
    refine XS.aloadN X1021.here hx rfl (hb hby d4_38) rfl rfl ?_
    refine XS.dup X1021.here hx rfl (hb hby d4_39) rfl rfl ?_
    refine st1031 _ ?_
    refine XS.iconst X1031.here hx rfl (hb hby d4_43) ?_
    show Steps p.tables e below (T1031.setTop (mkF m 44 #[.val (.ref a1), .val (.long q2), .second] [(.int (1 : Int32)), (.int (0 : Int32)), (.ref a1)])) _
    refine XS.iadd X1031.here hx rfl (hb hby d4_44) rfl ?_
    refine st1032 _ ?_
    refine XS.goto X1032.here hx rfl (pc0 := 48) (pc' := 0) rfl (hb hby d4_48) (by decide) (by decide) ?_
    refine XS.aloadN X1032.here hx rfl (hb hby d4_0) rfl rfl ?_
    refine st1042 _ ?_
    refine XS.aloadN X1042.here hx rfl (hb hby d4_4) rfl rfl ?_
    refine st1043 _ ?_
    refine XS.icmpNo X1043.here hx rfl (hb hby d4_8) rfl (tlt (by decide : (1 : Int32) < (3 : Int32))).2.1 ?_
    refine XS.aloadN X1043.here hx rfl (hb hby d4_11) rfl rfl ?_
    refine st1044 _ ?_
    refine XS.aloadN X1044.here hx rfl (hb hby d4_15) rfl rfl ?_
    refine st1045 _ ?_
    show Steps p.tables e below (T1045.setTop (mkF m 19 #[.val (.ref a1), .val (.long q2), .second] [(.int (1 : Int32)), (.ref am1012)])) _
    refine X1045.laload hx (j := (1 : Int32)) (v := (.long x1)) (by rw [e1045]; exact A1046.1) (State.isArrayOf_alike hZ.alike A1046.2.1) A1046.2.2 hin1046 hat1046 (g := (mkF m 19 #[.val (.ref a1), .val (.long q2), .second] [(.int (1 : Int32)), (.ref am1012)])) rfl rfl (hb hby d4_19) _ ?_
    refine XS.lloadN X1045.here hx rfl (hb hby d4_20) rfl ?_
    refine XS.lcmp X1045.here hx rfl (hb hby d4_21) rfl ?_
    refine XS.ifYes X1045.here hx rfl (pc0 := 22) (pc' := 51) rfl (hb hby d4_22) rfl ((if0 _ _).trans (flt (fun q => c1 ((lw_lt _ _).mp q))).2.1) (by decide) (by decide) ?_
    exact kt)
  have hz : h0.size ≤ h1032.size := Nat.le_trans (Nat.le_trans (Nat.le_refl _) (Keep.of_wr W1021).1) (Keep.of_wr W1032).1
  have hQ : QFgt034_1 Z a1 q2 x0 x1 x2 x3 y0 y1 y2 y3 b h0 n0 none h1032 _ := ⟨rfl, N1032, hz, ⟨am1012, ac1012, km1012, kc1012, c1034, c1035, c1036, Fw1032, c1038, c1041, c1039, c1040, Ga1012, Gm1012, Gc1012, n11012, n21012, n31012⟩⟩
  exact own_retV X1045 hx Bd.notSynchronized Bd.returns (hb hby d4_51) pre1047 (show QFgt034_1 Z a1 q2 x0 x1 x2 x3 y0 y1 y2 y3 b h0 n0 _ _ _ from (by rw [e1045]; exact hQ)) (by decide) (by decide)
set_option maxRecDepth 65536 in
set_option maxHeartbeats 40000000 in
theorem rmBs134 (l : Launch) (Z : State) (a0 : Array Value) (hw : ∀ d ∈ tables_1, d.before a0 Z = true) (ws : List Jvm.Cond) (a1 : Addr) (q4 : Int64) (k0 : ClassId) (x0 : Int64) (x1 : Int64) (x2 : Int64) (x3 : Int64) (r : Int32) (h0 : Heap) (n0 : Nat) (Z0 : n0 ≤ h0.size) (V0 : Arv Z h0 a1 k0 .long (4 : Int32) [(.long x0), (.long x1), (.long x2), (.long x3)] (.long (0 : Int64))) (er : (if x1 < q4 then (if x2 < q4 then (-4 : Int32) else (if q4 < x2 then (-3 : Int32) else (2 : Int32))) else (if q4 < x1 then (-2 : Int32) else (1 : Int32))) = r) :
    MetFree l own_y_185 (head1 (Jvm.Cond.code own_y_185 jdk_65_method_56_code 10 (some .int) :: ws) ({ frames := 0, cells := 0, slots := 0, locals := 0 } : Room)) (fun a U => a = #[(.ref a1), (.int (1 : Int32)), (.int (3 : Int32)), (.long q4)] ∧ Z.Warmed39 U.vm ∧ U.heap = h0) (fun _ _ _ _ _ => True) (fun _ U o U' => ∃ v L, o = .returned v ∧ QBs r h0 n0 v U'.heap L ∧ FrameEnd U o U' L ({ frames := 0, cells := 0, slots := 0, locals := 0 } : Room).cells ({ frames := 0, cells := 0, slots := 0, locals := 0 } : Room).slots) := by
  refine MetFree.of_bodySF (plainFor_of_name pn_187) hisR ?_
  intro p e s m args below meth c s₁ Bd hml0 hP hK
  obtain ⟨rfl, hZ, hh⟩ := hP
  have hx := Bd.exec
  have hby := Bd.bytes
  have hml : c.maxLocals = 10 := hml0
  have hown : s.vm.findClass "java/util/Arrays" = some m.cls := findClass_of_methodNamed Bd.named
  have hnm := (name_of_methodNamed Bd.named Bd.method).1
  have X0 : Stand p l e ({ frames := 0, cells := 0, slots := 0, locals := 0 } : Room) s m #[(.ref a1), (.int (1 : Int32)), (.int (3 : Int32)), (.long q4)] below meth c s₁ [] 0 0 := Stand.of_body Bd
  have e0 : s₁.heap = h0 := by rw [← hh, Bd.state]; rfl
  have N0 := Fr.nil n0
  have pre0 : ∀ t, Steps p.tables e below (s₁.setTop (mkF m 0 #[.val (.ref a1), .val (.int (1 : Int32)), .val (.int (3 : Int32)), .val (.long q4), .second, .unset, .unset, .unset, .unset, .unset] [])) t → Steps p.tables e below (s₁.setTop (entryFrame m #[(.ref a1), (.int (1 : Int32)), (.int (3 : Int32)), (.long q4)] 10)) t := fun t k => castTop (ef_186 m a1 (1 : Int32) (3 : Int32) q4) k
  obtain ⟨cl1051, A1051, q1051, S1051, M1051, H1051, J1051⟩ := id V0
  have hin1051 : ¬ ((1 : Int32) < 0 ∨ cl1051.slots.size ≤ ((1 : Int32)).toNatClampNeg) := inb_of S1051 ⟨by decide, by decide⟩
  have hat1051 : cl1051.slots[((1 : Int32)).toNatClampNeg]? = some (.long x1) := H1051.at hin1051 rfl
  have pre1052 : ∀ t, Steps p.tables e below (s₁.setTop (mkF m 34 #[.val (.ref a1), .val (.int (1 : Int32)), .val (.int (3 : Int32)), .val (.long q4), .second, .val (.int (1 : Int32)), .val (.int (2 : Int32)), .val (.int (1 : Int32)), .val (.long x1), .second] [(.int (lcmpW x1 q4))])) t → Steps p.tables e below (s₁.setTop (entryFrame m #[(.ref a1), (.int (1 : Int32)), (.int (3 : Int32)), (.long q4)] 10)) t := fun t kt => pre0 t (by
    show Steps p.tables e below (s₁.setTop (mkF m 0 #[.val (.ref a1), .val (.int (1 : Int32)), .val (.int (3 : Int32)), .val (.long q4), .second, .unset, .unset, .unset, .unset, .unset] [])) _
    refine XS.iloadN X0.here hx rfl (hb hby d9_0) rfl ?_
    refine XS.istore X0.here hx rfl (hb hby d9_1) rfl (l' := #[.val (.ref a1), .val (.int (1 : Int32)), .val (.int (3 : Int32)), .val (.long q4), .second, .val (.int (1 : Int32)), .unset, .unset, .unset, .unset]) rfl ?_
    refine XS.iloadN X0.here hx rfl (hb hby d9_3) rfl ?_
    refine XS.iconst X0.here hx rfl (hb hby d9_4) ?_
    refine XS.isub X0.here hx rfl (hb hby d9_5) rfl ?_
    refine XS.istore X0.here hx rfl (hb hby d9_6) rfl (l' := #[.val (.ref a1), .val (.int (1 : Int32)), .val (.int (3 : Int32)), .val (.long q4), .second, .val (.int (1 : Int32)), .val (.int (2 : Int32)), .unset, .unset, .unset]) rfl ?_
    refine XS.iload X0.here hx rfl (hb hby d9_8) rfl ?_
    refine XS.iload X0.here hx rfl (hb hby d9_10) rfl ?_
    refine XS.icmpNo X0.here hx rfl (hb hby d9_12) rfl (flt (by decide : ¬ ((2 : Int32) < (1 : Int32)))).2.2.1 ?_
    refine XS.iload X0.here hx rfl (hb hby d9_15) rfl ?_
    refine XS.iload X0.here hx rfl (hb hby d9_17) rfl ?_
    refine XS.iadd X0.here hx rfl (hb hby d9_19) rfl ?_
    show Steps p.tables e below (s₁.setTop (mkF m 20 #[.val (.ref a1), .val (.int (1 : Int32)), .val (.int (3 : Int32)), .val (.long q4), .second, .val (.int (1 : Int32)), .val (.int (2 : Int32)), .unset, .unset, .unset] [(.int (3 : Int32))])) _
    refine XS.iconst X0.here hx rfl (hb hby d9_20) ?_
    refine XS.iushr X0.here hx rfl (hb hby d9_21) rfl ?_
    refine XS.istore X0.here hx rfl (hb hby d9_22) rfl (l' := #[.val (.ref a1), .val (.int (1 : Int32)), .val (.int (3 : Int32)), .val (.long q4), .second, .val (.int (1 : Int32)), .val (.int (2 : Int32)), .val (.int (1 : Int32)), .unset, .unset]) rfl ?_
    refine XS.aloadN X0.here hx rfl (hb hby d9_24) rfl rfl ?_
    refine XS.iload X0.here hx rfl (hb hby d9_25) rfl ?_
    refine X0.laload hx (j := (1 : Int32)) (v := (.long x1)) (by rw [e0]; exact A1051.1) (State.isArrayOf_alike hZ.alike A1051.2.1) A1051.2.2 hin1051 hat1051 (g := (mkF m 27 #[.val (.ref a1), .val (.int (1 : Int32)), .val (.int (3 : Int32)), .val (.long q4), .second, .val (.int (1 : Int32)), .val (.int (2 : Int32)), .val (.int (1 : Int32)), .unset, .unset] [(.int (1 : Int32)), (.ref a1)])) rfl rfl (hb hby d9_27) _ ?_
    refine XS.lstore X0.here hx rfl (hb hby d9_28) rfl (l' := #[.val (.ref a1), .val (.int (1 : Int32)), .val (.int (3 : Int32)), .val (.long q4), .second, .val (.int (1 : Int32)), .val (.int (2 : Int32)), .val (.int (1 : Int32)), .val (.long x1), .second]) rfl ?_
    refine XS.lload X0.here hx rfl (hb hby d9_30) rfl ?_
    refine XS.lloadN X0.here hx rfl (hb hby d9_32) rfl ?_
    refine XS.lcmp X0.here hx rfl (hb hby d9_33) rfl ?_
    exact kt)
  by_cases hc1053 : x1 < q4
  case pos =>
    obtain ⟨cl1054, A1054, q1054, S1054, M1054, H1054, J1054⟩ := id V0
    have hin1054 : ¬ ((2 : Int32) < 0 ∨ cl1054.slots.size ≤ ((2 : Int32)).toNatClampNeg) := inb_of S1054 ⟨by decide, by decide⟩
    have hat1054 : cl1054.slots[((2 : Int32)).toNatClampNeg]? = some (.long x2) := H1054.at hin1054 rfl
    have pre1055 : ∀ t, Steps p.tables e below (s₁.setTop (mkF m 34 #[.val (.ref a1), .val (.int (1 : Int32)), .val (.int (3 : Int32)), .val (.long q4), .second, .val (.int (2 : Int32)), .val (.int (2 : Int32)), .val (.int (2 : Int32)), .val (.long x2), .second] [(.int (lcmpW x2 q4))])) t → Steps p.tables e below (s₁.setTop (entryFrame m #[(.ref a1), (.int (1 : Int32)), (.int (3 : Int32)), (.long q4)] 10)) t := fun t kt => pre1052 t (by
      show Steps p.tables e below (s₁.setTop (mkF m 34 #[.val (.ref a1), .val (.int (1 : Int32)), .val (.int (3 : Int32)), .val (.long q4), .second, .val (.int (1 : Int32)), .val (.int (2 : Int32)), .val (.int (1 : Int32)), .val (.long x1), .second] [(.int (lcmpW x1 q4))])) _
      refine XS.ifNo X0.here hx rfl (hb hby d9_34) rfl ((if0 _ _).trans (tlt ((lw_lt _ _).mpr hc1053)).2.1) ?_
      refine XS.iload X0.here hx rfl (hb hby d9_37) rfl ?_
      refine XS.iconst X0.here hx rfl (hb hby d9_39) ?_
      refine XS.iadd X0.here hx rfl (hb hby d9_40) rfl ?_
      refine XS.istore X0.here hx rfl (hb hby d9_41) rfl (l' := #[.val (.ref a1), .val (.int (1 : Int32)), .val (.int (3 : Int32)), .val (.long q4), .second, .val (.int (2 : Int32)), .val (.int (2 : Int32)), .val (.int (1 : Int32)), .val (.long x1), .second]) rfl ?_
      refine XS.goto X0.here hx rfl (pc0 := 43) (pc' := 65) rfl (hb hby d9_43) (by decide) (by decide) ?_
      refine XS.goto X0.here hx rfl (pc0 := 65) (pc' := 8) rfl (hb hby d9_65) (by decide) (by decide) ?_
      refine XS.iload X0.here hx rfl (hb hby d9_8) rfl ?_
      refine XS.iload X0.here hx rfl (hb hby d9_10) rfl ?_
      refine XS.icmpNo X0.here hx rfl (hb hby d9_12) rfl (flt (by decide : ¬ ((2 : Int32) < (2 : Int32)))).2.2.1 ?_
      refine XS.iload X0.here hx rfl (hb hby d9_15) rfl ?_
      refine XS.iload X0.here hx rfl (hb hby d9_17) rfl ?_
      show Steps p.tables e below (s₁.setTop (mkF m 19 #[.val (.ref a1), .val (.int (1 : Int32)), .val (.int (3 : Int32)), .val (.long q4), .second, .val (.int (2 : Int32)), .val (.int (2 : Int32)), .val (.int (1 : Int32)), .val (.long x1), .second] [(.int (2 : Int32)), (.int (2 : Int32))])) _
      refine XS.iadd X0.here hx rfl (hb hby d9_19) rfl ?_
      refine XS.iconst X0.here hx rfl (hb hby d9_20) ?_
      refine XS.iushr X0.here hx rfl (hb hby d9_21) rfl ?_
      refine XS.istore X0.here hx rfl (hb hby d9_22) rfl (l' := #[.val (.ref a1), .val (.int (1 : Int32)), .val (.int (3 : Int32)), .val (.long q4), .second, .val (.int (2 : Int32)), .val (.int (2 : Int32)), .val (.int (2 : Int32)), .val (.long x1), .second]) rfl ?_
      refine XS.aloadN X0.here hx rfl (hb hby d9_24) rfl rfl ?_
      refine XS.iload X0.here hx rfl (hb hby d9_25) rfl ?_
      refine X0.laload hx (j := (2 : Int32)) (v := (.long x2)) (by rw [e0]; exact A1054.1) (State.isArrayOf_alike hZ.alike A1054.2.1) A1054.2.2 hin1054 hat1054 (g := (mkF m 27 #[.val (.ref a1), .val (.int (1 : Int32)), .val (.int (3 : Int32)), .val (.long q4), .second, .val (.int (2 : Int32)), .val (.int (2 : Int32)), .val (.int (2 : Int32)), .val (.long x1), .second] [(.int (2 : Int32)), (.ref a1)])) rfl rfl (hb hby d9_27) _ ?_
      refine XS.lstore X0.here hx rfl (hb hby d9_28) rfl (l' := #[.val (.ref a1), .val (.int (1 : Int32)), .val (.int (3 : Int32)), .val (.long q4), .second, .val (.int (2 : Int32)), .val (.int (2 : Int32)), .val (.int (2 : Int32)), .val (.long x2), .second]) rfl ?_
      refine XS.lload X0.here hx rfl (hb hby d9_30) rfl ?_
      refine XS.lloadN X0.here hx rfl (hb hby d9_32) rfl ?_
      refine XS.lcmp X0.here hx rfl (hb hby d9_33) rfl ?_
      exact kt)
    by_cases hc1056 : x2 < q4
    case pos =>
      have pre1061 : ∀ t, Steps p.tables e below (s₁.setTop (mkF m 73 #[.val (.ref a1), .val (.int (1 : Int32)), .val (.int (3 : Int32)), .val (.long q4), .second, .val (.int (3 : Int32)), .val (.int (2 : Int32)), .val (.int (2 : Int32)), .val (.long x2), .second] [(.int (-4 : Int32))])) t → Steps p.tables e below (s₁.setTop (entryFrame m #[(.ref a1), (.int (1 : Int32)), (.int (3 : Int32)), (.long q4)] 10)) t := fun t kt => pre1055 t (by
        show Steps p.tables e below (s₁.setTop (mkF m 34 #[.val (.ref a1), .val (.int (1 : Int32)), .val (.int (3 : Int32)), .val (.long q4), .second, .val (.int (2 : Int32)), .val (.int (2 : Int32)), .val (.int (2 : Int32)), .val (.long x2), .second] [(.int (lcmpW x2 q4))])) _
        refine XS.ifNo X0.here hx rfl (hb hby d9_34) rfl ((if0 _ _).trans (tlt ((lw_lt _ _).mpr hc1056)).2.1) ?_
        refine XS.iload X0.here hx rfl (hb hby d9_37) rfl ?_
        refine XS.iconst X0.here hx rfl (hb hby d9_39) ?_
        refine XS.iadd X0.here hx rfl (hb hby d9_40) rfl ?_
        refine XS.istore X0.here hx rfl (hb hby d9_41) rfl (l' := #[.val (.ref a1), .val (.int (1 : Int32)), .val (.int (3 : Int32)), .val (.long q4), .second, .val (.int (3 : Int32)), .val (.int (2 : Int32)), .val (.int (2 : Int32)), .val (.long x2), .second]) rfl ?_
        refine XS.goto X0.here hx rfl (pc0 := 43) (pc' := 65) rfl (hb hby d9_43) (by decide) (by decide) ?_
        refine XS.goto X0.here hx rfl (pc0 := 65) (pc' := 8) rfl (hb hby d9_65) (by decide) (by decide) ?_
        refine XS.iload X0.here hx rfl (hb hby d9_8) rfl ?_
        refine XS.iload X0.here hx rfl (hb hby d9_10) rfl ?_
        refine XS.icmpYes X0.here hx rfl (pc0 := 12) (pc' := 68) rfl (hb hby d9_12) rfl (tlt (by decide : (2 : Int32) < (3 : Int32))).2.2.1 (by decide) (by decide) ?_
        refine XS.iload X0.here hx rfl (hb hby d9_68) rfl ?_
        refine XS.iconst X0.here hx rfl (hb hby d9_70) ?_
        show Steps p.tables e below (s₁.setTop (mkF m 71 #[.val (.ref a1), .val (.int (1 : Int32)), .val (.int (3 : Int32)), .val (.long q4), .second, .val (.int (3 : Int32)), .val (.int (2 : Int32)), .val (.int (2 : Int32)), .val (.long x2), .second] [(.int (1 : Int32)), (.int (3 : Int32))])) _
        refine XS.iadd X0.here hx rfl (hb hby d9_71) rfl ?_
        refine XS.ineg X0.here hx rfl (hb hby d9_72) rfl ?_
        exact kt)
      have ev : r = (-4 : Int32) := er.symm.trans ((if_pos hc1053).trans (if_pos hc1056))
      exact own_retI X0 hx Bd.notSynchronized Bd.returns (hb hby d9_73) pre1061 (show QBs r h0 n0 _ _ _ from ⟨by rw [ev], N0, e0⟩) (by decide) (by decide)
    case neg =>
      have pre1057 : ∀ t, Steps p.tables e below (s₁.setTop (mkF m 50 #[.val (.ref a1), .val (.int (1 : Int32)), .val (.int (3 : Int32)), .val (.long q4), .second, .val (.int (2 : Int32)), .val (.int (2 : Int32)), .val (.int (2 : Int32)), .val (.long x2), .second] [(.int (lcmpW x2 q4))])) t → Steps p.tables e below (s₁.setTop (entryFrame m #[(.ref a1), (.int (1 : Int32)), (.int (3 : Int32)), (.long q4)] 10)) t := fun t kt => pre1055 t (by
        show Steps p.tables e below (s₁.setTop (mkF m 34 #[.val (.ref a1), .val (.int (1 : Int32)), .val (.int (3 : Int32)), .val (.long q4), .second, .val (.int (2 : Int32)), .val (.int (2 : Int32)), .val (.int (2 : Int32)), .val (.long x2), .second] [(.int (lcmpW x2 q4))])) _
        refine XS.ifYes X0.here hx rfl (pc0 := 34) (pc' := 46) rfl (hb hby d9_34) rfl ((if0 _ _).trans (flt (fun q => hc1056 ((lw_lt _ _).mp q))).2.1) (by decide) (by decide) ?_
        refine XS.lload X0.here hx rfl (hb hby d9_46) rfl ?_
        refine XS.lloadN X0.here hx rfl (hb hby d9_48) rfl ?_
        refine XS.lcmp X0.here hx rfl (hb hby d9_49) rfl ?_
        exact kt)
      by_cases hc1058 : q4 < x2
      case pos =>
        have pre1062 : ∀ t, Steps p.tables e below (s₁.setTop (mkF m 73 #[.val (.ref a1), .val (.int (1 : Int32)), .val (.int (3 : Int32)), .val (.long q4), .second, .val (.int (2 : Int32)), .val (.int (1 : Int32)), .val (.int (2 : Int32)), .val (.long x2), .second] [(.int (-3 : Int32))])) t → Steps p.tables e below (s₁.setTop (entryFrame m #[(.ref a1), (.int (1 : Int32)), (.int (3 : Int32)), (.long q4)] 10)) t := fun t kt => pre1057 t (by
          show Steps p.tables e below (s₁.setTop (mkF m 50 #[.val (.ref a1), .val (.int (1 : Int32)), .val (.int (3 : Int32)), .val (.long q4), .second, .val (.int (2 : Int32)), .val (.int (2 : Int32)), .val (.int (2 : Int32)), .val (.long x2), .second] [(.int (lcmpW x2 q4))])) _
          refine XS.ifNo X0.here hx rfl (hb hby d9_50) rfl ((if0 _ _).trans (tlt ((lw_gt _ _).mpr hc1058)).2.2.2) ?_
          refine XS.iload X0.here hx rfl (hb hby d9_53) rfl ?_
          refine XS.iconst X0.here hx rfl (hb hby d9_55) ?_
          refine XS.isub X0.here hx rfl (hb hby d9_56) rfl ?_
          refine XS.istore X0.here hx rfl (hb hby d9_57) rfl (l' := #[.val (.ref a1), .val (.int (1 : Int32)), .val (.int (3 : Int32)), .val (.long q4), .second, .val (.int (2 : Int32)), .val (.int (1 : Int32)), .val (.int (2 : Int32)), .val (.long x2), .second]) rfl ?_
          refine XS.goto X0.here hx rfl (pc0 := 59) (pc' := 65) rfl (hb hby d9_59) (by decide) (by decide) ?_
          refine XS.goto X0.here hx rfl (pc0 := 65) (pc' := 8) rfl (hb hby d9_65) (by decide) (by decide) ?_
          refine XS.iload X0.here hx rfl (hb hby d9_8) rfl ?_
          refine XS.iload X0.here hx rfl (hb hby d9_10) rfl ?_
          refine XS.icmpYes X0.here hx rfl (pc0 := 12) (pc' := 68) rfl (hb hby d9_12) rfl (tlt (by decide : (1 : Int32) < (2 : Int32))).2.2.1 (by decide) (by decide) ?_
          refine XS.iload X0.here hx rfl (hb hby d9_68) rfl ?_
          refine XS.iconst X0.here hx rfl (hb hby d9_70) ?_
          show Steps p.tables e below (s₁.setTop (mkF m 71 #[.val (.ref a1), .val (.int (1 : Int32)), .val (.int (3 : Int32)), .val (.long q4), .second, .val (.int (2 : Int32)), .val (.int (1 : Int32)), .val (.int (2 : Int32)), .val (.long x2), .second] [(.int (1 : Int32)), (.int (2 : Int32))])) _
          refine XS.iadd X0.here hx rfl (hb hby d9_71) rfl ?_
          refine XS.ineg X0.here hx rfl (hb hby d9_72) rfl ?_
          exact kt)
        have ev : r = (-3 : Int32) := er.symm.trans (((if_pos hc1053).trans (if_neg hc1056)).trans (if_pos hc1058))
        exact own_retI X0 hx Bd.notSynchronized Bd.returns (hb hby d9_73) pre1062 (show QBs r h0 n0 _ _ _ from ⟨by rw [ev], N0, e0⟩) (by decide) (by decide)
      case neg =>
        have pre1063 : ∀ t, Steps p.tables e below (s₁.setTop (mkF m 64 #[.val (.ref a1), .val (.int (1 : Int32)), .val (.int (3 : Int32)), .val (.long q4), .second, .val (.int (2 : Int32)), .val (.int (2 : Int32)), .val (.int (2 : Int32)), .val (.long x2), .second] [(.int (2 : Int32))])) t → Steps p.tables e below (s₁.setTop (entryFrame m #[(.ref a1), (.int (1 : Int32)), (.int (3 : Int32)), (.long q4)] 10)) t := fun t kt => pre1057 t (by
          show Steps p.tables e below (s₁.setTop (mkF m 50 #[.val (.ref a1), .val (.int (1 : Int32)), .val (.int (3 : Int32)), .val (.long q4), .second, .val (.int (2 : Int32)), .val (.int (2 : Int32)), .val (.int (2 : Int32)), .val (.long x2), .second] [(.int (lcmpW x2 q4))])) _
          refine XS.ifYes X0.here hx rfl (pc0 := 50) (pc' := 62) rfl (hb hby d9_50) rfl ((if0 _ _).trans (flt (fun q => hc1058 ((lw_gt _ _).mp q))).2.2.2) (by decide) (by decide) ?_
          refine XS.iload X0.here hx rfl (hb hby d9_62) rfl ?_
          exact kt)
        have ev : r = (2 : Int32) := er.symm.trans (((if_pos hc1053).trans (if_neg hc1056)).trans (if_neg hc1058))
        exact own_retI X0 hx Bd.notSynchronized Bd.returns (hb hby d9_64) pre1063 (show QBs r h0 n0 _ _ _ from ⟨by rw [ev], N0, e0⟩) (by decide) (by decide)
  case neg =>
    have pre1059 : ∀ t, Steps p.tables e below (s₁.setTop (mkF m 50 #[.val (.ref a1), .val (.int (1 : Int32)), .val (.int (3 : Int32)), .val (.long q4), .second, .val (.int (1 : Int32)), .val (.int (2 : Int32)), .val (.int (1 : Int32)), .val (.long x1), .second] [(.int (lcmpW x1 q4))])) t → Steps p.tables e below (s₁.setTop (entryFrame m #[(.ref a1), (.int (1 : Int32)), (.int (3 : Int32)), (.long q4)] 10)) t := fun t kt => pre1052 t (by
      show Steps p.tables e below (s₁.setTop (mkF m 34 #[.val (.ref a1), .val (.int (1 : Int32)), .val (.int (3 : Int32)), .val (.long q4), .second, .val (.int (1 : Int32)), .val (.int (2 : Int32)), .val (.int (1 : Int32)), .val (.long x1), .second] [(.int (lcmpW x1 q4))])) _
      refine XS.ifYes X0.here hx rfl (pc0 := 34) (pc' := 46) rfl (hb hby d9_34) rfl ((if0 _ _).trans (flt (fun q => hc1053 ((lw_lt _ _).mp q))).2.1) (by decide) (by decide) ?_
      refine XS.lload X0.here hx rfl (hb hby d9_46) rfl ?_
      refine XS.lloadN X0.here hx rfl (hb hby d9_48) rfl ?_
      refine XS.lcmp X0.here hx rfl (hb hby d9_49) rfl ?_
      exact kt)
    by_cases hc1060 : q4 < x1
    case pos =>
      have pre1064 : ∀ t, Steps p.tables e below (s₁.setTop (mkF m 73 #[.val (.ref a1), .val (.int (1 : Int32)), .val (.int (3 : Int32)), .val (.long q4), .second, .val (.int (1 : Int32)), .val (.int (0 : Int32)), .val (.int (1 : Int32)), .val (.long x1), .second] [(.int (-2 : Int32))])) t → Steps p.tables e below (s₁.setTop (entryFrame m #[(.ref a1), (.int (1 : Int32)), (.int (3 : Int32)), (.long q4)] 10)) t := fun t kt => pre1059 t (by
        show Steps p.tables e below (s₁.setTop (mkF m 50 #[.val (.ref a1), .val (.int (1 : Int32)), .val (.int (3 : Int32)), .val (.long q4), .second, .val (.int (1 : Int32)), .val (.int (2 : Int32)), .val (.int (1 : Int32)), .val (.long x1), .second] [(.int (lcmpW x1 q4))])) _
        refine XS.ifNo X0.here hx rfl (hb hby d9_50) rfl ((if0 _ _).trans (tlt ((lw_gt _ _).mpr hc1060)).2.2.2) ?_
        refine XS.iload X0.here hx rfl (hb hby d9_53) rfl ?_
        refine XS.iconst X0.here hx rfl (hb hby d9_55) ?_
        refine XS.isub X0.here hx rfl (hb hby d9_56) rfl ?_
        refine XS.istore X0.here hx rfl (hb hby d9_57) rfl (l' := #[.val (.ref a1), .val (.int (1 : Int32)), .val (.int (3 : Int32)), .val (.long q4), .second, .val (.int (1 : Int32)), .val (.int (0 : Int32)), .val (.int (1 : Int32)), .val (.long x1), .second]) rfl ?_
        refine XS.goto X0.here hx rfl (pc0 := 59) (pc' := 65) rfl (hb hby d9_59) (by decide) (by decide) ?_
        refine XS.goto X0.here hx rfl (pc0 := 65) (pc' := 8) rfl (hb hby d9_65) (by decide) (by decide) ?_
        refine XS.iload X0.here hx rfl (hb hby d9_8) rfl ?_
        refine XS.iload X0.here hx rfl (hb hby d9_10) rfl ?_
        refine XS.icmpYes X0.here hx rfl (pc0 := 12) (pc' := 68) rfl (hb hby d9_12) rfl (tlt (by decide : (0 : Int32) < (1 : Int32))).2.2.1 (by decide) (by decide) ?_
        refine XS.iload X0.here hx rfl (hb hby d9_68) rfl ?_
        refine XS.iconst X0.here hx rfl (hb hby d9_70) ?_
        show Steps p.tables e below (s₁.setTop (mkF m 71 #[.val (.ref a1), .val (.int (1 : Int32)), .val (.int (3 : Int32)), .val (.long q4), .second, .val (.int (1 : Int32)), .val (.int (0 : Int32)), .val (.int (1 : Int32)), .val (.long x1), .second] [(.int (1 : Int32)), (.int (1 : Int32))])) _
        refine XS.iadd X0.here hx rfl (hb hby d9_71) rfl ?_
        refine XS.ineg X0.here hx rfl (hb hby d9_72) rfl ?_
        exact kt)
      have ev : r = (-2 : Int32) := er.symm.trans ((if_neg hc1053).trans (if_pos hc1060))
      exact own_retI X0 hx Bd.notSynchronized Bd.returns (hb hby d9_73) pre1064 (show QBs r h0 n0 _ _ _ from ⟨by rw [ev], N0, e0⟩) (by decide) (by decide)
    case neg =>
      have pre1065 : ∀ t, Steps p.tables e below (s₁.setTop (mkF m 64 #[.val (.ref a1), .val (.int (1 : Int32)), .val (.int (3 : Int32)), .val (.long q4), .second, .val (.int (1 : Int32)), .val (.int (2 : Int32)), .val (.int (1 : Int32)), .val (.long x1), .second] [(.int (1 : Int32))])) t → Steps p.tables e below (s₁.setTop (entryFrame m #[(.ref a1), (.int (1 : Int32)), (.int (3 : Int32)), (.long q4)] 10)) t := fun t kt => pre1059 t (by
        show Steps p.tables e below (s₁.setTop (mkF m 50 #[.val (.ref a1), .val (.int (1 : Int32)), .val (.int (3 : Int32)), .val (.long q4), .second, .val (.int (1 : Int32)), .val (.int (2 : Int32)), .val (.int (1 : Int32)), .val (.long x1), .second] [(.int (lcmpW x1 q4))])) _
        refine XS.ifYes X0.here hx rfl (pc0 := 50) (pc' := 62) rfl (hb hby d9_50) rfl ((if0 _ _).trans (flt (fun q => hc1060 ((lw_gt _ _).mp q))).2.2.2) (by decide) (by decide) ?_
        refine XS.iload X0.here hx rfl (hb hby d9_62) rfl ?_
        exact kt)
      have ev : r = (1 : Int32) := er.symm.trans ((if_neg hc1053).trans (if_neg hc1060))
      exact own_retI X0 hx Bd.notSynchronized Bd.returns (hb hby d9_64) pre1065 (show QBs r h0 n0 _ _ _ from ⟨by rw [ev], N0, e0⟩) (by decide) (by decide)
set_option maxRecDepth 65536 in
set_option maxHeartbeats 40000000 in
theorem rmRcBs134 (l : Launch) (Z : State) (a0 : Array Value) (hw : ∀ d ∈ tables_1, d.before a0 Z = true) (ws : List Jvm.Cond)  (h0 : Heap) (n0 : Nat) (Z0 : n0 ≤ h0.size) :
    MetFree l own_y_188 (head1 (Jvm.Cond.code own_y_188 jdk_65_method_30_code 3 none :: ws) ({ frames := 0, cells := 0, slots := 0, locals := 0 } : Room)) (fun a U => a = #[(.int (4 : Int32)), (.int (1 : Int32)), (.int (3 : Int32))] ∧ Z.Warmed39 U.vm ∧ U.heap = h0) (fun _ _ _ _ _ => True) (fun _ U o U' => ∃ v L, o = .returned v ∧ QRc h0 n0 v U'.heap L ∧ FrameEnd U o U' L ({ frames := 0, cells := 0, slots := 0, locals := 0 } : Room).cells ({ frames := 0, cells := 0, slots := 0, locals := 0 } : Room).slots) := by
  refine MetFree.of_bodySF (plainFor_of_name pn_187) hisR ?_
  intro p e s m args below meth c s₁ Bd hml0 hP hK
  obtain ⟨rfl, hZ, hh⟩ := hP
  have hx := Bd.exec
  have hby := Bd.bytes
  have hml : c.maxLocals = 3 := hml0
  have hown : s.vm.findClass "java/util/Arrays" = some m.cls := findClass_of_methodNamed Bd.named
  have hnm := (name_of_methodNamed Bd.named Bd.method).1
  have X0 : Stand p l e ({ frames := 0, cells := 0, slots := 0, locals := 0 } : Room) s m #[(.int (4 : Int32)), (.int (1 : Int32)), (.int (3 : Int32))] below meth c s₁ [] 0 0 := Stand.of_body Bd
  have e0 : s₁.heap = h0 := by rw [← hh, Bd.state]; rfl
  have N0 := Fr.nil n0
  have pre0 : ∀ t, Steps p.tables e below (s₁.setTop (mkF m 0 #[.val (.int (4 : Int32)), .val (.int (1 : Int32)), .val (.int (3 : Int32))] [])) t → Steps p.tables e below (s₁.setTop (entryFrame m #[(.int (4 : Int32)), (.int (1 : Int32)), (.int (3 : Int32))] 3)) t := fun t k => castTop (ef_189 m (4 : Int32) (1 : Int32) (3 : Int32)) k
  have pre1066 : ∀ t, Steps p.tables e below (s₁.setTop (mkF m 73 #[.val (.int (4 : Int32)), .val (.int (1 : Int32)), .val (.int (3 : Int32))] [])) t → Steps p.tables e below (s₁.setTop (entryFrame m #[(.int (4 : Int32)), (.int (1 : Int32)), (.int (3 : Int32))] 3)) t := fun t kt => pre0 t (by
    show Steps p.tables e below (s₁.setTop (mkF m 0 #[.val (.int (4 : Int32)), .val (.int (1 : Int32)), .val (.int (3 : Int32))] [])) _
    refine XS.iloadN X0.here hx rfl (hb hby d8_0) rfl ?_
    refine XS.iloadN X0.here hx rfl (hb hby d8_1) rfl ?_
    refine XS.icmpYes X0.here hx rfl (pc0 := 2) (pc' := 46) rfl (hb hby d8_2) rfl (flt (by decide : ¬ ((3 : Int32) < (1 : Int32)))).2.2.2 (by decide) (by decide) ?_
    refine XS.iloadN X0.here hx rfl (hb hby d8_46) rfl ?_
    refine XS.ifYes X0.here hx rfl (pc0 := 47) (pc' := 59) rfl (hb hby d8_47) rfl ((if0 _ _).trans (flt (by decide : ¬ ((1 : Int32) < (0 : Int32)))).2.1) (by decide) (by decide) ?_
    refine XS.iloadN X0.here hx rfl (hb hby d8_59) rfl ?_
    refine XS.iloadN X0.here hx rfl (hb hby d8_60) rfl ?_
    refine XS.icmpYes X0.here hx rfl (pc0 := 61) (pc' := 73) rfl (hb hby d8_61) rfl (flt (by decide : ¬ ((4 : Int32) < (3 : Int32)))).2.2.2 (by decide) (by decide) ?_
    exact kt)
  exact own_retV X0 hx Bd.notSynchronized Bd.returns (hb hby d8_73) pre1066 (show QRc h0 n0 _ _ _ from ⟨rfl, N0, e0⟩) (by decide) (by decide)
set_option maxRecDepth 65536 in
set_option maxHeartbeats 40000000 in
theorem rmSBs134 (l : Launch) (Z : State) (a0 : Array Value) (hw : ∀ d ∈ tables_1, d.before a0 Z = true) (ws : List Jvm.Cond) (a1 : Addr) (q4 : Int64) (k0 : ClassId) (x0 : Int64) (x1 : Int64) (x2 : Int64) (x3 : Int64) (r : Int32) (h0 : Heap) (n0 : Nat) (Z0 : n0 ≤ h0.size) (V0 : Arv Z h0 a1 k0 .long (4 : Int32) [(.long x0), (.long x1), (.long x2), (.long x3)] (.long (0 : Int64))) (er : (if x1 < q4 then (if x2 < q4 then (-4 : Int32) else (if q4 < x2 then (-3 : Int32) else (2 : Int32))) else (if q4 < x1 then (-2 : Int32) else (1 : Int32))) = r) :
    MetFree l own_y_199 (head1 (Jvm.Cond.code own_y_199 jdk_65_method_55_code 5 (some .int) :: ws) ({ frames := 1, cells := 0, slots := 0, locals := 21 } : Room)) (fun a U => a = #[(.ref a1), (.int (1 : Int32)), (.int (3 : Int32)), (.long q4)] ∧ Z.Warmed39 U.vm ∧ U.heap = h0) (fun _ _ _ _ _ => True) (fun _ U o U' => ∃ v L, o = .returned v ∧ QBs r h0 n0 v U'.heap L ∧ FrameEnd U o U' L ({ frames := 1, cells := 0, slots := 0, locals := 21 } : Room).cells ({ frames := 1, cells := 0, slots := 0, locals := 21 } : Room).slots) := by
  refine MetFree.of_bodySF (plainFor_of_name pn_187) hisR ?_
  intro p e s m args below meth c s₁ Bd hml0 hP hK
  obtain ⟨rfl, hZ, hh⟩ := hP
  have hx := Bd.exec
  have hby := Bd.bytes
  have hml : c.maxLocals = 5 := hml0
  have hown : s.vm.findClass "java/util/Arrays" = some m.cls := findClass_of_methodNamed Bd.named
  have hnm := (name_of_methodNamed Bd.named Bd.method).1
  have X0 : Stand p l e ({ frames := 1, cells := 0, slots := 0, locals := 21 } : Room) s m #[(.ref a1), (.int (1 : Int32)), (.int (3 : Int32)), (.long q4)] below meth c s₁ [] 0 0 := Stand.of_body Bd
  have e0 : s₁.heap = h0 := by rw [← hh, Bd.state]; rfl
  have N0 := Fr.nil n0
  have pre0 : ∀ t, Steps p.tables e below (s₁.setTop (mkF m 0 #[.val (.ref a1), .val (.int (1 : Int32)), .val (.int (3 : Int32)), .val (.long q4), .second] [])) t → Steps p.tables e below (s₁.setTop (entryFrame m #[(.ref a1), (.int (1 : Int32)), (.int (3 : Int32)), (.long q4)] 5)) t := fun t k => castTop (ef_200 m a1 (1 : Int32) (3 : Int32) q4) k
  obtain ⟨cl1067, A1067, q1067, S1067, M1067, H1067, J1067⟩ := id V0
  obtain ⟨_, _, ⟨T1068, L1068, k1068, n1068⟩, -, X1068, ⟨Lc1068, hQ1068, l1068, y1068, z1068⟩, st1068⟩ := Jvm.LawKit.callS X0 hx (y := own_y_188) hown (mvT hZ (own_w hw 49 rfl)) (mvT hZ (own_w hw 50 rfl)) (mvT hZ (own_w hw 47 rfl)) (mvT hZ (own_w hw 51 rfl)) (by decide) (backOf (W := 0) (rmRcBs134 l Z a0 hw [] h0 n0 Z0) hZ (own_w hw 51 rfl) (own_w hw 47 rfl) (by decide) (by decide)) (g := (mkF m 4 #[.val (.ref a1), .val (.int (1 : Int32)), .val (.int (3 : Int32)), .val (.long q4), .second] [(.int (3 : Int32)), (.int (1 : Int32)), (.int (4 : Int32))])) rfl (by rw [hml]; rfl) (argsL := [(.int (4 : Int32)), (.int (1 : Int32)), (.int (3 : Int32))]) (rest := []) (lenOf pd_206 rfl) rfl (by show 2 * 0 + _ ≤ _; exact Nat.le_of_eq rfl) (hb hby d7_4) (fun _ _ => ⟨rfl, e0, (by decide : 0 + 0 ≤ _), (by decide : 0 + 0 ≤ _)⟩)
  dsimp only [Pt.U, Pt.locs, Pt.cells, Pt.slots] at X1068 l1068 y1068 z1068 st1068 hQ1068
  subst l1068 y1068 z1068
  obtain ⟨rfl, Nq1068, e1068⟩ := hQ1068
  have N1068 := Fr.app N0 Nq1068
  obtain ⟨_, _, ⟨T1069, L1069, k1069, n1069⟩, -, X1069, ⟨Lc1069, hQ1069, l1069, y1069, z1069⟩, st1069⟩ := Jvm.LawKit.callS X1068 hx (y := own_y_185) hown (mvT hZ (own_w hw 52 rfl)) (mvT hZ (own_w hw 53 rfl)) (mvT hZ (own_w hw 47 rfl)) (mvT hZ (own_w hw 54 rfl)) (by decide) (backOf (W := 0) (rmBs134 l Z a0 hw [] a1 q4 k0 x0 x1 x2 x3 r h0 n0 Z0 V0 er) hZ (own_w hw 54 rfl) (own_w hw 47 rfl) (by decide) (by decide)) (g := (mkF m 11 #[.val (.ref a1), .val (.int (1 : Int32)), .val (.int (3 : Int32)), .val (.long q4), .second] [(.long q4), (.int (3 : Int32)), (.int (1 : Int32)), (.ref a1)])) rfl (by rw [hml]; rfl) (argsL := [(.ref a1), (.int (1 : Int32)), (.int (3 : Int32)), (.long q4)]) (rest := []) (lenOf pd_212 rfl) rfl (by show 2 * 0 + _ ≤ _; exact Nat.le_of_eq rfl) (hb hby d7_11) (fun _ _ => ⟨rfl, e1068, (by decide : 0 + 0 ≤ _), (by decide : 0 + 0 ≤ _)⟩)
  dsimp only [Pt.U, Pt.locs, Pt.cells, Pt.slots] at X1069 l1069 y1069 z1069 st1069 hQ1069
  subst l1069 y1069 z1069
  obtain ⟨rfl, Nq1069, e1069⟩ := hQ1069
  have N1069 := Fr.app N1068 Nq1069
  have pre1070 : ∀ t, Steps p.tables e below (T1069.setTop (mkF m 14 #[.val (.ref a1), .val (.int (1 : Int32)), .val (.int (3 : Int32)), .val (.long q4), .second] [(.int r)])) t → Steps p.tables e below (s₁.setTop (entryFrame m #[(.ref a1), (.int (1 : Int32)), (.int (3 : Int32)), (.long q4)] 5)) t := fun t kt => pre0 t (by
    show Steps p.tables e below (s₁.setTop (mkF m 0 #[.val (.ref a1), .val (.int (1 : Int32)), .val (.int (3 : Int32)), .val (.long q4), .second] [])) _
    refine XS.aloadN X0.here hx rfl (hb hby d7_0) rfl rfl ?_
    refine X0.arraylength hx (by rw [e0]; exact A1067.1) (State.isArrayOf_alike hZ.alike A1067.2.1) (g := (mkF m 1 #[.val (.ref a1), .val (.int (1 : Int32)), .val (.int (3 : Int32)), .val (.long q4), .second] [(.ref a1)])) rfl rfl (hb hby d7_1) _ ?_
    rw [len_of S1067 M1067]
    refine XS.iloadN X0.here hx rfl (hb hby d7_2) rfl ?_
    refine XS.iloadN X0.here hx rfl (hb hby d7_3) rfl ?_
    refine st1068 _ ?_
    refine XS.aloadN X1068.here hx rfl (hb hby d7_7) rfl rfl ?_
    refine XS.iloadN X1068.here hx rfl (hb hby d7_8) rfl ?_
    refine XS.iloadN X1068.here hx rfl (hb hby d7_9) rfl ?_
    refine XS.lloadN X1068.here hx rfl (hb hby d7_10) rfl ?_
    refine st1069 _ ?_
    exact kt)
  exact own_retI X1069 hx Bd.notSynchronized Bd.returns (hb hby d7_14) pre1070 (show QBs r h0 n0 _ _ _ from ⟨rfl, N1069, e1069⟩) (by decide) (by decide)
set_option maxRecDepth 65536 in
set_option maxHeartbeats 40000000 in
theorem rmGn134 (l : Launch) (Z : State) (a0 : Array Value) (hw : ∀ d ∈ tables_1, d.before a0 Z = true) (ws : List Jvm.Cond) (a1 : Addr) (q2 : Int64) (x0 : Int64) (x1 : Int64) (x2 : Int64) (x3 : Int64) (y0 : Int32) (y1 : Int32) (y2 : Int32) (y3 : Int32) (b : Int32) (h0 : Heap) (n0 : Nat) (Z0 : n0 ≤ h0.size) (P0 : PT Z h0 n0 a1 (1 : Int32) (3 : Int32) (4 : Int32) [(.long x0), (.long x1), (.long x2), (.long x3)] [(.int y0), (.int y1), (.int y2), (.int y3)] b) (hs1 : x1 < x2) :
    MetFree l own_y_46 (head1 (Jvm.Cond.code own_y_46 prog_25_method_3_code 6 (some .int) :: ws) ({ frames := 2, cells := 0, slots := 0, locals := 60 } : Room)) (fun a U => a = #[(.ref a1), (.long q2)] ∧ Z.Warmed39 U.vm ∧ U.heap = h0) (fun _ _ _ _ _ => True) (fun _ U o U' => ∃ v L, o = .returned v ∧ QRi (y2 - (if x2 < q2 then y2 else (if x1 < q2 then y1 else b))) h0 n0 v U'.heap L ∧ FrameEnd U o U' L ({ frames := 2, cells := 0, slots := 0, locals := 60 } : Room).cells ({ frames := 2, cells := 0, slots := 0, locals := 60 } : Room).slots) := by
  refine MetFree.of_bodySF (plainFor_of_name pn_2) hisR ?_
  intro p e s m args below meth c s₁ Bd hml0 hP hK
  obtain ⟨rfl, hZ, hh⟩ := hP
  have hx := Bd.exec
  have hby := Bd.bytes
  have hml : c.maxLocals = 6 := hml0
  have hown : s.vm.findClass "com/example/viral_counter/viralcounter/PostTrend" = some m.cls := findClass_of_methodNamed Bd.named
  have hnm := (name_of_methodNamed Bd.named Bd.method).1
  have X0 : Stand p l e ({ frames := 2, cells := 0, slots := 0, locals := 60 } : Room) s m #[(.ref a1), (.long q2)] below meth c s₁ [] 0 0 := Stand.of_body Bd
  have e0 : s₁.heap = h0 := by rw [← hh, Bd.state]; rfl
  have N0 := Fr.nil n0
  have pre0 : ∀ t, Steps p.tables e below (s₁.setTop (mkF m 0 #[.val (.ref a1), .val (.long q2), .second, .unset, .unset, .unset] [])) t → Steps p.tables e below (s₁.setTop (entryFrame m #[(.ref a1), (.long q2)] 6)) t := fun t k => castTop (ef_47 m a1 q2) k
  obtain ⟨am1071, ac1071, km1071, kc1071, E1071, Fm1071, Fc1071, Ff1071, Fe1071, Fb1071, Vm1071, Vc1071, Ga1071, Gm1071, Gc1071, n11071, n21071, n31071⟩ := id P0
  obtain ⟨T1072, X1072, e1072, st1072⟩ := getF X0 hx hZ hown (host := "") (Or.inl (own_w hw 23 rfl)) Via.refl e0 Ff1071 (g := (mkF m 1 #[.val (.ref a1), .val (.long q2), .second, .unset, .unset, .unset] [(.ref a1)])) rfl rfl (hb hby d6_1)
  obtain ⟨T1073, X1073, e1073, st1073⟩ := getF X1072 hx hZ hown (host := "") (Or.inl (own_w hw 25 rfl)) Via.refl e1072 Fe1071 (g := (mkF m 5 #[.val (.ref a1), .val (.long q2), .second, .unset, .unset, .unset] [(.ref a1), (.int (1 : Int32))])) rfl rfl (hb hby d6_5)
  obtain ⟨T1074, X1074, e1074, st1074⟩ := getF X1073 hx hZ hown (host := "") (Or.inl (own_w hw 13 rfl)) Via.refl e1073 Fm1071 (g := (mkF m 14 #[.val (.ref a1), .val (.long q2), .second, .unset, .unset, .unset] [(.ref a1)])) rfl rfl (hb hby d6_14)
  obtain ⟨T1075, X1075, e1075, st1075⟩ := getF X1074 hx hZ hown (host := "") (Or.inl (own_w hw 23 rfl)) Via.refl e1074 Ff1071 (g := (mkF m 18 #[.val (.ref a1), .val (.long q2), .second, .unset, .unset, .unset] [(.ref a1), (.ref am1071)])) rfl rfl (hb hby d6_18)
  obtain ⟨T1076, X1076, e1076, st1076⟩ := getF X1075 hx hZ hown (host := "") (Or.inl (own_w hw 25 rfl)) Via.refl e1075 Fe1071 (g := (mkF m 22 #[.val (.ref a1), .val (.long q2), .second, .unset, .unset, .unset] [(.ref a1), (.int (1 : Int32)), (.ref am1071)])) rfl rfl (hb hby d6_22)
  have pre1077 : ∀ t, Steps p.tables e below (T1076.setTop (mkF m 26 #[.val (.ref a1), .val (.long q2), .second, .unset, .unset, .unset] [(.long q2), (.int (3 : Int32)), (.int (1 : Int32)), (.ref am1071)])) t → Steps p.tables e below (s₁.setTop (entryFrame m #[(.ref a1), (.long q2)] 6)) t := fun t kt => pre0 t (by
    show Steps p.tables e below (s₁.setTop (mkF m 0 #[.val (.ref a1), .val (.long q2), .second, .unset, .unset, .unset] [])) _
    refine XS.aloadN X0.here hx rfl (hb hby d6_0) rfl rfl ?_
    refine st1072 _ ?_
    refine XS.aloadN X1072.here hx rfl (hb hby d6_4) rfl rfl ?_
    refine st1073 _ ?_
    refine XS.icmpYes X1073.here hx rfl (pc0 := 8) (pc' := 13) rfl (hb hby d6_8) rfl (feq (by decide : ¬ ((1 : Int32) = (3 : Int32)))).2 (by decide) (by decide) ?_
    refine XS.aloadN X1073.here hx rfl (hb hby d6_13) rfl rfl ?_
    refine st1074 _ ?_
    refine XS.aloadN X1074.here hx rfl (hb hby d6_17) rfl rfl ?_
    refine st1075 _ ?_
    refine XS.aloadN X1075.here hx rfl (hb hby d6_21) rfl rfl ?_
    refine st1076 _ ?_
    refine XS.lloadN X1076.here hx rfl (hb hby d6_25) rfl ?_
    exact kt)
  by_cases hc1078 : x1 < q2
  case pos =>
    by_cases hc1079 : x2 < q2
    case pos =>
      obtain ⟨_, _, ⟨T1080, L1080, k1080, n1080⟩, -, X1080, ⟨Lc1080, hQ1080, l1080, y1080, z1080⟩, st1080⟩ := Jvm.LawKit.callS X1076 hx (y := own_y_199) hown (mvT hZ (own_w hw 45 rfl)) (mvT hZ (own_w hw 46 rfl)) (mvT hZ (own_w hw 47 rfl)) (mvT hZ (own_w hw 48 rfl)) (by decide) (backOf (W := 0) (rmSBs134 l Z a0 hw [] am1071 q2 km1071 x0 x1 x2 x3 (-4 : Int32) h0 n0 Z0 Vm1071 ((if_pos hc1078).trans (if_pos hc1079))) hZ (own_w hw 48 rfl) (own_w hw 47 rfl) (by decide) (by decide)) (g := (mkF m 26 #[.val (.ref a1), .val (.long q2), .second, .unset, .unset, .unset] [(.long q2), (.int (3 : Int32)), (.int (1 : Int32)), (.ref am1071)])) rfl (by rw [hml]; rfl) (argsL := [(.ref am1071), (.int (1 : Int32)), (.int (3 : Int32)), (.long q2)]) (rest := []) (lenOf pd_212 rfl) rfl (by show 2 * 0 + _ ≤ _; exact Nat.le_of_eq rfl) (hb hby d6_26) (fun _ _ => ⟨rfl, e1076, (by decide : 0 + 0 ≤ _), (by decide : 0 + 0 ≤ _)⟩)
      dsimp only [Pt.U, Pt.locs, Pt.cells, Pt.slots] at X1080 l1080 y1080 z1080 st1080 hQ1080
      subst l1080 y1080 z1080
      obtain ⟨rfl, Nq1080, e1080⟩ := hQ1080
      have N1080 := Fr.app N0 Nq1080
      obtain ⟨T1081, X1081, e1081, st1081⟩ := getF X1080 hx hZ hown (host := "") (Or.inl (own_w hw 23 rfl)) Via.refl e1080 Ff1071 (g := (mkF m 49 #[.val (.ref a1), .val (.long q2), .second, .val (.int (-4 : Int32)), .val (.int (2 : Int32)), .unset] [(.ref a1), (.int (2 : Int32))])) rfl rfl (hb hby d6_49)
      obtain ⟨T1082, X1082, e1082, st1082⟩ := getF X1081 hx hZ hown (host := "") (Or.inl (own_w hw 16 rfl)) Via.refl e1081 Fc1071 (g := (mkF m 63 #[.val (.ref a1), .val (.long q2), .second, .val (.int (-4 : Int32)), .val (.int (2 : Int32)), .unset] [(.ref a1)])) rfl rfl (hb hby d6_63)
      obtain ⟨cl1083, A1083, q1083, S1083, M1083, H1083, J1083⟩ := id Vc1071
      have hin1083 : ¬ ((2 : Int32) < 0 ∨ cl1083.slots.size ≤ ((2 : Int32)).toNatClampNeg) := inb_of S1083 ⟨by decide, by decide⟩
      have hat1083 : cl1083.slots[((2 : Int32)).toNatClampNeg]? = some (.int y2) := H1083.at hin1083 rfl
      obtain ⟨T1084, X1084, e1084, st1084⟩ := getF X1082 hx hZ hown (host := "") (Or.inl (own_w hw 16 rfl)) Via.refl e1082 Fc1071 (g := (mkF m 72 #[.val (.ref a1), .val (.long q2), .second, .val (.int (-4 : Int32)), .val (.int (2 : Int32)), .val (.int y2)] [(.ref a1)])) rfl rfl (hb hby d6_72)
      obtain ⟨T1085, X1085, e1085, st1085⟩ := getF X1084 hx hZ hown (host := "") (Or.inl (own_w hw 25 rfl)) Via.refl e1084 Fe1071 (g := (mkF m 76 #[.val (.ref a1), .val (.long q2), .second, .val (.int (-4 : Int32)), .val (.int (2 : Int32)), .val (.int y2)] [(.ref a1), (.ref ac1071)])) rfl rfl (hb hby d6_76)
      obtain ⟨cl1086, A1086, q1086, S1086, M1086, H1086, J1086⟩ := id Vc1071
      have hin1086 : ¬ ((2 : Int32) < 0 ∨ cl1086.slots.size ≤ ((2 : Int32)).toNatClampNeg) := inb_of S1086 ⟨by decide, by decide⟩
      have hat1086 : cl1086.slots[((2 : Int32)).toNatClampNeg]? = some (.int y2) := H1086.at hin1086 rfl
      have pre1087 : ∀ t, Steps p.tables e below (T1085.setTop (mkF m 85 #[.val (.ref a1), .val (.long q2), .second, .val (.int (-4 : Int32)), .val (.int (2 : Int32)), .val (.int y2)] [(.int (y2 - y2))])) t → Steps p.tables e below (s₁.setTop (entryFrame m #[(.ref a1), (.long q2)] 6)) t := fun t kt => pre1077 t (by
        show Steps p.tables e below (T1076.setTop (mkF m 26 #[.val (.ref a1), .val (.long q2), .second, .unset, .unset, .unset] [(.long q2), (.int (3 : Int32)), (.int (1 : Int32)), (.ref am1071)])) _
        refine st1080 _ ?_
        refine XS.istoreN X1080.here hx rfl (hb hby d6_29) rfl (l' := #[.val (.ref a1), .val (.long q2), .second, .val (.int (-4 : Int32)), .unset, .unset]) rfl ?_
        refine XS.iloadN X1080.here hx rfl (hb hby d6_30) rfl ?_
        refine XS.ifYes X1080.here hx rfl (pc0 := 31) (pc' := 38) rfl (hb hby d6_31) rfl ((if0 _ _).trans (tlt (by decide : (-4 : Int32) < (0 : Int32))).1) (by decide) (by decide) ?_
        refine XS.iloadN X1080.here hx rfl (hb hby d6_38) rfl ?_
        refine XS.ineg X1080.here hx rfl (hb hby d6_39) rfl ?_
        refine XS.iconst X1080.here hx rfl (hb hby d6_40) ?_
        refine XS.isub X1080.here hx rfl (hb hby d6_41) rfl ?_
        refine XS.iconst X1080.here hx rfl (hb hby d6_42) ?_
        refine XS.isub X1080.here hx rfl (hb hby d6_43) rfl ?_
        refine XS.istore X1080.here hx rfl (hb hby d6_44) rfl (l' := #[.val (.ref a1), .val (.long q2), .second, .val (.int (-4 : Int32)), .val (.int (2 : Int32)), .unset]) rfl ?_
        refine XS.iload X1080.here hx rfl (hb hby d6_46) rfl ?_
        show Steps p.tables e below (T1080.setTop (mkF m 48 #[.val (.ref a1), .val (.long q2), .second, .val (.int (-4 : Int32)), .val (.int (2 : Int32)), .unset] [(.int (2 : Int32))])) _
        refine XS.aloadN X1080.here hx rfl (hb hby d6_48) rfl rfl ?_
        refine st1081 _ ?_
        refine XS.icmpYes X1081.here hx rfl (pc0 := 52) (pc' := 62) rfl (hb hby d6_52) rfl (flt (by decide : ¬ ((2 : Int32) < (1 : Int32)))).2.1 (by decide) (by decide) ?_
        refine XS.aloadN X1081.here hx rfl (hb hby d6_62) rfl rfl ?_
        refine st1082 _ ?_
        refine XS.iload X1082.here hx rfl (hb hby d6_66) rfl ?_
        refine X1082.iaload hx (j := (2 : Int32)) (v := (.int y2)) (by rw [e1082]; exact A1083.1) (State.isArrayOf_alike hZ.alike A1083.2.1) A1083.2.2 hin1083 hat1083 (g := (mkF m 68 #[.val (.ref a1), .val (.long q2), .second, .val (.int (-4 : Int32)), .val (.int (2 : Int32)), .unset] [(.int (2 : Int32)), (.ref ac1071)])) rfl rfl (hb hby d6_68) _ ?_
        refine XS.istore X1082.here hx rfl (hb hby d6_69) rfl (l' := #[.val (.ref a1), .val (.long q2), .second, .val (.int (-4 : Int32)), .val (.int (2 : Int32)), .val (.int y2)]) rfl ?_
        refine XS.aloadN X1082.here hx rfl (hb hby d6_71) rfl rfl ?_
        refine st1084 _ ?_
        refine XS.aloadN X1084.here hx rfl (hb hby d6_75) rfl rfl ?_
        refine st1085 _ ?_
        show Steps p.tables e below (T1085.setTop (mkF m 79 #[.val (.ref a1), .val (.long q2), .second, .val (.int (-4 : Int32)), .val (.int (2 : Int32)), .val (.int y2)] [(.int (3 : Int32)), (.ref ac1071)])) _
        refine XS.iconst X1085.here hx rfl (hb hby d6_79) ?_
        refine XS.isub X1085.here hx rfl (hb hby d6_80) rfl ?_
        refine X1085.iaload hx (j := (2 : Int32)) (v := (.int y2)) (by rw [e1085]; exact A1086.1) (State.isArrayOf_alike hZ.alike A1086.2.1) A1086.2.2 hin1086 hat1086 (g := (mkF m 81 #[.val (.ref a1), .val (.long q2), .second, .val (.int (-4 : Int32)), .val (.int (2 : Int32)), .val (.int y2)] [(.int (2 : Int32)), (.ref ac1071)])) rfl rfl (hb hby d6_81) _ ?_
        refine XS.iload X1085.here hx rfl (hb hby d6_82) rfl ?_
        refine XS.isub X1085.here hx rfl (hb hby d6_84) rfl ?_
        exact kt)
      have lt1088 : x2 < q2 := by
        rw [Int64.lt_iff_toInt_lt] at hs1 hc1078 hc1079 ⊢
        omega
      have ev : (y2 - (if x2 < q2 then y2 else (if x1 < q2 then y1 else b))) = (y2 - y2) := congrArg (fun z => y2 - z) (if_pos lt1088)
      exact own_retI X1085 hx Bd.notSynchronized Bd.returns (hb hby d6_85) pre1087 (show QRi (y2 - (if x2 < q2 then y2 else (if x1 < q2 then y1 else b))) h0 n0 _ _ _ from ⟨by rw [ev], N1080, e1085⟩) (by decide) (by decide)
    case neg =>
      by_cases hc1089 : q2 < x2
      case pos =>
        obtain ⟨_, _, ⟨T1090, L1090, k1090, n1090⟩, -, X1090, ⟨Lc1090, hQ1090, l1090, y1090, z1090⟩, st1090⟩ := Jvm.LawKit.callS X1076 hx (y := own_y_199) hown (mvT hZ (own_w hw 45 rfl)) (mvT hZ (own_w hw 46 rfl)) (mvT hZ (own_w hw 47 rfl)) (mvT hZ (own_w hw 48 rfl)) (by decide) (backOf (W := 0) (rmSBs134 l Z a0 hw [] am1071 q2 km1071 x0 x1 x2 x3 (-3 : Int32) h0 n0 Z0 Vm1071 (((if_pos hc1078).trans (if_neg hc1079)).trans (if_pos hc1089))) hZ (own_w hw 48 rfl) (own_w hw 47 rfl) (by decide) (by decide)) (g := (mkF m 26 #[.val (.ref a1), .val (.long q2), .second, .unset, .unset, .unset] [(.long q2), (.int (3 : Int32)), (.int (1 : Int32)), (.ref am1071)])) rfl (by rw [hml]; rfl) (argsL := [(.ref am1071), (.int (1 : Int32)), (.int (3 : Int32)), (.long q2)]) (rest := []) (lenOf pd_212 rfl) rfl (by show 2 * 0 + _ ≤ _; exact Nat.le_of_eq rfl) (hb hby d6_26) (fun _ _ => ⟨rfl, e1076, (by decide : 0 + 0 ≤ _), (by decide : 0 + 0 ≤ _)⟩)
        dsimp only [Pt.U, Pt.locs, Pt.cells, Pt.slots] at X1090 l1090 y1090 z1090 st1090 hQ1090
        subst l1090 y1090 z1090
        obtain ⟨rfl, Nq1090, e1090⟩ := hQ1090
        have N1090 := Fr.app N0 Nq1090
        obtain ⟨T1091, X1091, e1091, st1091⟩ := getF X1090 hx hZ hown (host := "") (Or.inl (own_w hw 23 rfl)) Via.refl e1090 Ff1071 (g := (mkF m 49 #[.val (.ref a1), .val (.long q2), .second, .val (.int (-3 : Int32)), .val (.int (1 : Int32)), .unset] [(.ref a1), (.int (1 : Int32))])) rfl rfl (hb hby d6_49)
        obtain ⟨T1092, X1092, e1092, st1092⟩ := getF X1091 hx hZ hown (host := "") (Or.inl (own_w hw 16 rfl)) Via.refl e1091 Fc1071 (g := (mkF m 63 #[.val (.ref a1), .val (.long q2), .second, .val (.int (-3 : Int32)), .val (.int (1 : Int32)), .unset] [(.ref a1)])) rfl rfl (hb hby d6_63)
        obtain ⟨cl1093, A1093, q1093, S1093, M1093, H1093, J1093⟩ := id Vc1071
        have hin1093 : ¬ ((1 : Int32) < 0 ∨ cl1093.slots.size ≤ ((1 : Int32)).toNatClampNeg) := inb_of S1093 ⟨by decide, by decide⟩
        have hat1093 : cl1093.slots[((1 : Int32)).toNatClampNeg]? = some (.int y1) := H1093.at hin1093 rfl
        obtain ⟨T1094, X1094, e1094, st1094⟩ := getF X1092 hx hZ hown (host := "") (Or.inl (own_w hw 16 rfl)) Via.refl e1092 Fc1071 (g := (mkF m 72 #[.val (.ref a1), .val (.long q2), .second, .val (.int (-3 : Int32)), .val (.int (1 : Int32)), .val (.int y1)] [(.ref a1)])) rfl rfl (hb hby d6_72)
        obtain ⟨T1095, X1095, e1095, st1095⟩ := getF X1094 hx hZ hown (host := "") (Or.inl (own_w hw 25 rfl)) Via.refl e1094 Fe1071 (g := (mkF m 76 #[.val (.ref a1), .val (.long q2), .second, .val (.int (-3 : Int32)), .val (.int (1 : Int32)), .val (.int y1)] [(.ref a1), (.ref ac1071)])) rfl rfl (hb hby d6_76)
        obtain ⟨cl1096, A1096, q1096, S1096, M1096, H1096, J1096⟩ := id Vc1071
        have hin1096 : ¬ ((2 : Int32) < 0 ∨ cl1096.slots.size ≤ ((2 : Int32)).toNatClampNeg) := inb_of S1096 ⟨by decide, by decide⟩
        have hat1096 : cl1096.slots[((2 : Int32)).toNatClampNeg]? = some (.int y2) := H1096.at hin1096 rfl
        have pre1097 : ∀ t, Steps p.tables e below (T1095.setTop (mkF m 85 #[.val (.ref a1), .val (.long q2), .second, .val (.int (-3 : Int32)), .val (.int (1 : Int32)), .val (.int y1)] [(.int (y2 - y1))])) t → Steps p.tables e below (s₁.setTop (entryFrame m #[(.ref a1), (.long q2)] 6)) t := fun t kt => pre1077 t (by
          show Steps p.tables e below (T1076.setTop (mkF m 26 #[.val (.ref a1), .val (.long q2), .second, .unset, .unset, .unset] [(.long q2), (.int (3 : Int32)), (.int (1 : Int32)), (.ref am1071)])) _
          refine st1090 _ ?_
          refine XS.istoreN X1090.here hx rfl (hb hby d6_29) rfl (l' := #[.val (.ref a1), .val (.long q2), .second, .val (.int (-3 : Int32)), .unset, .unset]) rfl ?_
          refine XS.iloadN X1090.here hx rfl (hb hby d6_30) rfl ?_
          refine XS.ifYes X1090.here hx rfl (pc0 := 31) (pc' := 38) rfl (hb hby d6_31) rfl ((if0 _ _).trans (tlt (by decide : (-3 : Int32) < (0 : Int32))).1) (by decide) (by decide) ?_
          refine XS.iloadN X1090.here hx rfl (hb hby d6_38) rfl ?_
          refine XS.ineg X1090.here hx rfl (hb hby d6_39) rfl ?_
          refine XS.iconst X1090.here hx rfl (hb hby d6_40) ?_
          refine XS.isub X1090.here hx rfl (hb hby d6_41) rfl ?_
          refine XS.iconst X1090.here hx rfl (hb hby d6_42) ?_
          refine XS.isub X1090.here hx rfl (hb hby d6_43) rfl ?_
          refine XS.istore X1090.here hx rfl (hb hby d6_44) rfl (l' := #[.val (.ref a1), .val (.long q2), .second, .val (.int (-3 : Int32)), .val (.int (1 : Int32)), .unset]) rfl ?_
          refine XS.iload X1090.here hx rfl (hb hby d6_46) rfl ?_
          show Steps p.tables e below (T1090.setTop (mkF m 48 #[.val (.ref a1), .val (.long q2), .second, .val (.int (-3 : Int32)), .val (.int (1 : Int32)), .unset] [(.int (1 : Int32))])) _
          refine XS.aloadN X1090.here hx rfl (hb hby d6_48) rfl rfl ?_
          refine st1091 _ ?_
          refine XS.icmpYes X1091.here hx rfl (pc0 := 52) (pc' := 62) rfl (hb hby d6_52) rfl (flt (by decide : ¬ ((1 : Int32) < (1 : Int32)))).2.1 (by decide) (by decide) ?_
          refine XS.aloadN X1091.here hx rfl (hb hby d6_62) rfl rfl ?_
          refine st1092 _ ?_
          refine XS.iload X1092.here hx rfl (hb hby d6_66) rfl ?_
          refine X1092.iaload hx (j := (1 : Int32)) (v := (.int y1)) (by rw [e1092]; exact A1093.1) (State.isArrayOf_alike hZ.alike A1093.2.1) A1093.2.2 hin1093 hat1093 (g := (mkF m 68 #[.val (.ref a1), .val (.long q2), .second, .val (.int (-3 : Int32)), .val (.int (1 : Int32)), .unset] [(.int (1 : Int32)), (.ref ac1071)])) rfl rfl (hb hby d6_68) _ ?_
          refine XS.istore X1092.here hx rfl (hb hby d6_69) rfl (l' := #[.val (.ref a1), .val (.long q2), .second, .val (.int (-3 : Int32)), .val (.int (1 : Int32)), .val (.int y1)]) rfl ?_
          refine XS.aloadN X1092.here hx rfl (hb hby d6_71) rfl rfl ?_
          refine st1094 _ ?_
          refine XS.aloadN X1094.here hx rfl (hb hby d6_75) rfl rfl ?_
          refine st1095 _ ?_
          show Steps p.tables e below (T1095.setTop (mkF m 79 #[.val (.ref a1), .val (.long q2), .second, .val (.int (-3 : Int32)), .val (.int (1 : Int32)), .val (.int y1)] [(.int (3 : Int32)), (.ref ac1071)])) _
          refine XS.iconst X1095.here hx rfl (hb hby d6_79) ?_
          refine XS.isub X1095.here hx rfl (hb hby d6_80) rfl ?_
          refine X1095.iaload hx (j := (2 : Int32)) (v := (.int y2)) (by rw [e1095]; exact A1096.1) (State.isArrayOf_alike hZ.alike A1096.2.1) A1096.2.2 hin1096 hat1096 (g := (mkF m 81 #[.val (.ref a1), .val (.long q2), .second, .val (.int (-3 : Int32)), .val (.int (1 : Int32)), .val (.int y1)] [(.int (2 : Int32)), (.ref ac1071)])) rfl rfl (hb hby d6_81) _ ?_
          refine XS.iload X1095.here hx rfl (hb hby d6_82) rfl ?_
          refine XS.isub X1095.here hx rfl (hb hby d6_84) rfl ?_
          exact kt)
        have lt1098 : ¬ (x2 < q2) := by
          rw [Int64.lt_iff_toInt_lt] at hs1 hc1078 hc1079 hc1089 ⊢
          omega
        have lt1099 : x1 < q2 := by
          rw [Int64.lt_iff_toInt_lt] at hs1 hc1078 hc1079 hc1089 ⊢
          omega
        have ev : (y2 - (if x2 < q2 then y2 else (if x1 < q2 then y1 else b))) = (y2 - y1) := congrArg (fun z => y2 - z) ((if_neg lt1098).trans (if_pos lt1099))
        exact own_retI X1095 hx Bd.notSynchronized Bd.returns (hb hby d6_85) pre1097 (show QRi (y2 - (if x2 < q2 then y2 else (if x1 < q2 then y1 else b))) h0 n0 _ _ _ from ⟨by rw [ev], N1090, e1095⟩) (by decide) (by decide)
      case neg =>
        obtain ⟨_, _, ⟨T1100, L1100, k1100, n1100⟩, -, X1100, ⟨Lc1100, hQ1100, l1100, y1100, z1100⟩, st1100⟩ := Jvm.LawKit.callS X1076 hx (y := own_y_199) hown (mvT hZ (own_w hw 45 rfl)) (mvT hZ (own_w hw 46 rfl)) (mvT hZ (own_w hw 47 rfl)) (mvT hZ (own_w hw 48 rfl)) (by decide) (backOf (W := 0) (rmSBs134 l Z a0 hw [] am1071 q2 km1071 x0 x1 x2 x3 (2 : Int32) h0 n0 Z0 Vm1071 (((if_pos hc1078).trans (if_neg hc1079)).trans (if_neg hc1089))) hZ (own_w hw 48 rfl) (own_w hw 47 rfl) (by decide) (by decide)) (g := (mkF m 26 #[.val (.ref a1), .val (.long q2), .second, .unset, .unset, .unset] [(.long q2), (.int (3 : Int32)), (.int (1 : Int32)), (.ref am1071)])) rfl (by rw [hml]; rfl) (argsL := [(.ref am1071), (.int (1 : Int32)), (.int (3 : Int32)), (.long q2)]) (rest := []) (lenOf pd_212 rfl) rfl (by show 2 * 0 + _ ≤ _; exact Nat.le_of_eq rfl) (hb hby d6_26) (fun _ _ => ⟨rfl, e1076, (by decide : 0 + 0 ≤ _), (by decide : 0 + 0 ≤ _)⟩)
        dsimp only [Pt.U, Pt.locs, Pt.cells, Pt.slots] at X1100 l1100 y1100 z1100 st1100 hQ1100
        subst l1100 y1100 z1100
        obtain ⟨rfl, Nq1100, e1100⟩ := hQ1100
        have N1100 := Fr.app N0 Nq1100
        obtain ⟨T1101, X1101, e1101, st1101⟩ := getF X1100 hx hZ hown (host := "") (Or.inl (own_w hw 23 rfl)) Via.refl e1100 Ff1071 (g := (mkF m 49 #[.val (.ref a1), .val (.long q2), .second, .val (.int (2 : Int32)), .val (.int (1 : Int32)), .unset] [(.ref a1), (.int (1 : Int32))])) rfl rfl (hb hby d6_49)
        obtain ⟨T1102, X1102, e1102, st1102⟩ := getF X1101 hx hZ hown (host := "") (Or.inl (own_w hw 16 rfl)) Via.refl e1101 Fc1071 (g := (mkF m 63 #[.val (.ref a1), .val (.long q2), .second, .val (.int (2 : Int32)), .val (.int (1 : Int32)), .unset] [(.ref a1)])) rfl rfl (hb hby d6_63)
        obtain ⟨cl1103, A1103, q1103, S1103, M1103, H1103, J1103⟩ := id Vc1071
        have hin1103 : ¬ ((1 : Int32) < 0 ∨ cl1103.slots.size ≤ ((1 : Int32)).toNatClampNeg) := inb_of S1103 ⟨by decide, by decide⟩
        have hat1103 : cl1103.slots[((1 : Int32)).toNatClampNeg]? = some (.int y1) := H1103.at hin1103 rfl
        obtain ⟨T1104, X1104, e1104, st1104⟩ := getF X1102 hx hZ hown (host := "") (Or.inl (own_w hw 16 rfl)) Via.refl e1102 Fc1071 (g := (mkF m 72 #[.val (.ref a1), .val (.long q2), .second, .val (.int (2 : Int32)), .val (.int (1 : Int32)), .val (.int y1)] [(.ref a1)])) rfl rfl (hb hby d6_72)
        obtain ⟨T1105, X1105, e1105, st1105⟩ := getF X1104 hx hZ hown (host := "") (Or.inl (own_w hw 25 rfl)) Via.refl e1104 Fe1071 (g := (mkF m 76 #[.val (.ref a1), .val (.long q2), .second, .val (.int (2 : Int32)), .val (.int (1 : Int32)), .val (.int y1)] [(.ref a1), (.ref ac1071)])) rfl rfl (hb hby d6_76)
        obtain ⟨cl1106, A1106, q1106, S1106, M1106, H1106, J1106⟩ := id Vc1071
        have hin1106 : ¬ ((2 : Int32) < 0 ∨ cl1106.slots.size ≤ ((2 : Int32)).toNatClampNeg) := inb_of S1106 ⟨by decide, by decide⟩
        have hat1106 : cl1106.slots[((2 : Int32)).toNatClampNeg]? = some (.int y2) := H1106.at hin1106 rfl
        have pre1107 : ∀ t, Steps p.tables e below (T1105.setTop (mkF m 85 #[.val (.ref a1), .val (.long q2), .second, .val (.int (2 : Int32)), .val (.int (1 : Int32)), .val (.int y1)] [(.int (y2 - y1))])) t → Steps p.tables e below (s₁.setTop (entryFrame m #[(.ref a1), (.long q2)] 6)) t := fun t kt => pre1077 t (by
          show Steps p.tables e below (T1076.setTop (mkF m 26 #[.val (.ref a1), .val (.long q2), .second, .unset, .unset, .unset] [(.long q2), (.int (3 : Int32)), (.int (1 : Int32)), (.ref am1071)])) _
          refine st1100 _ ?_
          refine XS.istoreN X1100.here hx rfl (hb hby d6_29) rfl (l' := #[.val (.ref a1), .val (.long q2), .second, .val (.int (2 : Int32)), .unset, .unset]) rfl ?_
          refine XS.iloadN X1100.here hx rfl (hb hby d6_30) rfl ?_
          refine XS.ifNo X1100.here hx rfl (hb hby d6_31) rfl ((if0 _ _).trans (flt (by decide : ¬ ((2 : Int32) < (0 : Int32)))).1) ?_
          refine XS.iloadN X1100.here hx rfl (hb hby d6_34) rfl ?_
          refine XS.goto X1100.here hx rfl (pc0 := 35) (pc' := 42) rfl (hb hby d6_35) (by decide) (by decide) ?_
          refine XS.iconst X1100.here hx rfl (hb hby d6_42) ?_
          refine XS.isub X1100.here hx rfl (hb hby d6_43) rfl ?_
          refine XS.istore X1100.here hx rfl (hb hby d6_44) rfl (l' := #[.val (.ref a1), .val (.long q2), .second, .val (.int (2 : Int32)), .val (.int (1 : Int32)), .unset]) rfl ?_
          refine XS.iload X1100.here hx rfl (hb hby d6_46) rfl ?_
          refine XS.aloadN X1100.here hx rfl (hb hby d6_48) rfl rfl ?_
          refine st1101 _ ?_
          show Steps p.tables e below (T1101.setTop (mkF m 52 #[.val (.ref a1), .val (.long q2), .second, .val (.int (2 : Int32)), .val (.int (1 : Int32)), .unset] [(.int (1 : Int32)), (.int (1 : Int32))])) _
          refine XS.icmpYes X1101.here hx rfl (pc0 := 52) (pc' := 62) rfl (hb hby d6_52) rfl (flt (by decide : ¬ ((1 : Int32) < (1 : Int32)))).2.1 (by decide) (by decide) ?_
          refine XS.aloadN X1101.here hx rfl (hb hby d6_62) rfl rfl ?_
          refine st1102 _ ?_
          refine XS.iload X1102.here hx rfl (hb hby d6_66) rfl ?_
          refine X1102.iaload hx (j := (1 : Int32)) (v := (.int y1)) (by rw [e1102]; exact A1103.1) (State.isArrayOf_alike hZ.alike A1103.2.1) A1103.2.2 hin1103 hat1103 (g := (mkF m 68 #[.val (.ref a1), .val (.long q2), .second, .val (.int (2 : Int32)), .val (.int (1 : Int32)), .unset] [(.int (1 : Int32)), (.ref ac1071)])) rfl rfl (hb hby d6_68) _ ?_
          refine XS.istore X1102.here hx rfl (hb hby d6_69) rfl (l' := #[.val (.ref a1), .val (.long q2), .second, .val (.int (2 : Int32)), .val (.int (1 : Int32)), .val (.int y1)]) rfl ?_
          refine XS.aloadN X1102.here hx rfl (hb hby d6_71) rfl rfl ?_
          refine st1104 _ ?_
          refine XS.aloadN X1104.here hx rfl (hb hby d6_75) rfl rfl ?_
          refine st1105 _ ?_
          refine XS.iconst X1105.here hx rfl (hb hby d6_79) ?_
          refine XS.isub X1105.here hx rfl (hb hby d6_80) rfl ?_
          show Steps p.tables e below (T1105.setTop (mkF m 81 #[.val (.ref a1), .val (.long q2), .second, .val (.int (2 : Int32)), .val (.int (1 : Int32)), .val (.int y1)] [(.int (2 : Int32)), (.ref ac1071)])) _
          refine X1105.iaload hx (j := (2 : Int32)) (v := (.int y2)) (by rw [e1105]; exact A1106.1) (State.isArrayOf_alike hZ.alike A1106.2.1) A1106.2.2 hin1106 hat1106 (g := (mkF m 81 #[.val (.ref a1), .val (.long q2), .second, .val (.int (2 : Int32)), .val (.int (1 : Int32)), .val (.int y1)] [(.int (2 : Int32)), (.ref ac1071)])) rfl rfl (hb hby d6_81) _ ?_
          refine XS.iload X1105.here hx rfl (hb hby d6_82) rfl ?_
          refine XS.isub X1105.here hx rfl (hb hby d6_84) rfl ?_
          exact kt)
        have lt1108 : ¬ (x2 < q2) := by
          rw [Int64.lt_iff_toInt_lt] at hs1 hc1078 hc1079 hc1089 ⊢
          omega
        have lt1109 : x1 < q2 := by
          rw [Int64.lt_iff_toInt_lt] at hs1 hc1078 hc1079 hc1089 ⊢
          omega
        have ev : (y2 - (if x2 < q2 then y2 else (if x1 < q2 then y1 else b))) = (y2 - y1) := congrArg (fun z => y2 - z) ((if_neg lt1108).trans (if_pos lt1109))
        exact own_retI X1105 hx Bd.notSynchronized Bd.returns (hb hby d6_85) pre1107 (show QRi (y2 - (if x2 < q2 then y2 else (if x1 < q2 then y1 else b))) h0 n0 _ _ _ from ⟨by rw [ev], N1100, e1105⟩) (by decide) (by decide)
  case neg =>
    by_cases hc1110 : q2 < x1
    case pos =>
      obtain ⟨_, _, ⟨T1111, L1111, k1111, n1111⟩, -, X1111, ⟨Lc1111, hQ1111, l1111, y1111, z1111⟩, st1111⟩ := Jvm.LawKit.callS X1076 hx (y := own_y_199) hown (mvT hZ (own_w hw 45 rfl)) (mvT hZ (own_w hw 46 rfl)) (mvT hZ (own_w hw 47 rfl)) (mvT hZ (own_w hw 48 rfl)) (by decide) (backOf (W := 0) (rmSBs134 l Z a0 hw [] am1071 q2 km1071 x0 x1 x2 x3 (-2 : Int32) h0 n0 Z0 Vm1071 ((if_neg hc1078).trans (if_pos hc1110))) hZ (own_w hw 48 rfl) (own_w hw 47 rfl) (by decide) (by decide)) (g := (mkF m 26 #[.val (.ref a1), .val (.long q2), .second, .unset, .unset, .unset] [(.long q2), (.int (3 : Int32)), (.int (1 : Int32)), (.ref am1071)])) rfl (by rw [hml]; rfl) (argsL := [(.ref am1071), (.int (1 : Int32)), (.int (3 : Int32)), (.long q2)]) (rest := []) (lenOf pd_212 rfl) rfl (by show 2 * 0 + _ ≤ _; exact Nat.le_of_eq rfl) (hb hby d6_26) (fun _ _ => ⟨rfl, e1076, (by decide : 0 + 0 ≤ _), (by decide : 0 + 0 ≤ _)⟩)
      dsimp only [Pt.U, Pt.locs, Pt.cells, Pt.slots] at X1111 l1111 y1111 z1111 st1111 hQ1111
      subst l1111 y1111 z1111
      obtain ⟨rfl, Nq1111, e1111⟩ := hQ1111
      have N1111 := Fr.app N0 Nq1111
      obtain ⟨T1112, X1112, e1112, st1112⟩ := getF X1111 hx hZ hown (host := "") (Or.inl (own_w hw 23 rfl)) Via.refl e1111 Ff1071 (g := (mkF m 49 #[.val (.ref a1), .val (.long q2), .second, .val (.int (-2 : Int32)), .val (.int (0 : Int32)), .unset] [(.ref a1), (.int (0 : Int32))])) rfl rfl (hb hby d6_49)
      obtain ⟨T1113, X1113, e1113, st1113⟩ := getF X1112 hx hZ hown (host := "") (Or.inl (own_w hw 27 rfl)) Via.refl e1112 Fb1071 (g := (mkF m 56 #[.val (.ref a1), .val (.long q2), .second, .val (.int (-2 : Int32)), .val (.int (0 : Int32)), .unset] [(.ref a1)])) rfl rfl (hb hby d6_56)
      obtain ⟨T1114, X1114, e1114, st1114⟩ := getF X1113 hx hZ hown (host := "") (Or.inl (own_w hw 16 rfl)) Via.refl e1113 Fc1071 (g := (mkF m 72 #[.val (.ref a1), .val (.long q2), .second, .val (.int (-2 : Int32)), .val (.int (0 : Int32)), .val (.int b)] [(.ref a1)])) rfl rfl (hb hby d6_72)
      obtain ⟨T1115, X1115, e1115, st1115⟩ := getF X1114 hx hZ hown (host := "") (Or.inl (own_w hw 25 rfl)) Via.refl e1114 Fe1071 (g := (mkF m 76 #[.val (.ref a1), .val (.long q2), .second, .val (.int (-2 : Int32)), .val (.int (0 : Int32)), .val (.int b)] [(.ref a1), (.ref ac1071)])) rfl rfl (hb hby d6_76)
      obtain ⟨cl1116, A1116, q1116, S1116, M1116, H1116, J1116⟩ := id Vc1071
      have hin1116 : ¬ ((2 : Int32) < 0 ∨ cl1116.slots.size ≤ ((2 : Int32)).toNatClampNeg) := inb_of S1116 ⟨by decide, by decide⟩
      have hat1116 : cl1116.slots[((2 : Int32)).toNatClampNeg]? = some (.int y2) := H1116.at hin1116 rfl
      have pre1117 : ∀ t, Steps p.tables e below (T1115.setTop (mkF m 85 #[.val (.ref a1), .val (.long q2), .second, .val (.int (-2 : Int32)), .val (.int (0 : Int32)), .val (.int b)] [(.int (y2 - b))])) t → Steps p.tables e below (s₁.setTop (entryFrame m #[(.ref a1), (.long q2)] 6)) t := fun t kt => pre1077 t (by
        show Steps p.tables e below (T1076.setTop (mkF m 26 #[.val (.ref a1), .val (.long q2), .second, .unset, .unset, .unset] [(.long q2), (.int (3 : Int32)), (.int (1 : Int32)), (.ref am1071)])) _
        refine st1111 _ ?_
        refine XS.istoreN X1111.here hx rfl (hb hby d6_29) rfl (l' := #[.val (.ref a1), .val (.long q2), .second, .val (.int (-2 : Int32)), .unset, .unset]) rfl ?_
        refine XS.iloadN X1111.here hx rfl (hb hby d6_30) rfl ?_
        refine XS.ifYes X1111.here hx rfl (pc0 := 31) (pc' := 38) rfl (hb hby d6_31) rfl ((if0 _ _).trans (tlt (by decide : (-2 : Int32) < (0 : Int32))).1) (by decide) (by decide) ?_
        refine XS.iloadN X1111.here hx rfl (hb hby d6_38) rfl ?_
        refine XS.ineg X1111.here hx rfl (hb hby d6_39) rfl ?_
        refine XS.iconst X1111.here hx rfl (hb hby d6_40) ?_
        refine XS.isub X1111.here hx rfl (hb hby d6_41) rfl ?_
        refine XS.iconst X1111.here hx rfl (hb hby d6_42) ?_
        refine XS.isub X1111.here hx rfl (hb hby d6_43) rfl ?_
        refine XS.istore X1111.here hx rfl (hb hby d6_44) rfl (l' := #[.val (.ref a1), .val (.long q2), .second, .val (.int (-2 : Int32)), .val (.int (0 : Int32)), .unset]) rfl ?_
        refine XS.iload X1111.here hx rfl (hb hby d6_46) rfl ?_
        show Steps p.tables e below (T1111.setTop (mkF m 48 #[.val (.ref a1), .val (.long q2), .second, .val (.int (-2 : Int32)), .val (.int (0 : Int32)), .unset] [(.int (0 : Int32))])) _
        refine XS.aloadN X1111.here hx rfl (hb hby d6_48) rfl rfl ?_
        refine st1112 _ ?_
        refine XS.icmpNo X1112.here hx rfl (hb hby d6_52) rfl (tlt (by decide : (0 : Int32) < (1 : Int32))).2.1 ?_
        refine XS.aloadN X1112.here hx rfl (hb hby d6_55) rfl rfl ?_
        refine st1113 _ ?_
        refine XS.goto X1113.here hx rfl (pc0 := 59) (pc' := 69) rfl (hb hby d6_59) (by decide) (by decide) ?_
        refine XS.istore X1113.here hx rfl (hb hby d6_69) rfl (l' := #[.val (.ref a1), .val (.long q2), .second, .val (.int (-2 : Int32)), .val (.int (0 : Int32)), .val (.int b)]) rfl ?_
        refine XS.aloadN X1113.here hx rfl (hb hby d6_71) rfl rfl ?_
        refine st1114 _ ?_
        refine XS.aloadN X1114.here hx rfl (hb hby d6_75) rfl rfl ?_
        refine st1115 _ ?_
        refine XS.iconst X1115.here hx rfl (hb hby d6_79) ?_
        show Steps p.tables e below (T1115.setTop (mkF m 80 #[.val (.ref a1), .val (.long q2), .second, .val (.int (-2 : Int32)), .val (.int (0 : Int32)), .val (.int b)] [(.int (1 : Int32)), (.int (3 : Int32)), (.ref ac1071)])) _
        refine XS.isub X1115.here hx rfl (hb hby d6_80) rfl ?_
        refine X1115.iaload hx (j := (2 : Int32)) (v := (.int y2)) (by rw [e1115]; exact A1116.1) (State.isArrayOf_alike hZ.alike A1116.2.1) A1116.2.2 hin1116 hat1116 (g := (mkF m 81 #[.val (.ref a1), .val (.long q2), .second, .val (.int (-2 : Int32)), .val (.int (0 : Int32)), .val (.int b)] [(.int (2 : Int32)), (.ref ac1071)])) rfl rfl (hb hby d6_81) _ ?_
        refine XS.iload X1115.here hx rfl (hb hby d6_82) rfl ?_
        refine XS.isub X1115.here hx rfl (hb hby d6_84) rfl ?_
        exact kt)
      have lt1118 : ¬ (x2 < q2) := by
        rw [Int64.lt_iff_toInt_lt] at hs1 hc1078 hc1110 ⊢
        omega
      have lt1119 : ¬ (x1 < q2) := by
        rw [Int64.lt_iff_toInt_lt] at hs1 hc1078 hc1110 ⊢
        omega
      have ev : (y2 - (if x2 < q2 then y2 else (if x1 < q2 then y1 else b))) = (y2 - b) := congrArg (fun z => y2 - z) ((if_neg lt1118).trans (if_neg lt1119))
      exact own_retI X1115 hx Bd.notSynchronized Bd.returns (hb hby d6_85) pre1117 (show QRi (y2 - (if x2 < q2 then y2 else (if x1 < q2 then y1 else b))) h0 n0 _ _ _ from ⟨by rw [ev], N1111, e1115⟩) (by decide) (by decide)
    case neg =>
      obtain ⟨_, _, ⟨T1120, L1120, k1120, n1120⟩, -, X1120, ⟨Lc1120, hQ1120, l1120, y1120, z1120⟩, st1120⟩ := Jvm.LawKit.callS X1076 hx (y := own_y_199) hown (mvT hZ (own_w hw 45 rfl)) (mvT hZ (own_w hw 46 rfl)) (mvT hZ (own_w hw 47 rfl)) (mvT hZ (own_w hw 48 rfl)) (by decide) (backOf (W := 0) (rmSBs134 l Z a0 hw [] am1071 q2 km1071 x0 x1 x2 x3 (1 : Int32) h0 n0 Z0 Vm1071 ((if_neg hc1078).trans (if_neg hc1110))) hZ (own_w hw 48 rfl) (own_w hw 47 rfl) (by decide) (by decide)) (g := (mkF m 26 #[.val (.ref a1), .val (.long q2), .second, .unset, .unset, .unset] [(.long q2), (.int (3 : Int32)), (.int (1 : Int32)), (.ref am1071)])) rfl (by rw [hml]; rfl) (argsL := [(.ref am1071), (.int (1 : Int32)), (.int (3 : Int32)), (.long q2)]) (rest := []) (lenOf pd_212 rfl) rfl (by show 2 * 0 + _ ≤ _; exact Nat.le_of_eq rfl) (hb hby d6_26) (fun _ _ => ⟨rfl, e1076, (by decide : 0 + 0 ≤ _), (by decide : 0 + 0 ≤ _)⟩)
      dsimp only [Pt.U, Pt.locs, Pt.cells, Pt.slots] at X1120 l1120 y1120 z1120 st1120 hQ1120
      subst l1120 y1120 z1120
      obtain ⟨rfl, Nq1120, e1120⟩ := hQ1120
      have N1120 := Fr.app N0 Nq1120
      obtain ⟨T1121, X1121, e1121, st1121⟩ := getF X1120 hx hZ hown (host := "") (Or.inl (own_w hw 23 rfl)) Via.refl e1120 Ff1071 (g := (mkF m 49 #[.val (.ref a1), .val (.long q2), .second, .val (.int (1 : Int32)), .val (.int (0 : Int32)), .unset] [(.ref a1), (.int (0 : Int32))])) rfl rfl (hb hby d6_49)
      obtain ⟨T1122, X1122, e1122, st1122⟩ := getF X1121 hx hZ hown (host := "") (Or.inl (own_w hw 27 rfl)) Via.refl e1121 Fb1071 (g := (mkF m 56 #[.val (.ref a1), .val (.long q2), .second, .val (.int (1 : Int32)), .val (.int (0 : Int32)), .unset] [(.ref a1)])) rfl rfl (hb hby d6_56)
      obtain ⟨T1123, X1123, e1123, st1123⟩ := getF X1122 hx hZ hown (host := "") (Or.inl (own_w hw 16 rfl)) Via.refl e1122 Fc1071 (g := (mkF m 72 #[.val (.ref a1), .val (.long q2), .second, .val (.int (1 : Int32)), .val (.int (0 : Int32)), .val (.int b)] [(.ref a1)])) rfl rfl (hb hby d6_72)
      obtain ⟨T1124, X1124, e1124, st1124⟩ := getF X1123 hx hZ hown (host := "") (Or.inl (own_w hw 25 rfl)) Via.refl e1123 Fe1071 (g := (mkF m 76 #[.val (.ref a1), .val (.long q2), .second, .val (.int (1 : Int32)), .val (.int (0 : Int32)), .val (.int b)] [(.ref a1), (.ref ac1071)])) rfl rfl (hb hby d6_76)
      obtain ⟨cl1125, A1125, q1125, S1125, M1125, H1125, J1125⟩ := id Vc1071
      have hin1125 : ¬ ((2 : Int32) < 0 ∨ cl1125.slots.size ≤ ((2 : Int32)).toNatClampNeg) := inb_of S1125 ⟨by decide, by decide⟩
      have hat1125 : cl1125.slots[((2 : Int32)).toNatClampNeg]? = some (.int y2) := H1125.at hin1125 rfl
      have pre1126 : ∀ t, Steps p.tables e below (T1124.setTop (mkF m 85 #[.val (.ref a1), .val (.long q2), .second, .val (.int (1 : Int32)), .val (.int (0 : Int32)), .val (.int b)] [(.int (y2 - b))])) t → Steps p.tables e below (s₁.setTop (entryFrame m #[(.ref a1), (.long q2)] 6)) t := fun t kt => pre1077 t (by
        show Steps p.tables e below (T1076.setTop (mkF m 26 #[.val (.ref a1), .val (.long q2), .second, .unset, .unset, .unset] [(.long q2), (.int (3 : Int32)), (.int (1 : Int32)), (.ref am1071)])) _
        refine st1120 _ ?_
        refine XS.istoreN X1120.here hx rfl (hb hby d6_29) rfl (l' := #[.val (.ref a1), .val (.long q2), .second, .val (.int (1 : Int32)), .unset, .unset]) rfl ?_
        refine XS.iloadN X1120.here hx rfl (hb hby d6_30) rfl ?_
        refine XS.ifNo X1120.here hx rfl (hb hby d6_31) rfl ((if0 _ _).trans (flt (by decide : ¬ ((1 : Int32) < (0 : Int32)))).1) ?_
        refine XS.iloadN X1120.here hx rfl (hb hby d6_34) rfl ?_
        refine XS.goto X1120.here hx rfl (pc0 := 35) (pc' := 42) rfl (hb hby d6_35) (by decide) (by decide) ?_
        refine XS.iconst X1120.here hx rfl (hb hby d6_42) ?_
        refine XS.isub X1120.here hx rfl (hb hby d6_43) rfl ?_
        refine XS.istore X1120.here hx rfl (hb hby d6_44) rfl (l' := #[.val (.ref a1), .val (.long q2), .second, .val (.int (1 : Int32)), .val (.int (0 : Int32)), .unset]) rfl ?_
        refine XS.iload X1120.here hx rfl (hb hby d6_46) rfl ?_
        refine XS.aloadN X1120.here hx rfl (hb hby d6_48) rfl rfl ?_
        refine st1121 _ ?_
        show Steps p.tables e below (T1121.setTop (mkF m 52 #[.val (.ref a1), .val (.long q2), .second, .val (.int (1 : Int32)), .val (.int (0 : Int32)), .unset] [(.int (1 : Int32)), (.int (0 : Int32))])) _
        refine XS.icmpNo X1121.here hx rfl (hb hby d6_52) rfl (tlt (by decide : (0 : Int32) < (1 : Int32))).2.1 ?_
        refine XS.aloadN X1121.here hx rfl (hb hby d6_55) rfl rfl ?_
        refine st1122 _ ?_
        refine XS.goto X1122.here hx rfl (pc0 := 59) (pc' := 69) rfl (hb hby d6_59) (by decide) (by decide) ?_
        refine XS.istore X1122.here hx rfl (hb hby d6_69) rfl (l' := #[.val (.ref a1), .val (.long q2), .second, .val (.int (1 : Int32)), .val (.int (0 : Int32)), .val (.int b)]) rfl ?_
        refine XS.aloadN X1122.here hx rfl (hb hby d6_71) rfl rfl ?_
        refine st1123 _ ?_
        refine XS.aloadN X1123.here hx rfl (hb hby d6_75) rfl rfl ?_
        refine st1124 _ ?_
        refine XS.iconst X1124.here hx rfl (hb hby d6_79) ?_
        refine XS.isub X1124.here hx rfl (hb hby d6_80) rfl ?_
        refine X1124.iaload hx (j := (2 : Int32)) (v := (.int y2)) (by rw [e1124]; exact A1125.1) (State.isArrayOf_alike hZ.alike A1125.2.1) A1125.2.2 hin1125 hat1125 (g := (mkF m 81 #[.val (.ref a1), .val (.long q2), .second, .val (.int (1 : Int32)), .val (.int (0 : Int32)), .val (.int b)] [(.int (2 : Int32)), (.ref ac1071)])) rfl rfl (hb hby d6_81) _ ?_
        show Steps p.tables e below (T1124.setTop (mkF m 82 #[.val (.ref a1), .val (.long q2), .second, .val (.int (1 : Int32)), .val (.int (0 : Int32)), .val (.int b)] [(.int y2)])) _
        refine XS.iload X1124.here hx rfl (hb hby d6_82) rfl ?_
        refine XS.isub X1124.here hx rfl (hb hby d6_84) rfl ?_
        exact kt)
      have lt1127 : ¬ (x2 < q2) := by
        rw [Int64.lt_iff_toInt_lt] at hs1 hc1078 hc1110 ⊢
        omega
      have lt1128 : ¬ (x1 < q2) := by
        rw [Int64.lt_iff_toInt_lt] at hs1 hc1078 hc1110 ⊢
        omega
      have ev : (y2 - (if x2 < q2 then y2 else (if x1 < q2 then y1 else b))) = (y2 - b) := congrArg (fun z => y2 - z) ((if_neg lt1127).trans (if_neg lt1128))
      exact own_retI X1124 hx Bd.notSynchronized Bd.returns (hb hby d6_85) pre1126 (show QRi (y2 - (if x2 < q2 then y2 else (if x1 < q2 then y1 else b))) h0 n0 _ _ _ from ⟨by rw [ev], N1120, e1124⟩) (by decide) (by decide)
def QFgt034_0 (Z : State) (a1 : Addr) (q2 : Int64) (x0 : Int64) (x1 : Int64) (x2 : Int64) (x3 : Int64) (y0 : Int32) (y1 : Int32) (y2 : Int32) (y3 : Int32) (b : Int32) (h0 : Heap) (n0 : Nat) (v : Option Value) (h : Heap) (L : List Loc) : Prop := v = none ∧ Fr n0 L ∧ h0.size ≤ h.size ∧ PT Z h n0 a1 (0 : Int32) (3 : Int32) (4 : Int32) [(.long x0), (.long x1), (.long x2), (.long x3)] [(.int y0), (.int y1), (.int y2), (.int y3)] b
set_option maxRecDepth 65536 in
set_option maxHeartbeats 40000000 in
theorem rmFgt034_0 (l : Launch) (Z : State) (a0 : Array Value) (hw : ∀ d ∈ tables_1, d.before a0 Z = true) (ws : List Jvm.Cond) (a1 : Addr) (q2 : Int64) (x0 : Int64) (x1 : Int64) (x2 : Int64) (x3 : Int64) (y0 : Int32) (y1 : Int32) (y2 : Int32) (y3 : Int32) (b : Int32) (h0 : Heap) (n0 : Nat) (Z0 : n0 ≤ h0.size) (P0 : PT Z h0 n0 a1 (0 : Int32) (3 : Int32) (4 : Int32) [(.long x0), (.long x1), (.long x2), (.long x3)] [(.int y0), (.int y1), (.int y2), (.int y3)] b) (c0 : ¬ (x0 < q2)) :
    MetFree l own_y_32 (head1 (Jvm.Cond.code own_y_32 prog_25_method_4_code 3 none :: ws) ({ frames := 0, cells := 0, slots := 0, locals := 0 } : Room)) (fun a U => a = #[(.ref a1), (.long q2)] ∧ Z.Warmed39 U.vm ∧ U.heap = h0) (fun _ _ _ _ _ => True) (fun _ U o U' => ∃ v L, o = .returned v ∧ QFgt034_0 Z a1 q2 x0 x1 x2 x3 y0 y1 y2 y3 b h0 n0 v U'.heap L ∧ FrameEnd U o U' L ({ frames := 0, cells := 0, slots := 0, locals := 0 } : Room).cells ({ frames := 0, cells := 0, slots := 0, locals := 0 } : Room).slots) := by
  refine MetFree.of_bodySF (plainFor_of_name pn_2) hisR ?_
  intro p e s m args below meth c s₁ Bd hml0 hP hK
  obtain ⟨rfl, hZ, hh⟩ := hP
  have hx := Bd.exec
  have hby := Bd.bytes
  have hml : c.maxLocals = 3 := hml0
  have hown : s.vm.findClass "com/example/viral_counter/viralcounter/PostTrend" = some m.cls := findClass_of_methodNamed Bd.named
  have hnm := (name_of_methodNamed Bd.named Bd.method).1
  have X0 : Stand p l e ({ frames := 0, cells := 0, slots := 0, locals := 0 } : Room) s m #[(.ref a1), (.long q2)] below meth c s₁ [] 0 0 := Stand.of_body Bd
  have e0 : s₁.heap = h0 := by rw [← hh, Bd.state]; rfl
  have N0 := Fr.nil n0
  have pre0 : ∀ t, Steps p.tables e below (s₁.setTop (mkF m 0 #[.val (.ref a1), .val (.long q2), .second] [])) t → Steps p.tables e below (s₁.setTop (entryFrame m #[(.ref a1), (.long q2)] 3)) t := fun t k => castTop (ef_33 m a1 q2) k
  obtain ⟨am1133, ac1133, km1133, kc1133, E1133, Fm1133, Fc1133, Ff1133, Fe1133, Fb1133, Vm1133, Vc1133, Ga1133, Gm1133, Gc1133, n11133, n21133, n31133⟩ := id P0
  have hz0 : h0.size ≤ h0.size := Nat.le_refl _
  obtain ⟨T1134, X1134, e1134, st1134⟩ := getF X0 hx hZ hown (host := "") (Or.inl (own_w hw 23 rfl)) Via.refl e0 Ff1133 (g := (mkF m 1 #[.val (.ref a1), .val (.long q2), .second] [(.ref a1)])) rfl rfl (hb hby d4_1)
  obtain ⟨T1135, X1135, e1135, st1135⟩ := getF X1134 hx hZ hown (host := "") (Or.inl (own_w hw 25 rfl)) Via.refl e1134 Fe1133 (g := (mkF m 5 #[.val (.ref a1), .val (.long q2), .second] [(.ref a1), (.int (0 : Int32))])) rfl rfl (hb hby d4_5)
  obtain ⟨T1136, X1136, e1136, st1136⟩ := getF X1135 hx hZ hown (host := "") (Or.inl (own_w hw 13 rfl)) Via.refl e1135 Fm1133 (g := (mkF m 12 #[.val (.ref a1), .val (.long q2), .second] [(.ref a1)])) rfl rfl (hb hby d4_12)
  obtain ⟨T1137, X1137, e1137, st1137⟩ := getF X1136 hx hZ hown (host := "") (Or.inl (own_w hw 23 rfl)) Via.refl e1136 Ff1133 (g := (mkF m 16 #[.val (.ref a1), .val (.long q2), .second] [(.ref a1), (.ref am1133)])) rfl rfl (hb hby d4_16)
  obtain ⟨cl1138, A1138, q1138, S1138, M1138, H1138, J1138⟩ := id Vm1133
  have hin1138 : ¬ ((0 : Int32) < 0 ∨ cl1138.slots.size ≤ ((0 : Int32)).toNatClampNeg) := inb_of S1138 ⟨by decide, by decide⟩
  have hat1138 : cl1138.slots[((0 : Int32)).toNatClampNeg]? = some (.long x0) := H1138.at hin1138 rfl
  have pre1139 : ∀ t, Steps p.tables e below (T1137.setTop (mkF m 51 #[.val (.ref a1), .val (.long q2), .second] [])) t → Steps p.tables e below (s₁.setTop (entryFrame m #[(.ref a1), (.long q2)] 3)) t := fun t kt => pre0 t (by
    show Steps p.tables e below (s₁.setTop (mkF m 0 #[.val (.ref a1), .val (.long q2), .second] [])) _
    refine XS.aloadN X0.here hx rfl (hb hby d4_0) rfl rfl ?_
    refine st1134 _ ?_
    refine XS.aloadN X1134.here hx rfl (hb hby d4_4) rfl rfl ?_
    refine st1135 _ ?_
    refine XS.icmpNo X1135.here hx rfl (hb hby d4_8) rfl (tlt (by decide : (0 : Int32) < (3 : Int32))).2.1 ?_
    refine XS.aloadN X1135.here hx rfl (hb hby d4_11) rfl rfl ?_
    refine st1136 _ ?_
    refine XS.aloadN X1136.here hx rfl (hb hby d4_15) rfl rfl ?_
    refine st1137 _ ?_
    refine X1137.laload hx (j := (0 : Int32)) (v := (.long x0)) (by rw [e1137]; exact A1138.1) (State.isArrayOf_alike hZ.alike A1138.2.1) A1138.2.2 hin1138 hat1138 (g := (mkF m 19 #[.val (.ref a1), .val (.long q2), .second] [(.int (0 : Int32)), (.ref am1133)])) rfl rfl (hb hby d4_19) _ ?_
    refine XS.lloadN X1137.here hx rfl (hb hby d4_20) rfl ?_
    refine XS.lcmp X1137.here hx rfl (hb hby d4_21) rfl ?_
    show Steps p.tables e below (T1137.setTop (mkF m 22 #[.val (.ref a1), .val (.long q2), .second] [(.int (lcmpW x0 q2))])) _
    refine XS.ifYes X1137.here hx rfl (pc0 := 22) (pc' := 51) rfl (hb hby d4_22) rfl ((if0 _ _).trans (flt (fun q => c0 ((lw_lt _ _).mp q))).2.1) (by decide) (by decide) ?_
    exact kt)
  have hz : h0.size ≤ h0.size := Nat.le_refl _
  have hQ : QFgt034_0 Z a1 q2 x0 x1 x2 x3 y0 y1 y2 y3 b h0 n0 none h0 _ := ⟨rfl, N0, hz, ⟨am1133, ac1133, km1133, kc1133, E1133, Fm1133, Fc1133, Ff1133, Fe1133, Fb1133, Vm1133, Vc1133, Ga1133, Gm1133, Gc1133, n11133, n21133, n31133⟩⟩
  exact own_retV X1137 hx Bd.notSynchronized Bd.returns (hb hby d4_51) pre1139 (show QFgt034_0 Z a1 q2 x0 x1 x2 x3 y0 y1 y2 y3 b h0 n0 _ _ _ from (by rw [e1137]; exact hQ)) (by decide) (by decide)
set_option maxRecDepth 65536 in
set_option maxHeartbeats 40000000 in
theorem rmBs034 (l : Launch) (Z : State) (a0 : Array Value) (hw : ∀ d ∈ tables_1, d.before a0 Z = true) (ws : List Jvm.Cond) (a1 : Addr) (q4 : Int64) (k0 : ClassId) (x0 : Int64) (x1 : Int64) (x2 : Int64) (x3 : Int64) (r : Int32) (h0 : Heap) (n0 : Nat) (Z0 : n0 ≤ h0.size) (V0 : Arv Z h0 a1 k0 .long (4 : Int32) [(.long x0), (.long x1), (.long x2), (.long x3)] (.long (0 : Int64))) (er : (if x1 < q4 then (if x2 < q4 then (-4 : Int32) else (if q4 < x2 then (-3 : Int32) else (2 : Int32))) else (if q4 < x1 then (if x0 < q4 then (-2 : Int32) else (if q4 < x0 then (-1 : Int32) else (0 : Int32))) else (1 : Int32))) = r) :
    MetFree l own_y_185 (head1 (Jvm.Cond.code own_y_185 jdk_65_method_56_code 10 (some .int) :: ws) ({ frames := 0, cells := 0, slots := 0, locals := 0 } : Room)) (fun a U => a = #[(.ref a1), (.int (0 : Int32)), (.int (3 : Int32)), (.long q4)] ∧ Z.Warmed39 U.vm ∧ U.heap = h0) (fun _ _ _ _ _ => True) (fun _ U o U' => ∃ v L, o = .returned v ∧ QBs r h0 n0 v U'.heap L ∧ FrameEnd U o U' L ({ frames := 0, cells := 0, slots := 0, locals := 0 } : Room).cells ({ frames := 0, cells := 0, slots := 0, locals := 0 } : Room).slots) := by
  refine MetFree.of_bodySF (plainFor_of_name pn_187) hisR ?_
  intro p e s m args below meth c s₁ Bd hml0 hP hK
  obtain ⟨rfl, hZ, hh⟩ := hP
  have hx := Bd.exec
  have hby := Bd.bytes
  have hml : c.maxLocals = 10 := hml0
  have hown : s.vm.findClass "java/util/Arrays" = some m.cls := findClass_of_methodNamed Bd.named
  have hnm := (name_of_methodNamed Bd.named Bd.method).1
  have X0 : Stand p l e ({ frames := 0, cells := 0, slots := 0, locals := 0 } : Room) s m #[(.ref a1), (.int (0 : Int32)), (.int (3 : Int32)), (.long q4)] below meth c s₁ [] 0 0 := Stand.of_body Bd
  have e0 : s₁.heap = h0 := by rw [← hh, Bd.state]; rfl
  have N0 := Fr.nil n0
  have pre0 : ∀ t, Steps p.tables e below (s₁.setTop (mkF m 0 #[.val (.ref a1), .val (.int (0 : Int32)), .val (.int (3 : Int32)), .val (.long q4), .second, .unset, .unset, .unset, .unset, .unset] [])) t → Steps p.tables e below (s₁.setTop (entryFrame m #[(.ref a1), (.int (0 : Int32)), (.int (3 : Int32)), (.long q4)] 10)) t := fun t k => castTop (ef_186 m a1 (0 : Int32) (3 : Int32) q4) k
  obtain ⟨cl1143, A1143, q1143, S1143, M1143, H1143, J1143⟩ := id V0
  have hin1143 : ¬ ((1 : Int32) < 0 ∨ cl1143.slots.size ≤ ((1 : Int32)).toNatClampNeg) := inb_of S1143 ⟨by decide, by decide⟩
  have hat1143 : cl1143.slots[((1 : Int32)).toNatClampNeg]? = some (.long x1) := H1143.at hin1143 rfl
  have pre1144 : ∀ t, Steps p.tables e below (s₁.setTop (mkF m 34 #[.val (.ref a1), .val (.int (0 : Int32)), .val (.int (3 : Int32)), .val (.long q4), .second, .val (.int (0 : Int32)), .val (.int (2 : Int32)), .val (.int (1 : Int32)), .val (.long x1), .second] [(.int (lcmpW x1 q4))])) t → Steps p.tables e below (s₁.setTop (entryFrame m #[(.ref a1), (.int (0 : Int32)), (.int (3 : Int32)), (.long q4)] 10)) t := fun t kt => pre0 t (by
    show Steps p.tables e below (s₁.setTop (mkF m 0 #[.val (.ref a1), .val (.int (0 : Int32)), .val (.int (3 : Int32)), .val (.long q4), .second, .unset, .unset, .unset, .unset, .unset] [])) _
    refine XS.iloadN X0.here hx rfl (hb hby d9_0) rfl ?_
    refine XS.istore X0.here hx rfl (hb hby d9_1) rfl (l' := #[.val (.ref a1), .val (.int (0 : Int32)), .val (.int (3 : Int32)), .val (.long q4), .second, .val (.int (0 : Int32)), .unset, .unset, .unset, .unset]) rfl ?_
    refine XS.iloadN X0.here hx rfl (hb hby d9_3) rfl ?_
    refine XS.iconst X0.here hx rfl (hb hby d9_4) ?_
    refine XS.isub X0.here hx rfl (hb hby d9_5) rfl ?_
    refine XS.istore X0.here hx rfl (hb hby d9_6) rfl (l' := #[.val (.ref a1), .val (.int (0 : Int32)), .val (.int (3 : Int32)), .val (.long q4), .second, .val (.int (0 : Int32)), .val (.int (2 : Int32)), .unset, .unset, .unset]) rfl ?_
    refine XS.iload X0.here hx rfl (hb hby d9_8) rfl ?_
    refine XS.iload X0.here hx rfl (hb hby d9_10) rfl ?_
    refine XS.icmpNo X0.here hx rfl (hb hby d9_12) rfl (flt (by decide : ¬ ((2 : Int32) < (0 : Int32)))).2.2.1 ?_
    refine XS.iload X0.here hx rfl (hb hby d9_15) rfl ?_
    refine XS.iload X0.here hx rfl (hb hby d9_17) rfl ?_
    refine XS.iadd X0.here hx rfl (hb hby d9_19) rfl ?_
    show Steps p.tables e below (s₁.setTop (mkF m 20 #[.val (.ref a1), .val (.int (0 : Int32)), .val (.int (3 : Int32)), .val (.long q4), .second, .val (.int (0 : Int32)), .val (.int (2 : Int32)), .unset, .unset, .unset] [(.int (2 : Int32))])) _
    refine XS.iconst X0.here hx rfl (hb hby d9_20) ?_
    refine XS.iushr X0.here hx rfl (hb hby d9_21) rfl ?_
    refine XS.istore X0.here hx rfl (hb hby d9_22) rfl (l' := #[.val (.ref a1), .val (.int (0 : Int32)), .val (.int (3 : Int32)), .val (.long q4), .second, .val (.int (0 : Int32)), .val (.int (2 : Int32)), .val (.int (1 : Int32)), .unset, .unset]) rfl ?_
    refine XS.aloadN X0.here hx rfl (hb hby d9_24) rfl rfl ?_
    refine XS.iload X0.here hx rfl (hb hby d9_25) rfl ?_
    refine X0.laload hx (j := (1 : Int32)) (v := (.long x1)) (by rw [e0]; exact A1143.1) (State.isArrayOf_alike hZ.alike A1143.2.1) A1143.2.2 hin1143 hat1143 (g := (mkF m 27 #[.val (.ref a1), .val (.int (0 : Int32)), .val (.int (3 : Int32)), .val (.long q4), .second, .val (.int (0 : Int32)), .val (.int (2 : Int32)), .val (.int (1 : Int32)), .unset, .unset] [(.int (1 : Int32)), (.ref a1)])) rfl rfl (hb hby d9_27) _ ?_
    refine XS.lstore X0.here hx rfl (hb hby d9_28) rfl (l' := #[.val (.ref a1), .val (.int (0 : Int32)), .val (.int (3 : Int32)), .val (.long q4), .second, .val (.int (0 : Int32)), .val (.int (2 : Int32)), .val (.int (1 : Int32)), .val (.long x1), .second]) rfl ?_
    refine XS.lload X0.here hx rfl (hb hby d9_30) rfl ?_
    refine XS.lloadN X0.here hx rfl (hb hby d9_32) rfl ?_
    refine XS.lcmp X0.here hx rfl (hb hby d9_33) rfl ?_
    exact kt)
  by_cases hc1145 : x1 < q4
  case pos =>
    obtain ⟨cl1146, A1146, q1146, S1146, M1146, H1146, J1146⟩ := id V0
    have hin1146 : ¬ ((2 : Int32) < 0 ∨ cl1146.slots.size ≤ ((2 : Int32)).toNatClampNeg) := inb_of S1146 ⟨by decide, by decide⟩
    have hat1146 : cl1146.slots[((2 : Int32)).toNatClampNeg]? = some (.long x2) := H1146.at hin1146 rfl
    have pre1147 : ∀ t, Steps p.tables e below (s₁.setTop (mkF m 34 #[.val (.ref a1), .val (.int (0 : Int32)), .val (.int (3 : Int32)), .val (.long q4), .second, .val (.int (2 : Int32)), .val (.int (2 : Int32)), .val (.int (2 : Int32)), .val (.long x2), .second] [(.int (lcmpW x2 q4))])) t → Steps p.tables e below (s₁.setTop (entryFrame m #[(.ref a1), (.int (0 : Int32)), (.int (3 : Int32)), (.long q4)] 10)) t := fun t kt => pre1144 t (by
      show Steps p.tables e below (s₁.setTop (mkF m 34 #[.val (.ref a1), .val (.int (0 : Int32)), .val (.int (3 : Int32)), .val (.long q4), .second, .val (.int (0 : Int32)), .val (.int (2 : Int32)), .val (.int (1 : Int32)), .val (.long x1), .second] [(.int (lcmpW x1 q4))])) _
      refine XS.ifNo X0.here hx rfl (hb hby d9_34) rfl ((if0 _ _).trans (tlt ((lw_lt _ _).mpr hc1145)).2.1) ?_
      refine XS.iload X0.here hx rfl (hb hby d9_37) rfl ?_
      refine XS.iconst X0.here hx rfl (hb hby d9_39) ?_
      refine XS.iadd X0.here hx rfl (hb hby d9_40) rfl ?_
      refine XS.istore X0.here hx rfl (hb hby d9_41) rfl (l' := #[.val (.ref a1), .val (.int (0 : Int32)), .val (.int (3 : Int32)), .val (.long q4), .second, .val (.int (2 : Int32)), .val (.int (2 : Int32)), .val (.int (1 : Int32)), .val (.long x1), .second]) rfl ?_
      refine XS.goto X0.here hx rfl (pc0 := 43) (pc' := 65) rfl (hb hby d9_43) (by decide) (by decide) ?_
      refine XS.goto X0.here hx rfl (pc0 := 65) (pc' := 8) rfl (hb hby d9_65) (by decide) (by decide) ?_
      refine XS.iload X0.here hx rfl (hb hby d9_8) rfl ?_
      refine XS.iload X0.here hx rfl (hb hby d9_10) rfl ?_
      refine XS.icmpNo X0.here hx rfl (hb hby d9_12) rfl (flt (by decide : ¬ ((2 : Int32) < (2 : Int32)))).2.2.1 ?_
      refine XS.iload X0.here hx rfl (hb hby d9_15) rfl ?_
      refine XS.iload X0.here hx rfl (hb hby d9_17) rfl ?_
      show Steps p.tables e below (s₁.setTop (mkF m 19 #[.val (.ref a1), .val (.int (0 : Int32)), .val (.int (3 : Int32)), .val (.long q4), .second, .val (.int (2 : Int32)), .val (.int (2 : Int32)), .val (.int (1 : Int32)), .val (.long x1), .second] [(.int (2 : Int32)), (.int (2 : Int32))])) _
      refine XS.iadd X0.here hx rfl (hb hby d9_19) rfl ?_
      refine XS.iconst X0.here hx rfl (hb hby d9_20) ?_
      refine XS.iushr X0.here hx rfl (hb hby d9_21) rfl ?_
      refine XS.istore X0.here hx rfl (hb hby d9_22) rfl (l' := #[.val (.ref a1), .val (.int (0 : Int32)), .val (.int (3 : Int32)), .val (.long q4), .second, .val (.int (2 : Int32)), .val (.int (2 : Int32)), .val (.int (2 : Int32)), .val (.long x1), .second]) rfl ?_
      refine XS.aloadN X0.here hx rfl (hb hby d9_24) rfl rfl ?_
      refine XS.iload X0.here hx rfl (hb hby d9_25) rfl ?_
      refine X0.laload hx (j := (2 : Int32)) (v := (.long x2)) (by rw [e0]; exact A1146.1) (State.isArrayOf_alike hZ.alike A1146.2.1) A1146.2.2 hin1146 hat1146 (g := (mkF m 27 #[.val (.ref a1), .val (.int (0 : Int32)), .val (.int (3 : Int32)), .val (.long q4), .second, .val (.int (2 : Int32)), .val (.int (2 : Int32)), .val (.int (2 : Int32)), .val (.long x1), .second] [(.int (2 : Int32)), (.ref a1)])) rfl rfl (hb hby d9_27) _ ?_
      refine XS.lstore X0.here hx rfl (hb hby d9_28) rfl (l' := #[.val (.ref a1), .val (.int (0 : Int32)), .val (.int (3 : Int32)), .val (.long q4), .second, .val (.int (2 : Int32)), .val (.int (2 : Int32)), .val (.int (2 : Int32)), .val (.long x2), .second]) rfl ?_
      refine XS.lload X0.here hx rfl (hb hby d9_30) rfl ?_
      refine XS.lloadN X0.here hx rfl (hb hby d9_32) rfl ?_
      refine XS.lcmp X0.here hx rfl (hb hby d9_33) rfl ?_
      exact kt)
    by_cases hc1148 : x2 < q4
    case pos =>
      have pre1158 : ∀ t, Steps p.tables e below (s₁.setTop (mkF m 73 #[.val (.ref a1), .val (.int (0 : Int32)), .val (.int (3 : Int32)), .val (.long q4), .second, .val (.int (3 : Int32)), .val (.int (2 : Int32)), .val (.int (2 : Int32)), .val (.long x2), .second] [(.int (-4 : Int32))])) t → Steps p.tables e below (s₁.setTop (entryFrame m #[(.ref a1), (.int (0 : Int32)), (.int (3 : Int32)), (.long q4)] 10)) t := fun t kt => pre1147 t (by
        show Steps p.tables e below (s₁.setTop (mkF m 34 #[.val (.ref a1), .val (.int (0 : Int32)), .val (.int (3 : Int32)), .val (.long q4), .second, .val (.int (2 : Int32)), .val (.int (2 : Int32)), .val (.int (2 : Int32)), .val (.long x2), .second] [(.int (lcmpW x2 q4))])) _
        refine XS.ifNo X0.here hx rfl (hb hby d9_34) rfl ((if0 _ _).trans (tlt ((lw_lt _ _).mpr hc1148)).2.1) ?_
        refine XS.iload X0.here hx rfl (hb hby d9_37) rfl ?_
        refine XS.iconst X0.here hx rfl (hb hby d9_39) ?_
        refine XS.iadd X0.here hx rfl (hb hby d9_40) rfl ?_
        refine XS.istore X0.here hx rfl (hb hby d9_41) rfl (l' := #[.val (.ref a1), .val (.int (0 : Int32)), .val (.int (3 : Int32)), .val (.long q4), .second, .val (.int (3 : Int32)), .val (.int (2 : Int32)), .val (.int (2 : Int32)), .val (.long x2), .second]) rfl ?_
        refine XS.goto X0.here hx rfl (pc0 := 43) (pc' := 65) rfl (hb hby d9_43) (by decide) (by decide) ?_
        refine XS.goto X0.here hx rfl (pc0 := 65) (pc' := 8) rfl (hb hby d9_65) (by decide) (by decide) ?_
        refine XS.iload X0.here hx rfl (hb hby d9_8) rfl ?_
        refine XS.iload X0.here hx rfl (hb hby d9_10) rfl ?_
        refine XS.icmpYes X0.here hx rfl (pc0 := 12) (pc' := 68) rfl (hb hby d9_12) rfl (tlt (by decide : (2 : Int32) < (3 : Int32))).2.2.1 (by decide) (by decide) ?_
        refine XS.iload X0.here hx rfl (hb hby d9_68) rfl ?_
        refine XS.iconst X0.here hx rfl (hb hby d9_70) ?_
        show Steps p.tables e below (s₁.setTop (mkF m 71 #[.val (.ref a1), .val (.int (0 : Int32)), .val (.int (3 : Int32)), .val (.long q4), .second, .val (.int (3 : Int32)), .val (.int (2 : Int32)), .val (.int (2 : Int32)), .val (.long x2), .second] [(.int (1 : Int32)), (.int (3 : Int32))])) _
        refine XS.iadd X0.here hx rfl (hb hby d9_71) rfl ?_
        refine XS.ineg X0.here hx rfl (hb hby d9_72) rfl ?_
        exact kt)
      have ev : r = (-4 : Int32) := er.symm.trans ((if_pos hc1145).trans (if_pos hc1148))
      exact own_retI X0 hx Bd.notSynchronized Bd.returns (hb hby d9_73) pre1158 (show QBs r h0 n0 _ _ _ from ⟨by rw [ev], N0, e0⟩) (by decide) (by decide)
    case neg =>
      have pre1149 : ∀ t, Steps p.tables e below (s₁.setTop (mkF m 50 #[.val (.ref a1), .val (.int (0 : Int32)), .val (.int (3 : Int32)), .val (.long q4), .second, .val (.int (2 : Int32)), .val (.int (2 : Int32)), .val (.int (2 : Int32)), .val (.long x2), .second] [(.int (lcmpW x2 q4))])) t → Steps p.tables e below (s₁.setTop (entryFrame m #[(.ref a1), (.int (0 : Int32)), (.int (3 : Int32)), (.long q4)] 10)) t := fun t kt => pre1147 t (by
        show Steps p.tables e below (s₁.setTop (mkF m 34 #[.val (.ref a1), .val (.int (0 : Int32)), .val (.int (3 : Int32)), .val (.long q4), .second, .val (.int (2 : Int32)), .val (.int (2 : Int32)), .val (.int (2 : Int32)), .val (.long x2), .second] [(.int (lcmpW x2 q4))])) _
        refine XS.ifYes X0.here hx rfl (pc0 := 34) (pc' := 46) rfl (hb hby d9_34) rfl ((if0 _ _).trans (flt (fun q => hc1148 ((lw_lt _ _).mp q))).2.1) (by decide) (by decide) ?_
        refine XS.lload X0.here hx rfl (hb hby d9_46) rfl ?_
        refine XS.lloadN X0.here hx rfl (hb hby d9_48) rfl ?_
        refine XS.lcmp X0.here hx rfl (hb hby d9_49) rfl ?_
        exact kt)
      by_cases hc1150 : q4 < x2
      case pos =>
        have pre1159 : ∀ t, Steps p.tables e below (s₁.setTop (mkF m 73 #[.val (.ref a1), .val (.int (0 : Int32)), .val (.int (3 : Int32)), .val (.long q4), .second, .val (.int (2 : Int32)), .val (.int (1 : Int32)), .val (.int (2 : Int32)), .val (.long x2), .second] [(.int (-3 : Int32))])) t → Steps p.tables e below (s₁.setTop (entryFrame m #[(.ref a1), (.int (0 : Int32)), (.int (3 : Int32)), (.long q4)] 10)) t := fun t kt => pre1149 t (by
          show Steps p.tables e below (s₁.setTop (mkF m 50 #[.val (.ref a1), .val (.int (0 : Int32)), .val (.int (3 : Int32)), .val (.long q4), .second, .val (.int (2 : Int32)), .val (.int (2 : Int32)), .val (.int (2 : Int32)), .val (.long x2), .second] [(.int (lcmpW x2 q4))])) _
          refine XS.ifNo X0.here hx rfl (hb hby d9_50) rfl ((if0 _ _).trans (tlt ((lw_gt _ _).mpr hc1150)).2.2.2) ?_
          refine XS.iload X0.here hx rfl (hb hby d9_53) rfl ?_
          refine XS.iconst X0.here hx rfl (hb hby d9_55) ?_
          refine XS.isub X0.here hx rfl (hb hby d9_56) rfl ?_
          refine XS.istore X0.here hx rfl (hb hby d9_57) rfl (l' := #[.val (.ref a1), .val (.int (0 : Int32)), .val (.int (3 : Int32)), .val (.long q4), .second, .val (.int (2 : Int32)), .val (.int (1 : Int32)), .val (.int (2 : Int32)), .val (.long x2), .second]) rfl ?_
          refine XS.goto X0.here hx rfl (pc0 := 59) (pc' := 65) rfl (hb hby d9_59) (by decide) (by decide) ?_
          refine XS.goto X0.here hx rfl (pc0 := 65) (pc' := 8) rfl (hb hby d9_65) (by decide) (by decide) ?_
          refine XS.iload X0.here hx rfl (hb hby d9_8) rfl ?_
          refine XS.iload X0.here hx rfl (hb hby d9_10) rfl ?_
          refine XS.icmpYes X0.here hx rfl (pc0 := 12) (pc' := 68) rfl (hb hby d9_12) rfl (tlt (by decide : (1 : Int32) < (2 : Int32))).2.2.1 (by decide) (by decide) ?_
          refine XS.iload X0.here hx rfl (hb hby d9_68) rfl ?_
          refine XS.iconst X0.here hx rfl (hb hby d9_70) ?_
          show Steps p.tables e below (s₁.setTop (mkF m 71 #[.val (.ref a1), .val (.int (0 : Int32)), .val (.int (3 : Int32)), .val (.long q4), .second, .val (.int (2 : Int32)), .val (.int (1 : Int32)), .val (.int (2 : Int32)), .val (.long x2), .second] [(.int (1 : Int32)), (.int (2 : Int32))])) _
          refine XS.iadd X0.here hx rfl (hb hby d9_71) rfl ?_
          refine XS.ineg X0.here hx rfl (hb hby d9_72) rfl ?_
          exact kt)
        have ev : r = (-3 : Int32) := er.symm.trans (((if_pos hc1145).trans (if_neg hc1148)).trans (if_pos hc1150))
        exact own_retI X0 hx Bd.notSynchronized Bd.returns (hb hby d9_73) pre1159 (show QBs r h0 n0 _ _ _ from ⟨by rw [ev], N0, e0⟩) (by decide) (by decide)
      case neg =>
        have pre1160 : ∀ t, Steps p.tables e below (s₁.setTop (mkF m 64 #[.val (.ref a1), .val (.int (0 : Int32)), .val (.int (3 : Int32)), .val (.long q4), .second, .val (.int (2 : Int32)), .val (.int (2 : Int32)), .val (.int (2 : Int32)), .val (.long x2), .second] [(.int (2 : Int32))])) t → Steps p.tables e below (s₁.setTop (entryFrame m #[(.ref a1), (.int (0 : Int32)), (.int (3 : Int32)), (.long q4)] 10)) t := fun t kt => pre1149 t (by
          show Steps p.tables e below (s₁.setTop (mkF m 50 #[.val (.ref a1), .val (.int (0 : Int32)), .val (.int (3 : Int32)), .val (.long q4), .second, .val (.int (2 : Int32)), .val (.int (2 : Int32)), .val (.int (2 : Int32)), .val (.long x2), .second] [(.int (lcmpW x2 q4))])) _
          refine XS.ifYes X0.here hx rfl (pc0 := 50) (pc' := 62) rfl (hb hby d9_50) rfl ((if0 _ _).trans (flt (fun q => hc1150 ((lw_gt _ _).mp q))).2.2.2) (by decide) (by decide) ?_
          refine XS.iload X0.here hx rfl (hb hby d9_62) rfl ?_
          exact kt)
        have ev : r = (2 : Int32) := er.symm.trans (((if_pos hc1145).trans (if_neg hc1148)).trans (if_neg hc1150))
        exact own_retI X0 hx Bd.notSynchronized Bd.returns (hb hby d9_64) pre1160 (show QBs r h0 n0 _ _ _ from ⟨by rw [ev], N0, e0⟩) (by decide) (by decide)
  case neg =>
    have pre1151 : ∀ t, Steps p.tables e below (s₁.setTop (mkF m 50 #[.val (.ref a1), .val (.int (0 : Int32)), .val (.int (3 : Int32)), .val (.long q4), .second, .val (.int (0 : Int32)), .val (.int (2 : Int32)), .val (.int (1 : Int32)), .val (.long x1), .second] [(.int (lcmpW x1 q4))])) t → Steps p.tables e below (s₁.setTop (entryFrame m #[(.ref a1), (.int (0 : Int32)), (.int (3 : Int32)), (.long q4)] 10)) t := fun t kt => pre1144 t (by
      show Steps p.tables e below (s₁.setTop (mkF m 34 #[.val (.ref a1), .val (.int (0 : Int32)), .val (.int (3 : Int32)), .val (.long q4), .second, .val (.int (0 : Int32)), .val (.int (2 : Int32)), .val (.int (1 : Int32)), .val (.long x1), .second] [(.int (lcmpW x1 q4))])) _
      refine XS.ifYes X0.here hx rfl (pc0 := 34) (pc' := 46) rfl (hb hby d9_34) rfl ((if0 _ _).trans (flt (fun q => hc1145 ((lw_lt _ _).mp q))).2.1) (by decide) (by decide) ?_
      refine XS.lload X0.here hx rfl (hb hby d9_46) rfl ?_
      refine XS.lloadN X0.here hx rfl (hb hby d9_48) rfl ?_
      refine XS.lcmp X0.here hx rfl (hb hby d9_49) rfl ?_
      exact kt)
    by_cases hc1152 : q4 < x1
    case pos =>
      obtain ⟨cl1153, A1153, q1153, S1153, M1153, H1153, J1153⟩ := id V0
      have hin1153 : ¬ ((0 : Int32) < 0 ∨ cl1153.slots.size ≤ ((0 : Int32)).toNatClampNeg) := inb_of S1153 ⟨by decide, by decide⟩
      have hat1153 : cl1153.slots[((0 : Int32)).toNatClampNeg]? = some (.long x0) := H1153.at hin1153 rfl
      have pre1154 : ∀ t, Steps p.tables e below (s₁.setTop (mkF m 34 #[.val (.ref a1), .val (.int (0 : Int32)), .val (.int (3 : Int32)), .val (.long q4), .second, .val (.int (0 : Int32)), .val (.int (0 : Int32)), .val (.int (0 : Int32)), .val (.long x0), .second] [(.int (lcmpW x0 q4))])) t → Steps p.tables e below (s₁.setTop (entryFrame m #[(.ref a1), (.int (0 : Int32)), (.int (3 : Int32)), (.long q4)] 10)) t := fun t kt => pre1151 t (by
        show Steps p.tables e below (s₁.setTop (mkF m 50 #[.val (.ref a1), .val (.int (0 : Int32)), .val (.int (3 : Int32)), .val (.long q4), .second, .val (.int (0 : Int32)), .val (.int (2 : Int32)), .val (.int (1 : Int32)), .val (.long x1), .second] [(.int (lcmpW x1 q4))])) _
        refine XS.ifNo X0.here hx rfl (hb hby d9_50) rfl ((if0 _ _).trans (tlt ((lw_gt _ _).mpr hc1152)).2.2.2) ?_
        refine XS.iload X0.here hx rfl (hb hby d9_53) rfl ?_
        refine XS.iconst X0.here hx rfl (hb hby d9_55) ?_
        refine XS.isub X0.here hx rfl (hb hby d9_56) rfl ?_
        refine XS.istore X0.here hx rfl (hb hby d9_57) rfl (l' := #[.val (.ref a1), .val (.int (0 : Int32)), .val (.int (3 : Int32)), .val (.long q4), .second, .val (.int (0 : Int32)), .val (.int (0 : Int32)), .val (.int (1 : Int32)), .val (.long x1), .second]) rfl ?_
        refine XS.goto X0.here hx rfl (pc0 := 59) (pc' := 65) rfl (hb hby d9_59) (by decide) (by decide) ?_
        refine XS.goto X0.here hx rfl (pc0 := 65) (pc' := 8) rfl (hb hby d9_65) (by decide) (by decide) ?_
        refine XS.iload X0.here hx rfl (hb hby d9_8) rfl ?_
        refine XS.iload X0.here hx rfl (hb hby d9_10) rfl ?_
        refine XS.icmpNo X0.here hx rfl (hb hby d9_12) rfl (flt (by decide : ¬ ((0 : Int32) < (0 : Int32)))).2.2.1 ?_
        refine XS.iload X0.here hx rfl (hb hby d9_15) rfl ?_
        refine XS.iload X0.here hx rfl (hb hby d9_17) rfl ?_
        show Steps p.tables e below (s₁.setTop (mkF m 19 #[.val (.ref a1), .val (.int (0 : Int32)), .val (.int (3 : Int32)), .val (.long q4), .second, .val (.int (0 : Int32)), .val (.int (0 : Int32)), .val (.int (1 : Int32)), .val (.long x1), .second] [(.int (0 : Int32)), (.int (0 : Int32))])) _
        refine XS.iadd X0.here hx rfl (hb hby d9_19) rfl ?_
        refine XS.iconst X0.here hx rfl (hb hby d9_20) ?_
        refine XS.iushr X0.here hx rfl (hb hby d9_21) rfl ?_
        refine XS.istore X0.here hx rfl (hb hby d9_22) rfl (l' := #[.val (.ref a1), .val (.int (0 : Int32)), .val (.int (3 : Int32)), .val (.long q4), .second, .val (.int (0 : Int32)), .val (.int (0 : Int32)), .val (.int (0 : Int32)), .val (.long x1), .second]) rfl ?_
        refine XS.aloadN X0.here hx rfl (hb hby d9_24) rfl rfl ?_
        refine XS.iload X0.here hx rfl (hb hby d9_25) rfl ?_
        refine X0.laload hx (j := (0 : Int32)) (v := (.long x0)) (by rw [e0]; exact A1153.1) (State.isArrayOf_alike hZ.alike A1153.2.1) A1153.2.2 hin1153 hat1153 (g := (mkF m 27 #[.val (.ref a1), .val (.int (0 : Int32)), .val (.int (3 : Int32)), .val (.long q4), .second, .val (.int (0 : Int32)), .val (.int (0 : Int32)), .val (.int (0 : Int32)), .val (.long x1), .second] [(.int (0 : Int32)), (.ref a1)])) rfl rfl (hb hby d9_27) _ ?_
        refine XS.lstore X0.here hx rfl (hb hby d9_28) rfl (l' := #[.val (.ref a1), .val (.int (0 : Int32)), .val (.int (3 : Int32)), .val (.long q4), .second, .val (.int (0 : Int32)), .val (.int (0 : Int32)), .val (.int (0 : Int32)), .val (.long x0), .second]) rfl ?_
        refine XS.lload X0.here hx rfl (hb hby d9_30) rfl ?_
        refine XS.lloadN X0.here hx rfl (hb hby d9_32) rfl ?_
        refine XS.lcmp X0.here hx rfl (hb hby d9_33) rfl ?_
        exact kt)
      by_cases hc1155 : x0 < q4
      case pos =>
        have pre1161 : ∀ t, Steps p.tables e below (s₁.setTop (mkF m 73 #[.val (.ref a1), .val (.int (0 : Int32)), .val (.int (3 : Int32)), .val (.long q4), .second, .val (.int (1 : Int32)), .val (.int (0 : Int32)), .val (.int (0 : Int32)), .val (.long x0), .second] [(.int (-2 : Int32))])) t → Steps p.tables e below (s₁.setTop (entryFrame m #[(.ref a1), (.int (0 : Int32)), (.int (3 : Int32)), (.long q4)] 10)) t := fun t kt => pre1154 t (by
          show Steps p.tables e below (s₁.setTop (mkF m 34 #[.val (.ref a1), .val (.int (0 : Int32)), .val (.int (3 : Int32)), .val (.long q4), .second, .val (.int (0 : Int32)), .val (.int (0 : Int32)), .val (.int (0 : Int32)), .val (.long x0), .second] [(.int (lcmpW x0 q4))])) _
          refine XS.ifNo X0.here hx rfl (hb hby d9_34) rfl ((if0 _ _).trans (tlt ((lw_lt _ _).mpr hc1155)).2.1) ?_
          refine XS.iload X0.here hx rfl (hb hby d9_37) rfl ?_
          refine XS.iconst X0.here hx rfl (hb hby d9_39) ?_
          refine XS.iadd X0.here hx rfl (hb hby d9_40) rfl ?_
          refine XS.istore X0.here hx rfl (hb hby d9_41) rfl (l' := #[.val (.ref a1), .val (.int (0 : Int32)), .val (.int (3 : Int32)), .val (.long q4), .second, .val (.int (1 : Int32)), .val (.int (0 : Int32)), .val (.int (0 : Int32)), .val (.long x0), .second]) rfl ?_
          refine XS.goto X0.here hx rfl (pc0 := 43) (pc' := 65) rfl (hb hby d9_43) (by decide) (by decide) ?_
          refine XS.goto X0.here hx rfl (pc0 := 65) (pc' := 8) rfl (hb hby d9_65) (by decide) (by decide) ?_
          refine XS.iload X0.here hx rfl (hb hby d9_8) rfl ?_
          refine XS.iload X0.here hx rfl (hb hby d9_10) rfl ?_
          refine XS.icmpYes X0.here hx rfl (pc0 := 12) (pc' := 68) rfl (hb hby d9_12) rfl (tlt (by decide : (0 : Int32) < (1 : Int32))).2.2.1 (by decide) (by decide) ?_
          refine XS.iload X0.here hx rfl (hb hby d9_68) rfl ?_
          refine XS.iconst X0.here hx rfl (hb hby d9_70) ?_
          show Steps p.tables e below (s₁.setTop (mkF m 71 #[.val (.ref a1), .val (.int (0 : Int32)), .val (.int (3 : Int32)), .val (.long q4), .second, .val (.int (1 : Int32)), .val (.int (0 : Int32)), .val (.int (0 : Int32)), .val (.long x0), .second] [(.int (1 : Int32)), (.int (1 : Int32))])) _
          refine XS.iadd X0.here hx rfl (hb hby d9_71) rfl ?_
          refine XS.ineg X0.here hx rfl (hb hby d9_72) rfl ?_
          exact kt)
        have ev : r = (-2 : Int32) := er.symm.trans (((if_neg hc1145).trans (if_pos hc1152)).trans (if_pos hc1155))
        exact own_retI X0 hx Bd.notSynchronized Bd.returns (hb hby d9_73) pre1161 (show QBs r h0 n0 _ _ _ from ⟨by rw [ev], N0, e0⟩) (by decide) (by decide)
      case neg =>
        have pre1156 : ∀ t, Steps p.tables e below (s₁.setTop (mkF m 50 #[.val (.ref a1), .val (.int (0 : Int32)), .val (.int (3 : Int32)), .val (.long q4), .second, .val (.int (0 : Int32)), .val (.int (0 : Int32)), .val (.int (0 : Int32)), .val (.long x0), .second] [(.int (lcmpW x0 q4))])) t → Steps p.tables e below (s₁.setTop (entryFrame m #[(.ref a1), (.int (0 : Int32)), (.int (3 : Int32)), (.long q4)] 10)) t := fun t kt => pre1154 t (by
          show Steps p.tables e below (s₁.setTop (mkF m 34 #[.val (.ref a1), .val (.int (0 : Int32)), .val (.int (3 : Int32)), .val (.long q4), .second, .val (.int (0 : Int32)), .val (.int (0 : Int32)), .val (.int (0 : Int32)), .val (.long x0), .second] [(.int (lcmpW x0 q4))])) _
          refine XS.ifYes X0.here hx rfl (pc0 := 34) (pc' := 46) rfl (hb hby d9_34) rfl ((if0 _ _).trans (flt (fun q => hc1155 ((lw_lt _ _).mp q))).2.1) (by decide) (by decide) ?_
          refine XS.lload X0.here hx rfl (hb hby d9_46) rfl ?_
          refine XS.lloadN X0.here hx rfl (hb hby d9_48) rfl ?_
          refine XS.lcmp X0.here hx rfl (hb hby d9_49) rfl ?_
          exact kt)
        by_cases hc1157 : q4 < x0
        case pos =>
          have pre1162 : ∀ t, Steps p.tables e below (s₁.setTop (mkF m 73 #[.val (.ref a1), .val (.int (0 : Int32)), .val (.int (3 : Int32)), .val (.long q4), .second, .val (.int (0 : Int32)), .val (.int (-1 : Int32)), .val (.int (0 : Int32)), .val (.long x0), .second] [(.int (-1 : Int32))])) t → Steps p.tables e below (s₁.setTop (entryFrame m #[(.ref a1), (.int (0 : Int32)), (.int (3 : Int32)), (.long q4)] 10)) t := fun t kt => pre1156 t (by
            show Steps p.tables e below (s₁.setTop (mkF m 50 #[.val (.ref a1), .val (.int (0 : Int32)), .val (.int (3 : Int32)), .val (.long q4), .second, .val (.int (0 : Int32)), .val (.int (0 : Int32)), .val (.int (0 : Int32)), .val (.long x0), .second] [(.int (lcmpW x0 q4))])) _
            refine XS.ifNo X0.here hx rfl (hb hby d9_50) rfl ((if0 _ _).trans (tlt ((lw_gt _ _).mpr hc1157)).2.2.2) ?_
            refine XS.iload X0.here hx rfl (hb hby d9_53) rfl ?_
            refine XS.iconst X0.here hx rfl (hb hby d9_55) ?_
            refine XS.isub X0.here hx rfl (hb hby d9_56) rfl ?_
            refine XS.istore X0.here hx rfl (hb hby d9_57) rfl (l' := #[.val (.ref a1), .val (.int (0 : Int32)), .val (.int (3 : Int32)), .val (.long q4), .second, .val (.int (0 : Int32)), .val (.int (-1 : Int32)), .val (.int (0 : Int32)), .val (.long x0), .second]) rfl ?_
            refine XS.goto X0.here hx rfl (pc0 := 59) (pc' := 65) rfl (hb hby d9_59) (by decide) (by decide) ?_
            refine XS.goto X0.here hx rfl (pc0 := 65) (pc' := 8) rfl (hb hby d9_65) (by decide) (by decide) ?_
            refine XS.iload X0.here hx rfl (hb hby d9_8) rfl ?_
            refine XS.iload X0.here hx rfl (hb hby d9_10) rfl ?_
            refine XS.icmpYes X0.here hx rfl (pc0 := 12) (pc' := 68) rfl (hb hby d9_12) rfl (tlt (by decide : (-1 : Int32) < (0 : Int32))).2.2.1 (by decide) (by decide) ?_
            refine XS.iload X0.here hx rfl (hb hby d9_68) rfl ?_
            refine XS.iconst X0.here hx rfl (hb hby d9_70) ?_
            show Steps p.tables e below (s₁.setTop (mkF m 71 #[.val (.ref a1), .val (.int (0 : Int32)), .val (.int (3 : Int32)), .val (.long q4), .second, .val (.int (0 : Int32)), .val (.int (-1 : Int32)), .val (.int (0 : Int32)), .val (.long x0), .second] [(.int (1 : Int32)), (.int (0 : Int32))])) _
            refine XS.iadd X0.here hx rfl (hb hby d9_71) rfl ?_
            refine XS.ineg X0.here hx rfl (hb hby d9_72) rfl ?_
            exact kt)
          have ev : r = (-1 : Int32) := er.symm.trans ((((if_neg hc1145).trans (if_pos hc1152)).trans (if_neg hc1155)).trans (if_pos hc1157))
          exact own_retI X0 hx Bd.notSynchronized Bd.returns (hb hby d9_73) pre1162 (show QBs r h0 n0 _ _ _ from ⟨by rw [ev], N0, e0⟩) (by decide) (by decide)
        case neg =>
          have pre1163 : ∀ t, Steps p.tables e below (s₁.setTop (mkF m 64 #[.val (.ref a1), .val (.int (0 : Int32)), .val (.int (3 : Int32)), .val (.long q4), .second, .val (.int (0 : Int32)), .val (.int (0 : Int32)), .val (.int (0 : Int32)), .val (.long x0), .second] [(.int (0 : Int32))])) t → Steps p.tables e below (s₁.setTop (entryFrame m #[(.ref a1), (.int (0 : Int32)), (.int (3 : Int32)), (.long q4)] 10)) t := fun t kt => pre1156 t (by
            show Steps p.tables e below (s₁.setTop (mkF m 50 #[.val (.ref a1), .val (.int (0 : Int32)), .val (.int (3 : Int32)), .val (.long q4), .second, .val (.int (0 : Int32)), .val (.int (0 : Int32)), .val (.int (0 : Int32)), .val (.long x0), .second] [(.int (lcmpW x0 q4))])) _
            refine XS.ifYes X0.here hx rfl (pc0 := 50) (pc' := 62) rfl (hb hby d9_50) rfl ((if0 _ _).trans (flt (fun q => hc1157 ((lw_gt _ _).mp q))).2.2.2) (by decide) (by decide) ?_
            refine XS.iload X0.here hx rfl (hb hby d9_62) rfl ?_
            exact kt)
          have ev : r = (0 : Int32) := er.symm.trans ((((if_neg hc1145).trans (if_pos hc1152)).trans (if_neg hc1155)).trans (if_neg hc1157))
          exact own_retI X0 hx Bd.notSynchronized Bd.returns (hb hby d9_64) pre1163 (show QBs r h0 n0 _ _ _ from ⟨by rw [ev], N0, e0⟩) (by decide) (by decide)
    case neg =>
      have pre1164 : ∀ t, Steps p.tables e below (s₁.setTop (mkF m 64 #[.val (.ref a1), .val (.int (0 : Int32)), .val (.int (3 : Int32)), .val (.long q4), .second, .val (.int (0 : Int32)), .val (.int (2 : Int32)), .val (.int (1 : Int32)), .val (.long x1), .second] [(.int (1 : Int32))])) t → Steps p.tables e below (s₁.setTop (entryFrame m #[(.ref a1), (.int (0 : Int32)), (.int (3 : Int32)), (.long q4)] 10)) t := fun t kt => pre1151 t (by
        show Steps p.tables e below (s₁.setTop (mkF m 50 #[.val (.ref a1), .val (.int (0 : Int32)), .val (.int (3 : Int32)), .val (.long q4), .second, .val (.int (0 : Int32)), .val (.int (2 : Int32)), .val (.int (1 : Int32)), .val (.long x1), .second] [(.int (lcmpW x1 q4))])) _
        refine XS.ifYes X0.here hx rfl (pc0 := 50) (pc' := 62) rfl (hb hby d9_50) rfl ((if0 _ _).trans (flt (fun q => hc1152 ((lw_gt _ _).mp q))).2.2.2) (by decide) (by decide) ?_
        refine XS.iload X0.here hx rfl (hb hby d9_62) rfl ?_
        exact kt)
      have ev : r = (1 : Int32) := er.symm.trans ((if_neg hc1145).trans (if_neg hc1152))
      exact own_retI X0 hx Bd.notSynchronized Bd.returns (hb hby d9_64) pre1164 (show QBs r h0 n0 _ _ _ from ⟨by rw [ev], N0, e0⟩) (by decide) (by decide)
set_option maxRecDepth 65536 in
set_option maxHeartbeats 40000000 in
theorem rmRcBs034 (l : Launch) (Z : State) (a0 : Array Value) (hw : ∀ d ∈ tables_1, d.before a0 Z = true) (ws : List Jvm.Cond)  (h0 : Heap) (n0 : Nat) (Z0 : n0 ≤ h0.size) :
    MetFree l own_y_188 (head1 (Jvm.Cond.code own_y_188 jdk_65_method_30_code 3 none :: ws) ({ frames := 0, cells := 0, slots := 0, locals := 0 } : Room)) (fun a U => a = #[(.int (4 : Int32)), (.int (0 : Int32)), (.int (3 : Int32))] ∧ Z.Warmed39 U.vm ∧ U.heap = h0) (fun _ _ _ _ _ => True) (fun _ U o U' => ∃ v L, o = .returned v ∧ QRc h0 n0 v U'.heap L ∧ FrameEnd U o U' L ({ frames := 0, cells := 0, slots := 0, locals := 0 } : Room).cells ({ frames := 0, cells := 0, slots := 0, locals := 0 } : Room).slots) := by
  refine MetFree.of_bodySF (plainFor_of_name pn_187) hisR ?_
  intro p e s m args below meth c s₁ Bd hml0 hP hK
  obtain ⟨rfl, hZ, hh⟩ := hP
  have hx := Bd.exec
  have hby := Bd.bytes
  have hml : c.maxLocals = 3 := hml0
  have hown : s.vm.findClass "java/util/Arrays" = some m.cls := findClass_of_methodNamed Bd.named
  have hnm := (name_of_methodNamed Bd.named Bd.method).1
  have X0 : Stand p l e ({ frames := 0, cells := 0, slots := 0, locals := 0 } : Room) s m #[(.int (4 : Int32)), (.int (0 : Int32)), (.int (3 : Int32))] below meth c s₁ [] 0 0 := Stand.of_body Bd
  have e0 : s₁.heap = h0 := by rw [← hh, Bd.state]; rfl
  have N0 := Fr.nil n0
  have pre0 : ∀ t, Steps p.tables e below (s₁.setTop (mkF m 0 #[.val (.int (4 : Int32)), .val (.int (0 : Int32)), .val (.int (3 : Int32))] [])) t → Steps p.tables e below (s₁.setTop (entryFrame m #[(.int (4 : Int32)), (.int (0 : Int32)), (.int (3 : Int32))] 3)) t := fun t k => castTop (ef_189 m (4 : Int32) (0 : Int32) (3 : Int32)) k
  have pre1165 : ∀ t, Steps p.tables e below (s₁.setTop (mkF m 73 #[.val (.int (4 : Int32)), .val (.int (0 : Int32)), .val (.int (3 : Int32))] [])) t → Steps p.tables e below (s₁.setTop (entryFrame m #[(.int (4 : Int32)), (.int (0 : Int32)), (.int (3 : Int32))] 3)) t := fun t kt => pre0 t (by
    show Steps p.tables e below (s₁.setTop (mkF m 0 #[.val (.int (4 : Int32)), .val (.int (0 : Int32)), .val (.int (3 : Int32))] [])) _
    refine XS.iloadN X0.here hx rfl (hb hby d8_0) rfl ?_
    refine XS.iloadN X0.here hx rfl (hb hby d8_1) rfl ?_
    refine XS.icmpYes X0.here hx rfl (pc0 := 2) (pc' := 46) rfl (hb hby d8_2) rfl (flt (by decide : ¬ ((3 : Int32) < (0 : Int32)))).2.2.2 (by decide) (by decide) ?_
    refine XS.iloadN X0.here hx rfl (hb hby d8_46) rfl ?_
    refine XS.ifYes X0.here hx rfl (pc0 := 47) (pc' := 59) rfl (hb hby d8_47) rfl ((if0 _ _).trans (flt (by decide : ¬ ((0 : Int32) < (0 : Int32)))).2.1) (by decide) (by decide) ?_
    refine XS.iloadN X0.here hx rfl (hb hby d8_59) rfl ?_
    refine XS.iloadN X0.here hx rfl (hb hby d8_60) rfl ?_
    refine XS.icmpYes X0.here hx rfl (pc0 := 61) (pc' := 73) rfl (hb hby d8_61) rfl (flt (by decide : ¬ ((4 : Int32) < (3 : Int32)))).2.2.2 (by decide) (by decide) ?_
    exact kt)
  exact own_retV X0 hx Bd.notSynchronized Bd.returns (hb hby d8_73) pre1165 (show QRc h0 n0 _ _ _ from ⟨rfl, N0, e0⟩) (by decide) (by decide)
set_option maxRecDepth 65536 in
set_option maxHeartbeats 40000000 in
theorem rmSBs034 (l : Launch) (Z : State) (a0 : Array Value) (hw : ∀ d ∈ tables_1, d.before a0 Z = true) (ws : List Jvm.Cond) (a1 : Addr) (q4 : Int64) (k0 : ClassId) (x0 : Int64) (x1 : Int64) (x2 : Int64) (x3 : Int64) (r : Int32) (h0 : Heap) (n0 : Nat) (Z0 : n0 ≤ h0.size) (V0 : Arv Z h0 a1 k0 .long (4 : Int32) [(.long x0), (.long x1), (.long x2), (.long x3)] (.long (0 : Int64))) (er : (if x1 < q4 then (if x2 < q4 then (-4 : Int32) else (if q4 < x2 then (-3 : Int32) else (2 : Int32))) else (if q4 < x1 then (if x0 < q4 then (-2 : Int32) else (if q4 < x0 then (-1 : Int32) else (0 : Int32))) else (1 : Int32))) = r) :
    MetFree l own_y_199 (head1 (Jvm.Cond.code own_y_199 jdk_65_method_55_code 5 (some .int) :: ws) ({ frames := 1, cells := 0, slots := 0, locals := 21 } : Room)) (fun a U => a = #[(.ref a1), (.int (0 : Int32)), (.int (3 : Int32)), (.long q4)] ∧ Z.Warmed39 U.vm ∧ U.heap = h0) (fun _ _ _ _ _ => True) (fun _ U o U' => ∃ v L, o = .returned v ∧ QBs r h0 n0 v U'.heap L ∧ FrameEnd U o U' L ({ frames := 1, cells := 0, slots := 0, locals := 21 } : Room).cells ({ frames := 1, cells := 0, slots := 0, locals := 21 } : Room).slots) := by
  refine MetFree.of_bodySF (plainFor_of_name pn_187) hisR ?_
  intro p e s m args below meth c s₁ Bd hml0 hP hK
  obtain ⟨rfl, hZ, hh⟩ := hP
  have hx := Bd.exec
  have hby := Bd.bytes
  have hml : c.maxLocals = 5 := hml0
  have hown : s.vm.findClass "java/util/Arrays" = some m.cls := findClass_of_methodNamed Bd.named
  have hnm := (name_of_methodNamed Bd.named Bd.method).1
  have X0 : Stand p l e ({ frames := 1, cells := 0, slots := 0, locals := 21 } : Room) s m #[(.ref a1), (.int (0 : Int32)), (.int (3 : Int32)), (.long q4)] below meth c s₁ [] 0 0 := Stand.of_body Bd
  have e0 : s₁.heap = h0 := by rw [← hh, Bd.state]; rfl
  have N0 := Fr.nil n0
  have pre0 : ∀ t, Steps p.tables e below (s₁.setTop (mkF m 0 #[.val (.ref a1), .val (.int (0 : Int32)), .val (.int (3 : Int32)), .val (.long q4), .second] [])) t → Steps p.tables e below (s₁.setTop (entryFrame m #[(.ref a1), (.int (0 : Int32)), (.int (3 : Int32)), (.long q4)] 5)) t := fun t k => castTop (ef_200 m a1 (0 : Int32) (3 : Int32) q4) k
  obtain ⟨cl1166, A1166, q1166, S1166, M1166, H1166, J1166⟩ := id V0
  obtain ⟨_, _, ⟨T1167, L1167, k1167, n1167⟩, -, X1167, ⟨Lc1167, hQ1167, l1167, y1167, z1167⟩, st1167⟩ := Jvm.LawKit.callS X0 hx (y := own_y_188) hown (mvT hZ (own_w hw 49 rfl)) (mvT hZ (own_w hw 50 rfl)) (mvT hZ (own_w hw 47 rfl)) (mvT hZ (own_w hw 51 rfl)) (by decide) (backOf (W := 0) (rmRcBs034 l Z a0 hw [] h0 n0 Z0) hZ (own_w hw 51 rfl) (own_w hw 47 rfl) (by decide) (by decide)) (g := (mkF m 4 #[.val (.ref a1), .val (.int (0 : Int32)), .val (.int (3 : Int32)), .val (.long q4), .second] [(.int (3 : Int32)), (.int (0 : Int32)), (.int (4 : Int32))])) rfl (by rw [hml]; rfl) (argsL := [(.int (4 : Int32)), (.int (0 : Int32)), (.int (3 : Int32))]) (rest := []) (lenOf pd_206 rfl) rfl (by show 2 * 0 + _ ≤ _; exact Nat.le_of_eq rfl) (hb hby d7_4) (fun _ _ => ⟨rfl, e0, (by decide : 0 + 0 ≤ _), (by decide : 0 + 0 ≤ _)⟩)
  dsimp only [Pt.U, Pt.locs, Pt.cells, Pt.slots] at X1167 l1167 y1167 z1167 st1167 hQ1167
  subst l1167 y1167 z1167
  obtain ⟨rfl, Nq1167, e1167⟩ := hQ1167
  have N1167 := Fr.app N0 Nq1167
  obtain ⟨_, _, ⟨T1168, L1168, k1168, n1168⟩, -, X1168, ⟨Lc1168, hQ1168, l1168, y1168, z1168⟩, st1168⟩ := Jvm.LawKit.callS X1167 hx (y := own_y_185) hown (mvT hZ (own_w hw 52 rfl)) (mvT hZ (own_w hw 53 rfl)) (mvT hZ (own_w hw 47 rfl)) (mvT hZ (own_w hw 54 rfl)) (by decide) (backOf (W := 0) (rmBs034 l Z a0 hw [] a1 q4 k0 x0 x1 x2 x3 r h0 n0 Z0 V0 er) hZ (own_w hw 54 rfl) (own_w hw 47 rfl) (by decide) (by decide)) (g := (mkF m 11 #[.val (.ref a1), .val (.int (0 : Int32)), .val (.int (3 : Int32)), .val (.long q4), .second] [(.long q4), (.int (3 : Int32)), (.int (0 : Int32)), (.ref a1)])) rfl (by rw [hml]; rfl) (argsL := [(.ref a1), (.int (0 : Int32)), (.int (3 : Int32)), (.long q4)]) (rest := []) (lenOf pd_212 rfl) rfl (by show 2 * 0 + _ ≤ _; exact Nat.le_of_eq rfl) (hb hby d7_11) (fun _ _ => ⟨rfl, e1167, (by decide : 0 + 0 ≤ _), (by decide : 0 + 0 ≤ _)⟩)
  dsimp only [Pt.U, Pt.locs, Pt.cells, Pt.slots] at X1168 l1168 y1168 z1168 st1168 hQ1168
  subst l1168 y1168 z1168
  obtain ⟨rfl, Nq1168, e1168⟩ := hQ1168
  have N1168 := Fr.app N1167 Nq1168
  have pre1169 : ∀ t, Steps p.tables e below (T1168.setTop (mkF m 14 #[.val (.ref a1), .val (.int (0 : Int32)), .val (.int (3 : Int32)), .val (.long q4), .second] [(.int r)])) t → Steps p.tables e below (s₁.setTop (entryFrame m #[(.ref a1), (.int (0 : Int32)), (.int (3 : Int32)), (.long q4)] 5)) t := fun t kt => pre0 t (by
    show Steps p.tables e below (s₁.setTop (mkF m 0 #[.val (.ref a1), .val (.int (0 : Int32)), .val (.int (3 : Int32)), .val (.long q4), .second] [])) _
    refine XS.aloadN X0.here hx rfl (hb hby d7_0) rfl rfl ?_
    refine X0.arraylength hx (by rw [e0]; exact A1166.1) (State.isArrayOf_alike hZ.alike A1166.2.1) (g := (mkF m 1 #[.val (.ref a1), .val (.int (0 : Int32)), .val (.int (3 : Int32)), .val (.long q4), .second] [(.ref a1)])) rfl rfl (hb hby d7_1) _ ?_
    rw [len_of S1166 M1166]
    refine XS.iloadN X0.here hx rfl (hb hby d7_2) rfl ?_
    refine XS.iloadN X0.here hx rfl (hb hby d7_3) rfl ?_
    refine st1167 _ ?_
    refine XS.aloadN X1167.here hx rfl (hb hby d7_7) rfl rfl ?_
    refine XS.iloadN X1167.here hx rfl (hb hby d7_8) rfl ?_
    refine XS.iloadN X1167.here hx rfl (hb hby d7_9) rfl ?_
    refine XS.lloadN X1167.here hx rfl (hb hby d7_10) rfl ?_
    refine st1168 _ ?_
    exact kt)
  exact own_retI X1168 hx Bd.notSynchronized Bd.returns (hb hby d7_14) pre1169 (show QBs r h0 n0 _ _ _ from ⟨rfl, N1168, e1168⟩) (by decide) (by decide)
set_option maxRecDepth 65536 in
set_option maxHeartbeats 40000000 in
theorem rmGn034 (l : Launch) (Z : State) (a0 : Array Value) (hw : ∀ d ∈ tables_1, d.before a0 Z = true) (ws : List Jvm.Cond) (a1 : Addr) (q2 : Int64) (x0 : Int64) (x1 : Int64) (x2 : Int64) (x3 : Int64) (y0 : Int32) (y1 : Int32) (y2 : Int32) (y3 : Int32) (b : Int32) (h0 : Heap) (n0 : Nat) (Z0 : n0 ≤ h0.size) (P0 : PT Z h0 n0 a1 (0 : Int32) (3 : Int32) (4 : Int32) [(.long x0), (.long x1), (.long x2), (.long x3)] [(.int y0), (.int y1), (.int y2), (.int y3)] b) (hs0 : x0 < x1) (hs1 : x1 < x2) :
    MetFree l own_y_46 (head1 (Jvm.Cond.code own_y_46 prog_25_method_3_code 6 (some .int) :: ws) ({ frames := 2, cells := 0, slots := 0, locals := 60 } : Room)) (fun a U => a = #[(.ref a1), (.long q2)] ∧ Z.Warmed39 U.vm ∧ U.heap = h0) (fun _ _ _ _ _ => True) (fun _ U o U' => ∃ v L, o = .returned v ∧ QRi (y2 - (if x2 < q2 then y2 else (if x1 < q2 then y1 else (if x0 < q2 then y0 else b)))) h0 n0 v U'.heap L ∧ FrameEnd U o U' L ({ frames := 2, cells := 0, slots := 0, locals := 60 } : Room).cells ({ frames := 2, cells := 0, slots := 0, locals := 60 } : Room).slots) := by
  refine MetFree.of_bodySF (plainFor_of_name pn_2) hisR ?_
  intro p e s m args below meth c s₁ Bd hml0 hP hK
  obtain ⟨rfl, hZ, hh⟩ := hP
  have hx := Bd.exec
  have hby := Bd.bytes
  have hml : c.maxLocals = 6 := hml0
  have hown : s.vm.findClass "com/example/viral_counter/viralcounter/PostTrend" = some m.cls := findClass_of_methodNamed Bd.named
  have hnm := (name_of_methodNamed Bd.named Bd.method).1
  have X0 : Stand p l e ({ frames := 2, cells := 0, slots := 0, locals := 60 } : Room) s m #[(.ref a1), (.long q2)] below meth c s₁ [] 0 0 := Stand.of_body Bd
  have e0 : s₁.heap = h0 := by rw [← hh, Bd.state]; rfl
  have N0 := Fr.nil n0
  have pre0 : ∀ t, Steps p.tables e below (s₁.setTop (mkF m 0 #[.val (.ref a1), .val (.long q2), .second, .unset, .unset, .unset] [])) t → Steps p.tables e below (s₁.setTop (entryFrame m #[(.ref a1), (.long q2)] 6)) t := fun t k => castTop (ef_47 m a1 q2) k
  obtain ⟨am1170, ac1170, km1170, kc1170, E1170, Fm1170, Fc1170, Ff1170, Fe1170, Fb1170, Vm1170, Vc1170, Ga1170, Gm1170, Gc1170, n11170, n21170, n31170⟩ := id P0
  obtain ⟨T1171, X1171, e1171, st1171⟩ := getF X0 hx hZ hown (host := "") (Or.inl (own_w hw 23 rfl)) Via.refl e0 Ff1170 (g := (mkF m 1 #[.val (.ref a1), .val (.long q2), .second, .unset, .unset, .unset] [(.ref a1)])) rfl rfl (hb hby d6_1)
  obtain ⟨T1172, X1172, e1172, st1172⟩ := getF X1171 hx hZ hown (host := "") (Or.inl (own_w hw 25 rfl)) Via.refl e1171 Fe1170 (g := (mkF m 5 #[.val (.ref a1), .val (.long q2), .second, .unset, .unset, .unset] [(.ref a1), (.int (0 : Int32))])) rfl rfl (hb hby d6_5)
  obtain ⟨T1173, X1173, e1173, st1173⟩ := getF X1172 hx hZ hown (host := "") (Or.inl (own_w hw 13 rfl)) Via.refl e1172 Fm1170 (g := (mkF m 14 #[.val (.ref a1), .val (.long q2), .second, .unset, .unset, .unset] [(.ref a1)])) rfl rfl (hb hby d6_14)
  obtain ⟨T1174, X1174, e1174, st1174⟩ := getF X1173 hx hZ hown (host := "") (Or.inl (own_w hw 23 rfl)) Via.refl e1173 Ff1170 (g := (mkF m 18 #[.val (.ref a1), .val (.long q2), .second, .unset, .unset, .unset] [(.ref a1), (.ref am1170)])) rfl rfl (hb hby d6_18)
  obtain ⟨T1175, X1175, e1175, st1175⟩ := getF X1174 hx hZ hown (host := "") (Or.inl (own_w hw 25 rfl)) Via.refl e1174 Fe1170 (g := (mkF m 22 #[.val (.ref a1), .val (.long q2), .second, .unset, .unset, .unset] [(.ref a1), (.int (0 : Int32)), (.ref am1170)])) rfl rfl (hb hby d6_22)
  have pre1176 : ∀ t, Steps p.tables e below (T1175.setTop (mkF m 26 #[.val (.ref a1), .val (.long q2), .second, .unset, .unset, .unset] [(.long q2), (.int (3 : Int32)), (.int (0 : Int32)), (.ref am1170)])) t → Steps p.tables e below (s₁.setTop (entryFrame m #[(.ref a1), (.long q2)] 6)) t := fun t kt => pre0 t (by
    show Steps p.tables e below (s₁.setTop (mkF m 0 #[.val (.ref a1), .val (.long q2), .second, .unset, .unset, .unset] [])) _
    refine XS.aloadN X0.here hx rfl (hb hby d6_0) rfl rfl ?_
    refine st1171 _ ?_
    refine XS.aloadN X1171.here hx rfl (hb hby d6_4) rfl rfl ?_
    refine st1172 _ ?_
    refine XS.icmpYes X1172.here hx rfl (pc0 := 8) (pc' := 13) rfl (hb hby d6_8) rfl (feq (by decide : ¬ ((0 : Int32) = (3 : Int32)))).2 (by decide) (by decide) ?_
    refine XS.aloadN X1172.here hx rfl (hb hby d6_13) rfl rfl ?_
    refine st1173 _ ?_
    refine XS.aloadN X1173.here hx rfl (hb hby d6_17) rfl rfl ?_
    refine st1174 _ ?_
    refine XS.aloadN X1174.here hx rfl (hb hby d6_21) rfl rfl ?_
    refine st1175 _ ?_
    refine XS.lloadN X1175.here hx rfl (hb hby d6_25) rfl ?_
    exact kt)
  by_cases hc1177 : x1 < q2
  case pos =>
    by_cases hc1178 : x2 < q2
    case pos =>
      obtain ⟨_, _, ⟨T1179, L1179, k1179, n1179⟩, -, X1179, ⟨Lc1179, hQ1179, l1179, y1179, z1179⟩, st1179⟩ := Jvm.LawKit.callS X1175 hx (y := own_y_199) hown (mvT hZ (own_w hw 45 rfl)) (mvT hZ (own_w hw 46 rfl)) (mvT hZ (own_w hw 47 rfl)) (mvT hZ (own_w hw 48 rfl)) (by decide) (backOf (W := 0) (rmSBs034 l Z a0 hw [] am1170 q2 km1170 x0 x1 x2 x3 (-4 : Int32) h0 n0 Z0 Vm1170 ((if_pos hc1177).trans (if_pos hc1178))) hZ (own_w hw 48 rfl) (own_w hw 47 rfl) (by decide) (by decide)) (g := (mkF m 26 #[.val (.ref a1), .val (.long q2), .second, .unset, .unset, .unset] [(.long q2), (.int (3 : Int32)), (.int (0 : Int32)), (.ref am1170)])) rfl (by rw [hml]; rfl) (argsL := [(.ref am1170), (.int (0 : Int32)), (.int (3 : Int32)), (.long q2)]) (rest := []) (lenOf pd_212 rfl) rfl (by show 2 * 0 + _ ≤ _; exact Nat.le_of_eq rfl) (hb hby d6_26) (fun _ _ => ⟨rfl, e1175, (by decide : 0 + 0 ≤ _), (by decide : 0 + 0 ≤ _)⟩)
      dsimp only [Pt.U, Pt.locs, Pt.cells, Pt.slots] at X1179 l1179 y1179 z1179 st1179 hQ1179
      subst l1179 y1179 z1179
      obtain ⟨rfl, Nq1179, e1179⟩ := hQ1179
      have N1179 := Fr.app N0 Nq1179
      obtain ⟨T1180, X1180, e1180, st1180⟩ := getF X1179 hx hZ hown (host := "") (Or.inl (own_w hw 23 rfl)) Via.refl e1179 Ff1170 (g := (mkF m 49 #[.val (.ref a1), .val (.long q2), .second, .val (.int (-4 : Int32)), .val (.int (2 : Int32)), .unset] [(.ref a1), (.int (2 : Int32))])) rfl rfl (hb hby d6_49)
      obtain ⟨T1181, X1181, e1181, st1181⟩ := getF X1180 hx hZ hown (host := "") (Or.inl (own_w hw 16 rfl)) Via.refl e1180 Fc1170 (g := (mkF m 63 #[.val (.ref a1), .val (.long q2), .second, .val (.int (-4 : Int32)), .val (.int (2 : Int32)), .unset] [(.ref a1)])) rfl rfl (hb hby d6_63)
      obtain ⟨cl1182, A1182, q1182, S1182, M1182, H1182, J1182⟩ := id Vc1170
      have hin1182 : ¬ ((2 : Int32) < 0 ∨ cl1182.slots.size ≤ ((2 : Int32)).toNatClampNeg) := inb_of S1182 ⟨by decide, by decide⟩
      have hat1182 : cl1182.slots[((2 : Int32)).toNatClampNeg]? = some (.int y2) := H1182.at hin1182 rfl
      obtain ⟨T1183, X1183, e1183, st1183⟩ := getF X1181 hx hZ hown (host := "") (Or.inl (own_w hw 16 rfl)) Via.refl e1181 Fc1170 (g := (mkF m 72 #[.val (.ref a1), .val (.long q2), .second, .val (.int (-4 : Int32)), .val (.int (2 : Int32)), .val (.int y2)] [(.ref a1)])) rfl rfl (hb hby d6_72)
      obtain ⟨T1184, X1184, e1184, st1184⟩ := getF X1183 hx hZ hown (host := "") (Or.inl (own_w hw 25 rfl)) Via.refl e1183 Fe1170 (g := (mkF m 76 #[.val (.ref a1), .val (.long q2), .second, .val (.int (-4 : Int32)), .val (.int (2 : Int32)), .val (.int y2)] [(.ref a1), (.ref ac1170)])) rfl rfl (hb hby d6_76)
      obtain ⟨cl1185, A1185, q1185, S1185, M1185, H1185, J1185⟩ := id Vc1170
      have hin1185 : ¬ ((2 : Int32) < 0 ∨ cl1185.slots.size ≤ ((2 : Int32)).toNatClampNeg) := inb_of S1185 ⟨by decide, by decide⟩
      have hat1185 : cl1185.slots[((2 : Int32)).toNatClampNeg]? = some (.int y2) := H1185.at hin1185 rfl
      have pre1186 : ∀ t, Steps p.tables e below (T1184.setTop (mkF m 85 #[.val (.ref a1), .val (.long q2), .second, .val (.int (-4 : Int32)), .val (.int (2 : Int32)), .val (.int y2)] [(.int (y2 - y2))])) t → Steps p.tables e below (s₁.setTop (entryFrame m #[(.ref a1), (.long q2)] 6)) t := fun t kt => pre1176 t (by
        show Steps p.tables e below (T1175.setTop (mkF m 26 #[.val (.ref a1), .val (.long q2), .second, .unset, .unset, .unset] [(.long q2), (.int (3 : Int32)), (.int (0 : Int32)), (.ref am1170)])) _
        refine st1179 _ ?_
        refine XS.istoreN X1179.here hx rfl (hb hby d6_29) rfl (l' := #[.val (.ref a1), .val (.long q2), .second, .val (.int (-4 : Int32)), .unset, .unset]) rfl ?_
        refine XS.iloadN X1179.here hx rfl (hb hby d6_30) rfl ?_
        refine XS.ifYes X1179.here hx rfl (pc0 := 31) (pc' := 38) rfl (hb hby d6_31) rfl ((if0 _ _).trans (tlt (by decide : (-4 : Int32) < (0 : Int32))).1) (by decide) (by decide) ?_
        refine XS.iloadN X1179.here hx rfl (hb hby d6_38) rfl ?_
        refine XS.ineg X1179.here hx rfl (hb hby d6_39) rfl ?_
        refine XS.iconst X1179.here hx rfl (hb hby d6_40) ?_
        refine XS.isub X1179.here hx rfl (hb hby d6_41) rfl ?_
        refine XS.iconst X1179.here hx rfl (hb hby d6_42) ?_
        refine XS.isub X1179.here hx rfl (hb hby d6_43) rfl ?_
        refine XS.istore X1179.here hx rfl (hb hby d6_44) rfl (l' := #[.val (.ref a1), .val (.long q2), .second, .val (.int (-4 : Int32)), .val (.int (2 : Int32)), .unset]) rfl ?_
        refine XS.iload X1179.here hx rfl (hb hby d6_46) rfl ?_
        show Steps p.tables e below (T1179.setTop (mkF m 48 #[.val (.ref a1), .val (.long q2), .second, .val (.int (-4 : Int32)), .val (.int (2 : Int32)), .unset] [(.int (2 : Int32))])) _
        refine XS.aloadN X1179.here hx rfl (hb hby d6_48) rfl rfl ?_
        refine st1180 _ ?_
        refine XS.icmpYes X1180.here hx rfl (pc0 := 52) (pc' := 62) rfl (hb hby d6_52) rfl (flt (by decide : ¬ ((2 : Int32) < (0 : Int32)))).2.1 (by decide) (by decide) ?_
        refine XS.aloadN X1180.here hx rfl (hb hby d6_62) rfl rfl ?_
        refine st1181 _ ?_
        refine XS.iload X1181.here hx rfl (hb hby d6_66) rfl ?_
        refine X1181.iaload hx (j := (2 : Int32)) (v := (.int y2)) (by rw [e1181]; exact A1182.1) (State.isArrayOf_alike hZ.alike A1182.2.1) A1182.2.2 hin1182 hat1182 (g := (mkF m 68 #[.val (.ref a1), .val (.long q2), .second, .val (.int (-4 : Int32)), .val (.int (2 : Int32)), .unset] [(.int (2 : Int32)), (.ref ac1170)])) rfl rfl (hb hby d6_68) _ ?_
        refine XS.istore X1181.here hx rfl (hb hby d6_69) rfl (l' := #[.val (.ref a1), .val (.long q2), .second, .val (.int (-4 : Int32)), .val (.int (2 : Int32)), .val (.int y2)]) rfl ?_
        refine XS.aloadN X1181.here hx rfl (hb hby d6_71) rfl rfl ?_
        refine st1183 _ ?_
        refine XS.aloadN X1183.here hx rfl (hb hby d6_75) rfl rfl ?_
        refine st1184 _ ?_
        show Steps p.tables e below (T1184.setTop (mkF m 79 #[.val (.ref a1), .val (.long q2), .second, .val (.int (-4 : Int32)), .val (.int (2 : Int32)), .val (.int y2)] [(.int (3 : Int32)), (.ref ac1170)])) _
        refine XS.iconst X1184.here hx rfl (hb hby d6_79) ?_
        refine XS.isub X1184.here hx rfl (hb hby d6_80) rfl ?_
        refine X1184.iaload hx (j := (2 : Int32)) (v := (.int y2)) (by rw [e1184]; exact A1185.1) (State.isArrayOf_alike hZ.alike A1185.2.1) A1185.2.2 hin1185 hat1185 (g := (mkF m 81 #[.val (.ref a1), .val (.long q2), .second, .val (.int (-4 : Int32)), .val (.int (2 : Int32)), .val (.int y2)] [(.int (2 : Int32)), (.ref ac1170)])) rfl rfl (hb hby d6_81) _ ?_
        refine XS.iload X1184.here hx rfl (hb hby d6_82) rfl ?_
        refine XS.isub X1184.here hx rfl (hb hby d6_84) rfl ?_
        exact kt)
      have lt1187 : x2 < q2 := by
        rw [Int64.lt_iff_toInt_lt] at hs0 hs1 hc1177 hc1178 ⊢
        omega
      have ev : (y2 - (if x2 < q2 then y2 else (if x1 < q2 then y1 else (if x0 < q2 then y0 else b)))) = (y2 - y2) := congrArg (fun z => y2 - z) (if_pos lt1187)
      exact own_retI X1184 hx Bd.notSynchronized Bd.returns (hb hby d6_85) pre1186 (show QRi (y2 - (if x2 < q2 then y2 else (if x1 < q2 then y1 else (if x0 < q2 then y0 else b)))) h0 n0 _ _ _ from ⟨by rw [ev], N1179, e1184⟩) (by decide) (by decide)
    case neg =>
      by_cases hc1188 : q2 < x2
      case pos =>
        obtain ⟨_, _, ⟨T1189, L1189, k1189, n1189⟩, -, X1189, ⟨Lc1189, hQ1189, l1189, y1189, z1189⟩, st1189⟩ := Jvm.LawKit.callS X1175 hx (y := own_y_199) hown (mvT hZ (own_w hw 45 rfl)) (mvT hZ (own_w hw 46 rfl)) (mvT hZ (own_w hw 47 rfl)) (mvT hZ (own_w hw 48 rfl)) (by decide) (backOf (W := 0) (rmSBs034 l Z a0 hw [] am1170 q2 km1170 x0 x1 x2 x3 (-3 : Int32) h0 n0 Z0 Vm1170 (((if_pos hc1177).trans (if_neg hc1178)).trans (if_pos hc1188))) hZ (own_w hw 48 rfl) (own_w hw 47 rfl) (by decide) (by decide)) (g := (mkF m 26 #[.val (.ref a1), .val (.long q2), .second, .unset, .unset, .unset] [(.long q2), (.int (3 : Int32)), (.int (0 : Int32)), (.ref am1170)])) rfl (by rw [hml]; rfl) (argsL := [(.ref am1170), (.int (0 : Int32)), (.int (3 : Int32)), (.long q2)]) (rest := []) (lenOf pd_212 rfl) rfl (by show 2 * 0 + _ ≤ _; exact Nat.le_of_eq rfl) (hb hby d6_26) (fun _ _ => ⟨rfl, e1175, (by decide : 0 + 0 ≤ _), (by decide : 0 + 0 ≤ _)⟩)
        dsimp only [Pt.U, Pt.locs, Pt.cells, Pt.slots] at X1189 l1189 y1189 z1189 st1189 hQ1189
        subst l1189 y1189 z1189
        obtain ⟨rfl, Nq1189, e1189⟩ := hQ1189
        have N1189 := Fr.app N0 Nq1189
        obtain ⟨T1190, X1190, e1190, st1190⟩ := getF X1189 hx hZ hown (host := "") (Or.inl (own_w hw 23 rfl)) Via.refl e1189 Ff1170 (g := (mkF m 49 #[.val (.ref a1), .val (.long q2), .second, .val (.int (-3 : Int32)), .val (.int (1 : Int32)), .unset] [(.ref a1), (.int (1 : Int32))])) rfl rfl (hb hby d6_49)
        obtain ⟨T1191, X1191, e1191, st1191⟩ := getF X1190 hx hZ hown (host := "") (Or.inl (own_w hw 16 rfl)) Via.refl e1190 Fc1170 (g := (mkF m 63 #[.val (.ref a1), .val (.long q2), .second, .val (.int (-3 : Int32)), .val (.int (1 : Int32)), .unset] [(.ref a1)])) rfl rfl (hb hby d6_63)
        obtain ⟨cl1192, A1192, q1192, S1192, M1192, H1192, J1192⟩ := id Vc1170
        have hin1192 : ¬ ((1 : Int32) < 0 ∨ cl1192.slots.size ≤ ((1 : Int32)).toNatClampNeg) := inb_of S1192 ⟨by decide, by decide⟩
        have hat1192 : cl1192.slots[((1 : Int32)).toNatClampNeg]? = some (.int y1) := H1192.at hin1192 rfl
        obtain ⟨T1193, X1193, e1193, st1193⟩ := getF X1191 hx hZ hown (host := "") (Or.inl (own_w hw 16 rfl)) Via.refl e1191 Fc1170 (g := (mkF m 72 #[.val (.ref a1), .val (.long q2), .second, .val (.int (-3 : Int32)), .val (.int (1 : Int32)), .val (.int y1)] [(.ref a1)])) rfl rfl (hb hby d6_72)
        obtain ⟨T1194, X1194, e1194, st1194⟩ := getF X1193 hx hZ hown (host := "") (Or.inl (own_w hw 25 rfl)) Via.refl e1193 Fe1170 (g := (mkF m 76 #[.val (.ref a1), .val (.long q2), .second, .val (.int (-3 : Int32)), .val (.int (1 : Int32)), .val (.int y1)] [(.ref a1), (.ref ac1170)])) rfl rfl (hb hby d6_76)
        obtain ⟨cl1195, A1195, q1195, S1195, M1195, H1195, J1195⟩ := id Vc1170
        have hin1195 : ¬ ((2 : Int32) < 0 ∨ cl1195.slots.size ≤ ((2 : Int32)).toNatClampNeg) := inb_of S1195 ⟨by decide, by decide⟩
        have hat1195 : cl1195.slots[((2 : Int32)).toNatClampNeg]? = some (.int y2) := H1195.at hin1195 rfl
        have pre1196 : ∀ t, Steps p.tables e below (T1194.setTop (mkF m 85 #[.val (.ref a1), .val (.long q2), .second, .val (.int (-3 : Int32)), .val (.int (1 : Int32)), .val (.int y1)] [(.int (y2 - y1))])) t → Steps p.tables e below (s₁.setTop (entryFrame m #[(.ref a1), (.long q2)] 6)) t := fun t kt => pre1176 t (by
          show Steps p.tables e below (T1175.setTop (mkF m 26 #[.val (.ref a1), .val (.long q2), .second, .unset, .unset, .unset] [(.long q2), (.int (3 : Int32)), (.int (0 : Int32)), (.ref am1170)])) _
          refine st1189 _ ?_
          refine XS.istoreN X1189.here hx rfl (hb hby d6_29) rfl (l' := #[.val (.ref a1), .val (.long q2), .second, .val (.int (-3 : Int32)), .unset, .unset]) rfl ?_
          refine XS.iloadN X1189.here hx rfl (hb hby d6_30) rfl ?_
          refine XS.ifYes X1189.here hx rfl (pc0 := 31) (pc' := 38) rfl (hb hby d6_31) rfl ((if0 _ _).trans (tlt (by decide : (-3 : Int32) < (0 : Int32))).1) (by decide) (by decide) ?_
          refine XS.iloadN X1189.here hx rfl (hb hby d6_38) rfl ?_
          refine XS.ineg X1189.here hx rfl (hb hby d6_39) rfl ?_
          refine XS.iconst X1189.here hx rfl (hb hby d6_40) ?_
          refine XS.isub X1189.here hx rfl (hb hby d6_41) rfl ?_
          refine XS.iconst X1189.here hx rfl (hb hby d6_42) ?_
          refine XS.isub X1189.here hx rfl (hb hby d6_43) rfl ?_
          refine XS.istore X1189.here hx rfl (hb hby d6_44) rfl (l' := #[.val (.ref a1), .val (.long q2), .second, .val (.int (-3 : Int32)), .val (.int (1 : Int32)), .unset]) rfl ?_
          refine XS.iload X1189.here hx rfl (hb hby d6_46) rfl ?_
          show Steps p.tables e below (T1189.setTop (mkF m 48 #[.val (.ref a1), .val (.long q2), .second, .val (.int (-3 : Int32)), .val (.int (1 : Int32)), .unset] [(.int (1 : Int32))])) _
          refine XS.aloadN X1189.here hx rfl (hb hby d6_48) rfl rfl ?_
          refine st1190 _ ?_
          refine XS.icmpYes X1190.here hx rfl (pc0 := 52) (pc' := 62) rfl (hb hby d6_52) rfl (flt (by decide : ¬ ((1 : Int32) < (0 : Int32)))).2.1 (by decide) (by decide) ?_
          refine XS.aloadN X1190.here hx rfl (hb hby d6_62) rfl rfl ?_
          refine st1191 _ ?_
          refine XS.iload X1191.here hx rfl (hb hby d6_66) rfl ?_
          refine X1191.iaload hx (j := (1 : Int32)) (v := (.int y1)) (by rw [e1191]; exact A1192.1) (State.isArrayOf_alike hZ.alike A1192.2.1) A1192.2.2 hin1192 hat1192 (g := (mkF m 68 #[.val (.ref a1), .val (.long q2), .second, .val (.int (-3 : Int32)), .val (.int (1 : Int32)), .unset] [(.int (1 : Int32)), (.ref ac1170)])) rfl rfl (hb hby d6_68) _ ?_
          refine XS.istore X1191.here hx rfl (hb hby d6_69) rfl (l' := #[.val (.ref a1), .val (.long q2), .second, .val (.int (-3 : Int32)), .val (.int (1 : Int32)), .val (.int y1)]) rfl ?_
          refine XS.aloadN X1191.here hx rfl (hb hby d6_71) rfl rfl ?_
          refine st1193 _ ?_
          refine XS.aloadN X1193.here hx rfl (hb hby d6_75) rfl rfl ?_
          refine st1194 _ ?_
          show Steps p.tables e below (T1194.setTop (mkF m 79 #[.val (.ref a1), .val (.long q2), .second, .val (.int (-3 : Int32)), .val (.int (1 : Int32)), .val (.int y1)] [(.int (3 : Int32)), (.ref ac1170)])) _
          refine XS.iconst X1194.here hx rfl (hb hby d6_79) ?_
          refine XS.isub X1194.here hx rfl (hb hby d6_80) rfl ?_
          refine X1194.iaload hx (j := (2 : Int32)) (v := (.int y2)) (by rw [e1194]; exact A1195.1) (State.isArrayOf_alike hZ.alike A1195.2.1) A1195.2.2 hin1195 hat1195 (g := (mkF m 81 #[.val (.ref a1), .val (.long q2), .second, .val (.int (-3 : Int32)), .val (.int (1 : Int32)), .val (.int y1)] [(.int (2 : Int32)), (.ref ac1170)])) rfl rfl (hb hby d6_81) _ ?_
          refine XS.iload X1194.here hx rfl (hb hby d6_82) rfl ?_
          refine XS.isub X1194.here hx rfl (hb hby d6_84) rfl ?_
          exact kt)
        have lt1197 : ¬ (x2 < q2) := by
          rw [Int64.lt_iff_toInt_lt] at hs0 hs1 hc1177 hc1178 hc1188 ⊢
          omega
        have lt1198 : x1 < q2 := by
          rw [Int64.lt_iff_toInt_lt] at hs0 hs1 hc1177 hc1178 hc1188 ⊢
          omega
        have ev : (y2 - (if x2 < q2 then y2 else (if x1 < q2 then y1 else (if x0 < q2 then y0 else b)))) = (y2 - y1) := congrArg (fun z => y2 - z) ((if_neg lt1197).trans (if_pos lt1198))
        exact own_retI X1194 hx Bd.notSynchronized Bd.returns (hb hby d6_85) pre1196 (show QRi (y2 - (if x2 < q2 then y2 else (if x1 < q2 then y1 else (if x0 < q2 then y0 else b)))) h0 n0 _ _ _ from ⟨by rw [ev], N1189, e1194⟩) (by decide) (by decide)
      case neg =>
        obtain ⟨_, _, ⟨T1199, L1199, k1199, n1199⟩, -, X1199, ⟨Lc1199, hQ1199, l1199, y1199, z1199⟩, st1199⟩ := Jvm.LawKit.callS X1175 hx (y := own_y_199) hown (mvT hZ (own_w hw 45 rfl)) (mvT hZ (own_w hw 46 rfl)) (mvT hZ (own_w hw 47 rfl)) (mvT hZ (own_w hw 48 rfl)) (by decide) (backOf (W := 0) (rmSBs034 l Z a0 hw [] am1170 q2 km1170 x0 x1 x2 x3 (2 : Int32) h0 n0 Z0 Vm1170 (((if_pos hc1177).trans (if_neg hc1178)).trans (if_neg hc1188))) hZ (own_w hw 48 rfl) (own_w hw 47 rfl) (by decide) (by decide)) (g := (mkF m 26 #[.val (.ref a1), .val (.long q2), .second, .unset, .unset, .unset] [(.long q2), (.int (3 : Int32)), (.int (0 : Int32)), (.ref am1170)])) rfl (by rw [hml]; rfl) (argsL := [(.ref am1170), (.int (0 : Int32)), (.int (3 : Int32)), (.long q2)]) (rest := []) (lenOf pd_212 rfl) rfl (by show 2 * 0 + _ ≤ _; exact Nat.le_of_eq rfl) (hb hby d6_26) (fun _ _ => ⟨rfl, e1175, (by decide : 0 + 0 ≤ _), (by decide : 0 + 0 ≤ _)⟩)
        dsimp only [Pt.U, Pt.locs, Pt.cells, Pt.slots] at X1199 l1199 y1199 z1199 st1199 hQ1199
        subst l1199 y1199 z1199
        obtain ⟨rfl, Nq1199, e1199⟩ := hQ1199
        have N1199 := Fr.app N0 Nq1199
        obtain ⟨T1200, X1200, e1200, st1200⟩ := getF X1199 hx hZ hown (host := "") (Or.inl (own_w hw 23 rfl)) Via.refl e1199 Ff1170 (g := (mkF m 49 #[.val (.ref a1), .val (.long q2), .second, .val (.int (2 : Int32)), .val (.int (1 : Int32)), .unset] [(.ref a1), (.int (1 : Int32))])) rfl rfl (hb hby d6_49)
        obtain ⟨T1201, X1201, e1201, st1201⟩ := getF X1200 hx hZ hown (host := "") (Or.inl (own_w hw 16 rfl)) Via.refl e1200 Fc1170 (g := (mkF m 63 #[.val (.ref a1), .val (.long q2), .second, .val (.int (2 : Int32)), .val (.int (1 : Int32)), .unset] [(.ref a1)])) rfl rfl (hb hby d6_63)
        obtain ⟨cl1202, A1202, q1202, S1202, M1202, H1202, J1202⟩ := id Vc1170
        have hin1202 : ¬ ((1 : Int32) < 0 ∨ cl1202.slots.size ≤ ((1 : Int32)).toNatClampNeg) := inb_of S1202 ⟨by decide, by decide⟩
        have hat1202 : cl1202.slots[((1 : Int32)).toNatClampNeg]? = some (.int y1) := H1202.at hin1202 rfl
        obtain ⟨T1203, X1203, e1203, st1203⟩ := getF X1201 hx hZ hown (host := "") (Or.inl (own_w hw 16 rfl)) Via.refl e1201 Fc1170 (g := (mkF m 72 #[.val (.ref a1), .val (.long q2), .second, .val (.int (2 : Int32)), .val (.int (1 : Int32)), .val (.int y1)] [(.ref a1)])) rfl rfl (hb hby d6_72)
        obtain ⟨T1204, X1204, e1204, st1204⟩ := getF X1203 hx hZ hown (host := "") (Or.inl (own_w hw 25 rfl)) Via.refl e1203 Fe1170 (g := (mkF m 76 #[.val (.ref a1), .val (.long q2), .second, .val (.int (2 : Int32)), .val (.int (1 : Int32)), .val (.int y1)] [(.ref a1), (.ref ac1170)])) rfl rfl (hb hby d6_76)
        obtain ⟨cl1205, A1205, q1205, S1205, M1205, H1205, J1205⟩ := id Vc1170
        have hin1205 : ¬ ((2 : Int32) < 0 ∨ cl1205.slots.size ≤ ((2 : Int32)).toNatClampNeg) := inb_of S1205 ⟨by decide, by decide⟩
        have hat1205 : cl1205.slots[((2 : Int32)).toNatClampNeg]? = some (.int y2) := H1205.at hin1205 rfl
        have pre1206 : ∀ t, Steps p.tables e below (T1204.setTop (mkF m 85 #[.val (.ref a1), .val (.long q2), .second, .val (.int (2 : Int32)), .val (.int (1 : Int32)), .val (.int y1)] [(.int (y2 - y1))])) t → Steps p.tables e below (s₁.setTop (entryFrame m #[(.ref a1), (.long q2)] 6)) t := fun t kt => pre1176 t (by
          show Steps p.tables e below (T1175.setTop (mkF m 26 #[.val (.ref a1), .val (.long q2), .second, .unset, .unset, .unset] [(.long q2), (.int (3 : Int32)), (.int (0 : Int32)), (.ref am1170)])) _
          refine st1199 _ ?_
          refine XS.istoreN X1199.here hx rfl (hb hby d6_29) rfl (l' := #[.val (.ref a1), .val (.long q2), .second, .val (.int (2 : Int32)), .unset, .unset]) rfl ?_
          refine XS.iloadN X1199.here hx rfl (hb hby d6_30) rfl ?_
          refine XS.ifNo X1199.here hx rfl (hb hby d6_31) rfl ((if0 _ _).trans (flt (by decide : ¬ ((2 : Int32) < (0 : Int32)))).1) ?_
          refine XS.iloadN X1199.here hx rfl (hb hby d6_34) rfl ?_
          refine XS.goto X1199.here hx rfl (pc0 := 35) (pc' := 42) rfl (hb hby d6_35) (by decide) (by decide) ?_
          refine XS.iconst X1199.here hx rfl (hb hby d6_42) ?_
          refine XS.isub X1199.here hx rfl (hb hby d6_43) rfl ?_
          refine XS.istore X1199.here hx rfl (hb hby d6_44) rfl (l' := #[.val (.ref a1), .val (.long q2), .second, .val (.int (2 : Int32)), .val (.int (1 : Int32)), .unset]) rfl ?_
          refine XS.iload X1199.here hx rfl (hb hby d6_46) rfl ?_
          refine XS.aloadN X1199.here hx rfl (hb hby d6_48) rfl rfl ?_
          refine st1200 _ ?_
          show Steps p.tables e below (T1200.setTop (mkF m 52 #[.val (.ref a1), .val (.long q2), .second, .val (.int (2 : Int32)), .val (.int (1 : Int32)), .unset] [(.int (0 : Int32)), (.int (1 : Int32))])) _
          refine XS.icmpYes X1200.here hx rfl (pc0 := 52) (pc' := 62) rfl (hb hby d6_52) rfl (flt (by decide : ¬ ((1 : Int32) < (0 : Int32)))).2.1 (by decide) (by decide) ?_
          refine XS.aloadN X1200.here hx rfl (hb hby d6_62) rfl rfl ?_
          refine st1201 _ ?_
          refine XS.iload X1201.here hx rfl (hb hby d6_66) rfl ?_
          refine X1201.iaload hx (j := (1 : Int32)) (v := (.int y1)) (by rw [e1201]; exact A1202.1) (State.isArrayOf_alike hZ.alike A1202.2.1) A1202.2.2 hin1202 hat1202 (g := (mkF m 68 #[.val (.ref a1), .val (.long q2), .second, .val (.int (2 : Int32)), .val (.int (1 : Int32)), .unset] [(.int (1 : Int32)), (.ref ac1170)])) rfl rfl (hb hby d6_68) _ ?_
          refine XS.istore X1201.here hx rfl (hb hby d6_69) rfl (l' := #[.val (.ref a1), .val (.long q2), .second, .val (.int (2 : Int32)), .val (.int (1 : Int32)), .val (.int y1)]) rfl ?_
          refine XS.aloadN X1201.here hx rfl (hb hby d6_71) rfl rfl ?_
          refine st1203 _ ?_
          refine XS.aloadN X1203.here hx rfl (hb hby d6_75) rfl rfl ?_
          refine st1204 _ ?_
          refine XS.iconst X1204.here hx rfl (hb hby d6_79) ?_
          refine XS.isub X1204.here hx rfl (hb hby d6_80) rfl ?_
          show Steps p.tables e below (T1204.setTop (mkF m 81 #[.val (.ref a1), .val (.long q2), .second, .val (.int (2 : Int32)), .val (.int (1 : Int32)), .val (.int y1)] [(.int (2 : Int32)), (.ref ac1170)])) _
          refine X1204.iaload hx (j := (2 : Int32)) (v := (.int y2)) (by rw [e1204]; exact A1205.1) (State.isArrayOf_alike hZ.alike A1205.2.1) A1205.2.2 hin1205 hat1205 (g := (mkF m 81 #[.val (.ref a1), .val (.long q2), .second, .val (.int (2 : Int32)), .val (.int (1 : Int32)), .val (.int y1)] [(.int (2 : Int32)), (.ref ac1170)])) rfl rfl (hb hby d6_81) _ ?_
          refine XS.iload X1204.here hx rfl (hb hby d6_82) rfl ?_
          refine XS.isub X1204.here hx rfl (hb hby d6_84) rfl ?_
          exact kt)
        have lt1207 : ¬ (x2 < q2) := by
          rw [Int64.lt_iff_toInt_lt] at hs0 hs1 hc1177 hc1178 hc1188 ⊢
          omega
        have lt1208 : x1 < q2 := by
          rw [Int64.lt_iff_toInt_lt] at hs0 hs1 hc1177 hc1178 hc1188 ⊢
          omega
        have ev : (y2 - (if x2 < q2 then y2 else (if x1 < q2 then y1 else (if x0 < q2 then y0 else b)))) = (y2 - y1) := congrArg (fun z => y2 - z) ((if_neg lt1207).trans (if_pos lt1208))
        exact own_retI X1204 hx Bd.notSynchronized Bd.returns (hb hby d6_85) pre1206 (show QRi (y2 - (if x2 < q2 then y2 else (if x1 < q2 then y1 else (if x0 < q2 then y0 else b)))) h0 n0 _ _ _ from ⟨by rw [ev], N1199, e1204⟩) (by decide) (by decide)
  case neg =>
    by_cases hc1209 : q2 < x1
    case pos =>
      by_cases hc1210 : x0 < q2
      case pos =>
        obtain ⟨_, _, ⟨T1211, L1211, k1211, n1211⟩, -, X1211, ⟨Lc1211, hQ1211, l1211, y1211, z1211⟩, st1211⟩ := Jvm.LawKit.callS X1175 hx (y := own_y_199) hown (mvT hZ (own_w hw 45 rfl)) (mvT hZ (own_w hw 46 rfl)) (mvT hZ (own_w hw 47 rfl)) (mvT hZ (own_w hw 48 rfl)) (by decide) (backOf (W := 0) (rmSBs034 l Z a0 hw [] am1170 q2 km1170 x0 x1 x2 x3 (-2 : Int32) h0 n0 Z0 Vm1170 (((if_neg hc1177).trans (if_pos hc1209)).trans (if_pos hc1210))) hZ (own_w hw 48 rfl) (own_w hw 47 rfl) (by decide) (by decide)) (g := (mkF m 26 #[.val (.ref a1), .val (.long q2), .second, .unset, .unset, .unset] [(.long q2), (.int (3 : Int32)), (.int (0 : Int32)), (.ref am1170)])) rfl (by rw [hml]; rfl) (argsL := [(.ref am1170), (.int (0 : Int32)), (.int (3 : Int32)), (.long q2)]) (rest := []) (lenOf pd_212 rfl) rfl (by show 2 * 0 + _ ≤ _; exact Nat.le_of_eq rfl) (hb hby d6_26) (fun _ _ => ⟨rfl, e1175, (by decide : 0 + 0 ≤ _), (by decide : 0 + 0 ≤ _)⟩)
        dsimp only [Pt.U, Pt.locs, Pt.cells, Pt.slots] at X1211 l1211 y1211 z1211 st1211 hQ1211
        subst l1211 y1211 z1211
        obtain ⟨rfl, Nq1211, e1211⟩ := hQ1211
        have N1211 := Fr.app N0 Nq1211
        obtain ⟨T1212, X1212, e1212, st1212⟩ := getF X1211 hx hZ hown (host := "") (Or.inl (own_w hw 23 rfl)) Via.refl e1211 Ff1170 (g := (mkF m 49 #[.val (.ref a1), .val (.long q2), .second, .val (.int (-2 : Int32)), .val (.int (0 : Int32)), .unset] [(.ref a1), (.int (0 : Int32))])) rfl rfl (hb hby d6_49)
        obtain ⟨T1213, X1213, e1213, st1213⟩ := getF X1212 hx hZ hown (host := "") (Or.inl (own_w hw 16 rfl)) Via.refl e1212 Fc1170 (g := (mkF m 63 #[.val (.ref a1), .val (.long q2), .second, .val (.int (-2 : Int32)), .val (.int (0 : Int32)), .unset] [(.ref a1)])) rfl rfl (hb hby d6_63)
        obtain ⟨cl1214, A1214, q1214, S1214, M1214, H1214, J1214⟩ := id Vc1170
        have hin1214 : ¬ ((0 : Int32) < 0 ∨ cl1214.slots.size ≤ ((0 : Int32)).toNatClampNeg) := inb_of S1214 ⟨by decide, by decide⟩
        have hat1214 : cl1214.slots[((0 : Int32)).toNatClampNeg]? = some (.int y0) := H1214.at hin1214 rfl
        obtain ⟨T1215, X1215, e1215, st1215⟩ := getF X1213 hx hZ hown (host := "") (Or.inl (own_w hw 16 rfl)) Via.refl e1213 Fc1170 (g := (mkF m 72 #[.val (.ref a1), .val (.long q2), .second, .val (.int (-2 : Int32)), .val (.int (0 : Int32)), .val (.int y0)] [(.ref a1)])) rfl rfl (hb hby d6_72)
        obtain ⟨T1216, X1216, e1216, st1216⟩ := getF X1215 hx hZ hown (host := "") (Or.inl (own_w hw 25 rfl)) Via.refl e1215 Fe1170 (g := (mkF m 76 #[.val (.ref a1), .val (.long q2), .second, .val (.int (-2 : Int32)), .val (.int (0 : Int32)), .val (.int y0)] [(.ref a1), (.ref ac1170)])) rfl rfl (hb hby d6_76)
        obtain ⟨cl1217, A1217, q1217, S1217, M1217, H1217, J1217⟩ := id Vc1170
        have hin1217 : ¬ ((2 : Int32) < 0 ∨ cl1217.slots.size ≤ ((2 : Int32)).toNatClampNeg) := inb_of S1217 ⟨by decide, by decide⟩
        have hat1217 : cl1217.slots[((2 : Int32)).toNatClampNeg]? = some (.int y2) := H1217.at hin1217 rfl
        have pre1218 : ∀ t, Steps p.tables e below (T1216.setTop (mkF m 85 #[.val (.ref a1), .val (.long q2), .second, .val (.int (-2 : Int32)), .val (.int (0 : Int32)), .val (.int y0)] [(.int (y2 - y0))])) t → Steps p.tables e below (s₁.setTop (entryFrame m #[(.ref a1), (.long q2)] 6)) t := fun t kt => pre1176 t (by
          show Steps p.tables e below (T1175.setTop (mkF m 26 #[.val (.ref a1), .val (.long q2), .second, .unset, .unset, .unset] [(.long q2), (.int (3 : Int32)), (.int (0 : Int32)), (.ref am1170)])) _
          refine st1211 _ ?_
          refine XS.istoreN X1211.here hx rfl (hb hby d6_29) rfl (l' := #[.val (.ref a1), .val (.long q2), .second, .val (.int (-2 : Int32)), .unset, .unset]) rfl ?_
          refine XS.iloadN X1211.here hx rfl (hb hby d6_30) rfl ?_
          refine XS.ifYes X1211.here hx rfl (pc0 := 31) (pc' := 38) rfl (hb hby d6_31) rfl ((if0 _ _).trans (tlt (by decide : (-2 : Int32) < (0 : Int32))).1) (by decide) (by decide) ?_
          refine XS.iloadN X1211.here hx rfl (hb hby d6_38) rfl ?_
          refine XS.ineg X1211.here hx rfl (hb hby d6_39) rfl ?_
          refine XS.iconst X1211.here hx rfl (hb hby d6_40) ?_
          refine XS.isub X1211.here hx rfl (hb hby d6_41) rfl ?_
          refine XS.iconst X1211.here hx rfl (hb hby d6_42) ?_
          refine XS.isub X1211.here hx rfl (hb hby d6_43) rfl ?_
          refine XS.istore X1211.here hx rfl (hb hby d6_44) rfl (l' := #[.val (.ref a1), .val (.long q2), .second, .val (.int (-2 : Int32)), .val (.int (0 : Int32)), .unset]) rfl ?_
          refine XS.iload X1211.here hx rfl (hb hby d6_46) rfl ?_
          show Steps p.tables e below (T1211.setTop (mkF m 48 #[.val (.ref a1), .val (.long q2), .second, .val (.int (-2 : Int32)), .val (.int (0 : Int32)), .unset] [(.int (0 : Int32))])) _
          refine XS.aloadN X1211.here hx rfl (hb hby d6_48) rfl rfl ?_
          refine st1212 _ ?_
          refine XS.icmpYes X1212.here hx rfl (pc0 := 52) (pc' := 62) rfl (hb hby d6_52) rfl (flt (by decide : ¬ ((0 : Int32) < (0 : Int32)))).2.1 (by decide) (by decide) ?_
          refine XS.aloadN X1212.here hx rfl (hb hby d6_62) rfl rfl ?_
          refine st1213 _ ?_
          refine XS.iload X1213.here hx rfl (hb hby d6_66) rfl ?_
          refine X1213.iaload hx (j := (0 : Int32)) (v := (.int y0)) (by rw [e1213]; exact A1214.1) (State.isArrayOf_alike hZ.alike A1214.2.1) A1214.2.2 hin1214 hat1214 (g := (mkF m 68 #[.val (.ref a1), .val (.long q2), .second, .val (.int (-2 : Int32)), .val (.int (0 : Int32)), .unset] [(.int (0 : Int32)), (.ref ac1170)])) rfl rfl (hb hby d6_68) _ ?_
          refine XS.istore X1213.here hx rfl (hb hby d6_69) rfl (l' := #[.val (.ref a1), .val (.long q2), .second, .val (.int (-2 : Int32)), .val (.int (0 : Int32)), .val (.int y0)]) rfl ?_
          refine XS.aloadN X1213.here hx rfl (hb hby d6_71) rfl rfl ?_
          refine st1215 _ ?_
          refine XS.aloadN X1215.here hx rfl (hb hby d6_75) rfl rfl ?_
          refine st1216 _ ?_
          show Steps p.tables e below (T1216.setTop (mkF m 79 #[.val (.ref a1), .val (.long q2), .second, .val (.int (-2 : Int32)), .val (.int (0 : Int32)), .val (.int y0)] [(.int (3 : Int32)), (.ref ac1170)])) _
          refine XS.iconst X1216.here hx rfl (hb hby d6_79) ?_
          refine XS.isub X1216.here hx rfl (hb hby d6_80) rfl ?_
          refine X1216.iaload hx (j := (2 : Int32)) (v := (.int y2)) (by rw [e1216]; exact A1217.1) (State.isArrayOf_alike hZ.alike A1217.2.1) A1217.2.2 hin1217 hat1217 (g := (mkF m 81 #[.val (.ref a1), .val (.long q2), .second, .val (.int (-2 : Int32)), .val (.int (0 : Int32)), .val (.int y0)] [(.int (2 : Int32)), (.ref ac1170)])) rfl rfl (hb hby d6_81) _ ?_
          refine XS.iload X1216.here hx rfl (hb hby d6_82) rfl ?_
          refine XS.isub X1216.here hx rfl (hb hby d6_84) rfl ?_
          exact kt)
        have lt1219 : ¬ (x2 < q2) := by
          rw [Int64.lt_iff_toInt_lt] at hs0 hs1 hc1177 hc1209 hc1210 ⊢
          omega
        have lt1220 : ¬ (x1 < q2) := by
          rw [Int64.lt_iff_toInt_lt] at hs0 hs1 hc1177 hc1209 hc1210 ⊢
          omega
        have lt1221 : x0 < q2 := by
          rw [Int64.lt_iff_toInt_lt] at hs0 hs1 hc1177 hc1209 hc1210 ⊢
          omega
        have ev : (y2 - (if x2 < q2 then y2 else (if x1 < q2 then y1 else (if x0 < q2 then y0 else b)))) = (y2 - y0) := congrArg (fun z => y2 - z) (((if_neg lt1219).trans (if_neg lt1220)).trans (if_pos lt1221))
        exact own_retI X1216 hx Bd.notSynchronized Bd.returns (hb hby d6_85) pre1218 (show QRi (y2 - (if x2 < q2 then y2 else (if x1 < q2 then y1 else (if x0 < q2 then y0 else b)))) h0 n0 _ _ _ from ⟨by rw [ev], N1211, e1216⟩) (by decide) (by decide)
      case neg =>
        by_cases hc1222 : q2 < x0
        case pos =>
          obtain ⟨_, _, ⟨T1223, L1223, k1223, n1223⟩, -, X1223, ⟨Lc1223, hQ1223, l1223, y1223, z1223⟩, st1223⟩ := Jvm.LawKit.callS X1175 hx (y := own_y_199) hown (mvT hZ (own_w hw 45 rfl)) (mvT hZ (own_w hw 46 rfl)) (mvT hZ (own_w hw 47 rfl)) (mvT hZ (own_w hw 48 rfl)) (by decide) (backOf (W := 0) (rmSBs034 l Z a0 hw [] am1170 q2 km1170 x0 x1 x2 x3 (-1 : Int32) h0 n0 Z0 Vm1170 ((((if_neg hc1177).trans (if_pos hc1209)).trans (if_neg hc1210)).trans (if_pos hc1222))) hZ (own_w hw 48 rfl) (own_w hw 47 rfl) (by decide) (by decide)) (g := (mkF m 26 #[.val (.ref a1), .val (.long q2), .second, .unset, .unset, .unset] [(.long q2), (.int (3 : Int32)), (.int (0 : Int32)), (.ref am1170)])) rfl (by rw [hml]; rfl) (argsL := [(.ref am1170), (.int (0 : Int32)), (.int (3 : Int32)), (.long q2)]) (rest := []) (lenOf pd_212 rfl) rfl (by show 2 * 0 + _ ≤ _; exact Nat.le_of_eq rfl) (hb hby d6_26) (fun _ _ => ⟨rfl, e1175, (by decide : 0 + 0 ≤ _), (by decide : 0 + 0 ≤ _)⟩)
          dsimp only [Pt.U, Pt.locs, Pt.cells, Pt.slots] at X1223 l1223 y1223 z1223 st1223 hQ1223
          subst l1223 y1223 z1223
          obtain ⟨rfl, Nq1223, e1223⟩ := hQ1223
          have N1223 := Fr.app N0 Nq1223
          obtain ⟨T1224, X1224, e1224, st1224⟩ := getF X1223 hx hZ hown (host := "") (Or.inl (own_w hw 23 rfl)) Via.refl e1223 Ff1170 (g := (mkF m 49 #[.val (.ref a1), .val (.long q2), .second, .val (.int (-1 : Int32)), .val (.int (-1 : Int32)), .unset] [(.ref a1), (.int (-1 : Int32))])) rfl rfl (hb hby d6_49)
          obtain ⟨T1225, X1225, e1225, st1225⟩ := getF X1224 hx hZ hown (host := "") (Or.inl (own_w hw 27 rfl)) Via.refl e1224 Fb1170 (g := (mkF m 56 #[.val (.ref a1), .val (.long q2), .second, .val (.int (-1 : Int32)), .val (.int (-1 : Int32)), .unset] [(.ref a1)])) rfl rfl (hb hby d6_56)
          obtain ⟨T1226, X1226, e1226, st1226⟩ := getF X1225 hx hZ hown (host := "") (Or.inl (own_w hw 16 rfl)) Via.refl e1225 Fc1170 (g := (mkF m 72 #[.val (.ref a1), .val (.long q2), .second, .val (.int (-1 : Int32)), .val (.int (-1 : Int32)), .val (.int b)] [(.ref a1)])) rfl rfl (hb hby d6_72)
          obtain ⟨T1227, X1227, e1227, st1227⟩ := getF X1226 hx hZ hown (host := "") (Or.inl (own_w hw 25 rfl)) Via.refl e1226 Fe1170 (g := (mkF m 76 #[.val (.ref a1), .val (.long q2), .second, .val (.int (-1 : Int32)), .val (.int (-1 : Int32)), .val (.int b)] [(.ref a1), (.ref ac1170)])) rfl rfl (hb hby d6_76)
          obtain ⟨cl1228, A1228, q1228, S1228, M1228, H1228, J1228⟩ := id Vc1170
          have hin1228 : ¬ ((2 : Int32) < 0 ∨ cl1228.slots.size ≤ ((2 : Int32)).toNatClampNeg) := inb_of S1228 ⟨by decide, by decide⟩
          have hat1228 : cl1228.slots[((2 : Int32)).toNatClampNeg]? = some (.int y2) := H1228.at hin1228 rfl
          have pre1229 : ∀ t, Steps p.tables e below (T1227.setTop (mkF m 85 #[.val (.ref a1), .val (.long q2), .second, .val (.int (-1 : Int32)), .val (.int (-1 : Int32)), .val (.int b)] [(.int (y2 - b))])) t → Steps p.tables e below (s₁.setTop (entryFrame m #[(.ref a1), (.long q2)] 6)) t := fun t kt => pre1176 t (by
            show Steps p.tables e below (T1175.setTop (mkF m 26 #[.val (.ref a1), .val (.long q2), .second, .unset, .unset, .unset] [(.long q2), (.int (3 : Int32)), (.int (0 : Int32)), (.ref am1170)])) _
            refine st1223 _ ?_
            refine XS.istoreN X1223.here hx rfl (hb hby d6_29) rfl (l' := #[.val (.ref a1), .val (.long q2), .second, .val (.int (-1 : Int32)), .unset, .unset]) rfl ?_
            refine XS.iloadN X1223.here hx rfl (hb hby d6_30) rfl ?_
            refine XS.ifYes X1223.here hx rfl (pc0 := 31) (pc' := 38) rfl (hb hby d6_31) rfl ((if0 _ _).trans (tlt (by decide : (-1 : Int32) < (0 : Int32))).1) (by decide) (by decide) ?_
            refine XS.iloadN X1223.here hx rfl (hb hby d6_38) rfl ?_
            refine XS.ineg X1223.here hx rfl (hb hby d6_39) rfl ?_
            refine XS.iconst X1223.here hx rfl (hb hby d6_40) ?_
            refine XS.isub X1223.here hx rfl (hb hby d6_41) rfl ?_
            refine XS.iconst X1223.here hx rfl (hb hby d6_42) ?_
            refine XS.isub X1223.here hx rfl (hb hby d6_43) rfl ?_
            refine XS.istore X1223.here hx rfl (hb hby d6_44) rfl (l' := #[.val (.ref a1), .val (.long q2), .second, .val (.int (-1 : Int32)), .val (.int (-1 : Int32)), .unset]) rfl ?_
            refine XS.iload X1223.here hx rfl (hb hby d6_46) rfl ?_
            show Steps p.tables e below (T1223.setTop (mkF m 48 #[.val (.ref a1), .val (.long q2), .second, .val (.int (-1 : Int32)), .val (.int (-1 : Int32)), .unset] [(.int (-1 : Int32))])) _
            refine XS.aloadN X1223.here hx rfl (hb hby d6_48) rfl rfl ?_
            refine st1224 _ ?_
            refine XS.icmpNo X1224.here hx rfl (hb hby d6_52) rfl (tlt (by decide : (-1 : Int32) < (0 : Int32))).2.1 ?_
            refine XS.aloadN X1224.here hx rfl (hb hby d6_55) rfl rfl ?_
            refine st1225 _ ?_
            refine XS.goto X1225.here hx rfl (pc0 := 59) (pc' := 69) rfl (hb hby d6_59) (by decide) (by decide) ?_
            refine XS.istore X1225.here hx rfl (hb hby d6_69) rfl (l' := #[.val (.ref a1), .val (.long q2), .second, .val (.int (-1 : Int32)), .val (.int (-1 : Int32)), .val (.int b)]) rfl ?_
            refine XS.aloadN X1225.here hx rfl (hb hby d6_71) rfl rfl ?_
            refine st1226 _ ?_
            refine XS.aloadN X1226.here hx rfl (hb hby d6_75) rfl rfl ?_
            refine st1227 _ ?_
            refine XS.iconst X1227.here hx rfl (hb hby d6_79) ?_
            show Steps p.tables e below (T1227.setTop (mkF m 80 #[.val (.ref a1), .val (.long q2), .second, .val (.int (-1 : Int32)), .val (.int (-1 : Int32)), .val (.int b)] [(.int (1 : Int32)), (.int (3 : Int32)), (.ref ac1170)])) _
            refine XS.isub X1227.here hx rfl (hb hby d6_80) rfl ?_
            refine X1227.iaload hx (j := (2 : Int32)) (v := (.int y2)) (by rw [e1227]; exact A1228.1) (State.isArrayOf_alike hZ.alike A1228.2.1) A1228.2.2 hin1228 hat1228 (g := (mkF m 81 #[.val (.ref a1), .val (.long q2), .second, .val (.int (-1 : Int32)), .val (.int (-1 : Int32)), .val (.int b)] [(.int (2 : Int32)), (.ref ac1170)])) rfl rfl (hb hby d6_81) _ ?_
            refine XS.iload X1227.here hx rfl (hb hby d6_82) rfl ?_
            refine XS.isub X1227.here hx rfl (hb hby d6_84) rfl ?_
            exact kt)
          have lt1230 : ¬ (x2 < q2) := by
            rw [Int64.lt_iff_toInt_lt] at hs0 hs1 hc1177 hc1209 hc1210 hc1222 ⊢
            omega
          have lt1231 : ¬ (x1 < q2) := by
            rw [Int64.lt_iff_toInt_lt] at hs0 hs1 hc1177 hc1209 hc1210 hc1222 ⊢
            omega
          have lt1232 : ¬ (x0 < q2) := by
            rw [Int64.lt_iff_toInt_lt] at hs0 hs1 hc1177 hc1209 hc1210 hc1222 ⊢
            omega
          have ev : (y2 - (if x2 < q2 then y2 else (if x1 < q2 then y1 else (if x0 < q2 then y0 else b)))) = (y2 - b) := congrArg (fun z => y2 - z) (((if_neg lt1230).trans (if_neg lt1231)).trans (if_neg lt1232))
          exact own_retI X1227 hx Bd.notSynchronized Bd.returns (hb hby d6_85) pre1229 (show QRi (y2 - (if x2 < q2 then y2 else (if x1 < q2 then y1 else (if x0 < q2 then y0 else b)))) h0 n0 _ _ _ from ⟨by rw [ev], N1223, e1227⟩) (by decide) (by decide)
        case neg =>
          obtain ⟨_, _, ⟨T1233, L1233, k1233, n1233⟩, -, X1233, ⟨Lc1233, hQ1233, l1233, y1233, z1233⟩, st1233⟩ := Jvm.LawKit.callS X1175 hx (y := own_y_199) hown (mvT hZ (own_w hw 45 rfl)) (mvT hZ (own_w hw 46 rfl)) (mvT hZ (own_w hw 47 rfl)) (mvT hZ (own_w hw 48 rfl)) (by decide) (backOf (W := 0) (rmSBs034 l Z a0 hw [] am1170 q2 km1170 x0 x1 x2 x3 (0 : Int32) h0 n0 Z0 Vm1170 ((((if_neg hc1177).trans (if_pos hc1209)).trans (if_neg hc1210)).trans (if_neg hc1222))) hZ (own_w hw 48 rfl) (own_w hw 47 rfl) (by decide) (by decide)) (g := (mkF m 26 #[.val (.ref a1), .val (.long q2), .second, .unset, .unset, .unset] [(.long q2), (.int (3 : Int32)), (.int (0 : Int32)), (.ref am1170)])) rfl (by rw [hml]; rfl) (argsL := [(.ref am1170), (.int (0 : Int32)), (.int (3 : Int32)), (.long q2)]) (rest := []) (lenOf pd_212 rfl) rfl (by show 2 * 0 + _ ≤ _; exact Nat.le_of_eq rfl) (hb hby d6_26) (fun _ _ => ⟨rfl, e1175, (by decide : 0 + 0 ≤ _), (by decide : 0 + 0 ≤ _)⟩)
          dsimp only [Pt.U, Pt.locs, Pt.cells, Pt.slots] at X1233 l1233 y1233 z1233 st1233 hQ1233
          subst l1233 y1233 z1233
          obtain ⟨rfl, Nq1233, e1233⟩ := hQ1233
          have N1233 := Fr.app N0 Nq1233
          obtain ⟨T1234, X1234, e1234, st1234⟩ := getF X1233 hx hZ hown (host := "") (Or.inl (own_w hw 23 rfl)) Via.refl e1233 Ff1170 (g := (mkF m 49 #[.val (.ref a1), .val (.long q2), .second, .val (.int (0 : Int32)), .val (.int (-1 : Int32)), .unset] [(.ref a1), (.int (-1 : Int32))])) rfl rfl (hb hby d6_49)
          obtain ⟨T1235, X1235, e1235, st1235⟩ := getF X1234 hx hZ hown (host := "") (Or.inl (own_w hw 27 rfl)) Via.refl e1234 Fb1170 (g := (mkF m 56 #[.val (.ref a1), .val (.long q2), .second, .val (.int (0 : Int32)), .val (.int (-1 : Int32)), .unset] [(.ref a1)])) rfl rfl (hb hby d6_56)
          obtain ⟨T1236, X1236, e1236, st1236⟩ := getF X1235 hx hZ hown (host := "") (Or.inl (own_w hw 16 rfl)) Via.refl e1235 Fc1170 (g := (mkF m 72 #[.val (.ref a1), .val (.long q2), .second, .val (.int (0 : Int32)), .val (.int (-1 : Int32)), .val (.int b)] [(.ref a1)])) rfl rfl (hb hby d6_72)
          obtain ⟨T1237, X1237, e1237, st1237⟩ := getF X1236 hx hZ hown (host := "") (Or.inl (own_w hw 25 rfl)) Via.refl e1236 Fe1170 (g := (mkF m 76 #[.val (.ref a1), .val (.long q2), .second, .val (.int (0 : Int32)), .val (.int (-1 : Int32)), .val (.int b)] [(.ref a1), (.ref ac1170)])) rfl rfl (hb hby d6_76)
          obtain ⟨cl1238, A1238, q1238, S1238, M1238, H1238, J1238⟩ := id Vc1170
          have hin1238 : ¬ ((2 : Int32) < 0 ∨ cl1238.slots.size ≤ ((2 : Int32)).toNatClampNeg) := inb_of S1238 ⟨by decide, by decide⟩
          have hat1238 : cl1238.slots[((2 : Int32)).toNatClampNeg]? = some (.int y2) := H1238.at hin1238 rfl
          have pre1239 : ∀ t, Steps p.tables e below (T1237.setTop (mkF m 85 #[.val (.ref a1), .val (.long q2), .second, .val (.int (0 : Int32)), .val (.int (-1 : Int32)), .val (.int b)] [(.int (y2 - b))])) t → Steps p.tables e below (s₁.setTop (entryFrame m #[(.ref a1), (.long q2)] 6)) t := fun t kt => pre1176 t (by
            show Steps p.tables e below (T1175.setTop (mkF m 26 #[.val (.ref a1), .val (.long q2), .second, .unset, .unset, .unset] [(.long q2), (.int (3 : Int32)), (.int (0 : Int32)), (.ref am1170)])) _
            refine st1233 _ ?_
            refine XS.istoreN X1233.here hx rfl (hb hby d6_29) rfl (l' := #[.val (.ref a1), .val (.long q2), .second, .val (.int (0 : Int32)), .unset, .unset]) rfl ?_
            refine XS.iloadN X1233.here hx rfl (hb hby d6_30) rfl ?_
            refine XS.ifNo X1233.here hx rfl (hb hby d6_31) rfl ((if0 _ _).trans (flt (by decide : ¬ ((0 : Int32) < (0 : Int32)))).1) ?_
            refine XS.iloadN X1233.here hx rfl (hb hby d6_34) rfl ?_
            refine XS.goto X1233.here hx rfl (pc0 := 35) (pc' := 42) rfl (hb hby d6_35) (by decide) (by decide) ?_
            refine XS.iconst X1233.here hx rfl (hb hby d6_42) ?_
            refine XS.isub X1233.here hx rfl (hb hby d6_43) rfl ?_
            refine XS.istore X1233.here hx rfl (hb hby d6_44) rfl (l' := #[.val (.ref a1), .val (.long q2), .second, .val (.int (0 : Int32)), .val (.int (-1 : Int32)), .unset]) rfl ?_
            refine XS.iload X1233.here hx rfl (hb hby d6_46) rfl ?_
            refine XS.aloadN X1233.here hx rfl (hb hby d6_48) rfl rfl ?_
            refine st1234 _ ?_
            show Steps p.tables e below (T1234.setTop (mkF m 52 #[.val (.ref a1), .val (.long q2), .second, .val (.int (0 : Int32)), .val (.int (-1 : Int32)), .unset] [(.int (0 : Int32)), (.int (-1 : Int32))])) _
            refine XS.icmpNo X1234.here hx rfl (hb hby d6_52) rfl (tlt (by decide : (-1 : Int32) < (0 : Int32))).2.1 ?_
            refine XS.aloadN X1234.here hx rfl (hb hby d6_55) rfl rfl ?_
            refine st1235 _ ?_
            refine XS.goto X1235.here hx rfl (pc0 := 59) (pc' := 69) rfl (hb hby d6_59) (by decide) (by decide) ?_
            refine XS.istore X1235.here hx rfl (hb hby d6_69) rfl (l' := #[.val (.ref a1), .val (.long q2), .second, .val (.int (0 : Int32)), .val (.int (-1 : Int32)), .val (.int b)]) rfl ?_
            refine XS.aloadN X1235.here hx rfl (hb hby d6_71) rfl rfl ?_
            refine st1236 _ ?_
            refine XS.aloadN X1236.here hx rfl (hb hby d6_75) rfl rfl ?_
            refine st1237 _ ?_
            refine XS.iconst X1237.here hx rfl (hb hby d6_79) ?_
            refine XS.isub X1237.here hx rfl (hb hby d6_80) rfl ?_
            refine X1237.iaload hx (j := (2 : Int32)) (v := (.int y2)) (by rw [e1237]; exact A1238.1) (State.isArrayOf_alike hZ.alike A1238.2.1) A1238.2.2 hin1238 hat1238 (g := (mkF m 81 #[.val (.ref a1), .val (.long q2), .second, .val (.int (0 : Int32)), .val (.int (-1 : Int32)), .val (.int b)] [(.int (2 : Int32)), (.ref ac1170)])) rfl rfl (hb hby d6_81) _ ?_
            show Steps p.tables e below (T1237.setTop (mkF m 82 #[.val (.ref a1), .val (.long q2), .second, .val (.int (0 : Int32)), .val (.int (-1 : Int32)), .val (.int b)] [(.int y2)])) _
            refine XS.iload X1237.here hx rfl (hb hby d6_82) rfl ?_
            refine XS.isub X1237.here hx rfl (hb hby d6_84) rfl ?_
            exact kt)
          have lt1240 : ¬ (x2 < q2) := by
            rw [Int64.lt_iff_toInt_lt] at hs0 hs1 hc1177 hc1209 hc1210 hc1222 ⊢
            omega
          have lt1241 : ¬ (x1 < q2) := by
            rw [Int64.lt_iff_toInt_lt] at hs0 hs1 hc1177 hc1209 hc1210 hc1222 ⊢
            omega
          have lt1242 : ¬ (x0 < q2) := by
            rw [Int64.lt_iff_toInt_lt] at hs0 hs1 hc1177 hc1209 hc1210 hc1222 ⊢
            omega
          have ev : (y2 - (if x2 < q2 then y2 else (if x1 < q2 then y1 else (if x0 < q2 then y0 else b)))) = (y2 - b) := congrArg (fun z => y2 - z) (((if_neg lt1240).trans (if_neg lt1241)).trans (if_neg lt1242))
          exact own_retI X1237 hx Bd.notSynchronized Bd.returns (hb hby d6_85) pre1239 (show QRi (y2 - (if x2 < q2 then y2 else (if x1 < q2 then y1 else (if x0 < q2 then y0 else b)))) h0 n0 _ _ _ from ⟨by rw [ev], N1233, e1237⟩) (by decide) (by decide)
    case neg =>
      obtain ⟨_, _, ⟨T1243, L1243, k1243, n1243⟩, -, X1243, ⟨Lc1243, hQ1243, l1243, y1243, z1243⟩, st1243⟩ := Jvm.LawKit.callS X1175 hx (y := own_y_199) hown (mvT hZ (own_w hw 45 rfl)) (mvT hZ (own_w hw 46 rfl)) (mvT hZ (own_w hw 47 rfl)) (mvT hZ (own_w hw 48 rfl)) (by decide) (backOf (W := 0) (rmSBs034 l Z a0 hw [] am1170 q2 km1170 x0 x1 x2 x3 (1 : Int32) h0 n0 Z0 Vm1170 ((if_neg hc1177).trans (if_neg hc1209))) hZ (own_w hw 48 rfl) (own_w hw 47 rfl) (by decide) (by decide)) (g := (mkF m 26 #[.val (.ref a1), .val (.long q2), .second, .unset, .unset, .unset] [(.long q2), (.int (3 : Int32)), (.int (0 : Int32)), (.ref am1170)])) rfl (by rw [hml]; rfl) (argsL := [(.ref am1170), (.int (0 : Int32)), (.int (3 : Int32)), (.long q2)]) (rest := []) (lenOf pd_212 rfl) rfl (by show 2 * 0 + _ ≤ _; exact Nat.le_of_eq rfl) (hb hby d6_26) (fun _ _ => ⟨rfl, e1175, (by decide : 0 + 0 ≤ _), (by decide : 0 + 0 ≤ _)⟩)
      dsimp only [Pt.U, Pt.locs, Pt.cells, Pt.slots] at X1243 l1243 y1243 z1243 st1243 hQ1243
      subst l1243 y1243 z1243
      obtain ⟨rfl, Nq1243, e1243⟩ := hQ1243
      have N1243 := Fr.app N0 Nq1243
      obtain ⟨T1244, X1244, e1244, st1244⟩ := getF X1243 hx hZ hown (host := "") (Or.inl (own_w hw 23 rfl)) Via.refl e1243 Ff1170 (g := (mkF m 49 #[.val (.ref a1), .val (.long q2), .second, .val (.int (1 : Int32)), .val (.int (0 : Int32)), .unset] [(.ref a1), (.int (0 : Int32))])) rfl rfl (hb hby d6_49)
      obtain ⟨T1245, X1245, e1245, st1245⟩ := getF X1244 hx hZ hown (host := "") (Or.inl (own_w hw 16 rfl)) Via.refl e1244 Fc1170 (g := (mkF m 63 #[.val (.ref a1), .val (.long q2), .second, .val (.int (1 : Int32)), .val (.int (0 : Int32)), .unset] [(.ref a1)])) rfl rfl (hb hby d6_63)
      obtain ⟨cl1246, A1246, q1246, S1246, M1246, H1246, J1246⟩ := id Vc1170
      have hin1246 : ¬ ((0 : Int32) < 0 ∨ cl1246.slots.size ≤ ((0 : Int32)).toNatClampNeg) := inb_of S1246 ⟨by decide, by decide⟩
      have hat1246 : cl1246.slots[((0 : Int32)).toNatClampNeg]? = some (.int y0) := H1246.at hin1246 rfl
      obtain ⟨T1247, X1247, e1247, st1247⟩ := getF X1245 hx hZ hown (host := "") (Or.inl (own_w hw 16 rfl)) Via.refl e1245 Fc1170 (g := (mkF m 72 #[.val (.ref a1), .val (.long q2), .second, .val (.int (1 : Int32)), .val (.int (0 : Int32)), .val (.int y0)] [(.ref a1)])) rfl rfl (hb hby d6_72)
      obtain ⟨T1248, X1248, e1248, st1248⟩ := getF X1247 hx hZ hown (host := "") (Or.inl (own_w hw 25 rfl)) Via.refl e1247 Fe1170 (g := (mkF m 76 #[.val (.ref a1), .val (.long q2), .second, .val (.int (1 : Int32)), .val (.int (0 : Int32)), .val (.int y0)] [(.ref a1), (.ref ac1170)])) rfl rfl (hb hby d6_76)
      obtain ⟨cl1249, A1249, q1249, S1249, M1249, H1249, J1249⟩ := id Vc1170
      have hin1249 : ¬ ((2 : Int32) < 0 ∨ cl1249.slots.size ≤ ((2 : Int32)).toNatClampNeg) := inb_of S1249 ⟨by decide, by decide⟩
      have hat1249 : cl1249.slots[((2 : Int32)).toNatClampNeg]? = some (.int y2) := H1249.at hin1249 rfl
      have pre1250 : ∀ t, Steps p.tables e below (T1248.setTop (mkF m 85 #[.val (.ref a1), .val (.long q2), .second, .val (.int (1 : Int32)), .val (.int (0 : Int32)), .val (.int y0)] [(.int (y2 - y0))])) t → Steps p.tables e below (s₁.setTop (entryFrame m #[(.ref a1), (.long q2)] 6)) t := fun t kt => pre1176 t (by
        show Steps p.tables e below (T1175.setTop (mkF m 26 #[.val (.ref a1), .val (.long q2), .second, .unset, .unset, .unset] [(.long q2), (.int (3 : Int32)), (.int (0 : Int32)), (.ref am1170)])) _
        refine st1243 _ ?_
        refine XS.istoreN X1243.here hx rfl (hb hby d6_29) rfl (l' := #[.val (.ref a1), .val (.long q2), .second, .val (.int (1 : Int32)), .unset, .unset]) rfl ?_
        refine XS.iloadN X1243.here hx rfl (hb hby d6_30) rfl ?_
        refine XS.ifNo X1243.here hx rfl (hb hby d6_31) rfl ((if0 _ _).trans (flt (by decide : ¬ ((1 : Int32) < (0 : Int32)))).1) ?_
        refine XS.iloadN X1243.here hx rfl (hb hby d6_34) rfl ?_
        refine XS.goto X1243.here hx rfl (pc0 := 35) (pc' := 42) rfl (hb hby d6_35) (by decide) (by decide) ?_
        refine XS.iconst X1243.here hx rfl (hb hby d6_42) ?_
        refine XS.isub X1243.here hx rfl (hb hby d6_43) rfl ?_
        refine XS.istore X1243.here hx rfl (hb hby d6_44) rfl (l' := #[.val (.ref a1), .val (.long q2), .second, .val (.int (1 : Int32)), .val (.int (0 : Int32)), .unset]) rfl ?_
        refine XS.iload X1243.here hx rfl (hb hby d6_46) rfl ?_
        refine XS.aloadN X1243.here hx rfl (hb hby d6_48) rfl rfl ?_
        refine st1244 _ ?_
        show Steps p.tables e below (T1244.setTop (mkF m 52 #[.val (.ref a1), .val (.long q2), .second, .val (.int (1 : Int32)), .val (.int (0 : Int32)), .unset] [(.int (0 : Int32)), (.int (0 : Int32))])) _
        refine XS.icmpYes X1244.here hx rfl (pc0 := 52) (pc' := 62) rfl (hb hby d6_52) rfl (flt (by decide : ¬ ((0 : Int32) < (0 : Int32)))).2.1 (by decide) (by decide) ?_
        refine XS.aloadN X1244.here hx rfl (hb hby d6_62) rfl rfl ?_
        refine st1245 _ ?_
        refine XS.iload X1245.here hx rfl (hb hby d6_66) rfl ?_
        refine X1245.iaload hx (j := (0 : Int32)) (v := (.int y0)) (by rw [e1245]; exact A1246.1) (State.isArrayOf_alike hZ.alike A1246.2.1) A1246.2.2 hin1246 hat1246 (g := (mkF m 68 #[.val (.ref a1), .val (.long q2), .second, .val (.int (1 : Int32)), .val (.int (0 : Int32)), .unset] [(.int (0 : Int32)), (.ref ac1170)])) rfl rfl (hb hby d6_68) _ ?_
        refine XS.istore X1245.here hx rfl (hb hby d6_69) rfl (l' := #[.val (.ref a1), .val (.long q2), .second, .val (.int (1 : Int32)), .val (.int (0 : Int32)), .val (.int y0)]) rfl ?_
        refine XS.aloadN X1245.here hx rfl (hb hby d6_71) rfl rfl ?_
        refine st1247 _ ?_
        refine XS.aloadN X1247.here hx rfl (hb hby d6_75) rfl rfl ?_
        refine st1248 _ ?_
        refine XS.iconst X1248.here hx rfl (hb hby d6_79) ?_
        refine XS.isub X1248.here hx rfl (hb hby d6_80) rfl ?_
        show Steps p.tables e below (T1248.setTop (mkF m 81 #[.val (.ref a1), .val (.long q2), .second, .val (.int (1 : Int32)), .val (.int (0 : Int32)), .val (.int y0)] [(.int (2 : Int32)), (.ref ac1170)])) _
        refine X1248.iaload hx (j := (2 : Int32)) (v := (.int y2)) (by rw [e1248]; exact A1249.1) (State.isArrayOf_alike hZ.alike A1249.2.1) A1249.2.2 hin1249 hat1249 (g := (mkF m 81 #[.val (.ref a1), .val (.long q2), .second, .val (.int (1 : Int32)), .val (.int (0 : Int32)), .val (.int y0)] [(.int (2 : Int32)), (.ref ac1170)])) rfl rfl (hb hby d6_81) _ ?_
        refine XS.iload X1248.here hx rfl (hb hby d6_82) rfl ?_
        refine XS.isub X1248.here hx rfl (hb hby d6_84) rfl ?_
        exact kt)
      have lt1251 : ¬ (x2 < q2) := by
        rw [Int64.lt_iff_toInt_lt] at hs0 hs1 hc1177 hc1209 ⊢
        omega
      have lt1252 : ¬ (x1 < q2) := by
        rw [Int64.lt_iff_toInt_lt] at hs0 hs1 hc1177 hc1209 ⊢
        omega
      have lt1253 : x0 < q2 := by
        rw [Int64.lt_iff_toInt_lt] at hs0 hs1 hc1177 hc1209 ⊢
        omega
      have ev : (y2 - (if x2 < q2 then y2 else (if x1 < q2 then y1 else (if x0 < q2 then y0 else b)))) = (y2 - y0) := congrArg (fun z => y2 - z) (((if_neg lt1251).trans (if_neg lt1252)).trans (if_pos lt1253))
      exact own_retI X1248 hx Bd.notSynchronized Bd.returns (hb hby d6_85) pre1250 (show QRi (y2 - (if x2 < q2 then y2 else (if x1 < q2 then y1 else (if x0 < q2 then y0 else b)))) h0 n0 _ _ _ from ⟨by rw [ev], N1243, e1248⟩) (by decide) (by decide)
abbrev own_L_417 (q1 : Int64) (q2 : Int64) (p3 : Int32) (p4 : Int32) (p5 : Int32) (p6 : Int32) (kk : Int32) (lk : Int32) (m1 : Int64) (m2 : Int64) (m3 : Int64) (old : Int64) (ss : Int64) (b59 : Addr) (emR : Int32) (gaR : Int32) (gsR : Int32) (z24 z25 z26 z27 z28 z29 z30 z31 : Slot) : Array Slot := #[.val (.long q1), .second, .val (.long q2), .second, .val (.int p3), .val (.int p4), .val (.int p5), .val (.int p6), .val (.int kk), .val (.int lk), .val (.long m1), .second, .val (.long m2), .second, .val (.long m3), .second, .val (.long old), .second, .val (.long ss), .second, .val (.ref b59), .val (.int emR), .val (.int gaR), .val (.int gsR), z24, z25, z26, z27, z28, z29, z30, z31]
def Q0 (h0 : Heap) (n0 : Nat) (v : Option Value) (h : Heap) (L : List Loc) : Prop := v = some (.int (1 : Int32)) ∧ Fr n0 L
set_option maxRecDepth 65536 in
set_option maxHeartbeats 40000000 in
theorem rm0 (l : Launch) (Z : State) (a0 : Array Value) (hw : ∀ d ∈ tables_1, d.before a0 Z = true) (ws : List Jvm.Cond) (q1 q2 : Int64) (p3 p4 p5 p6 : Int32) (h0 : Heap) (n0 : Nat) (Z0 : n0 ≤ h0.size) :
    MetFree l x (head1 (Jvm.Cond.code x code maxLocals ret :: ws) room_1) (fun a U => a = #[(.long q1), (.long q2), (.int p3), (.int p4), (.int p5), (.int p6)] ∧ Z.Warmed39 U.vm ∧ U.heap = h0) (fun _ _ _ _ _ => True) (fun _ U o U' => ∃ v L, o = .returned v ∧ Q0 h0 n0 v U'.heap L ∧ FrameEnd U o U' L room_1.cells room_1.slots) := by
  refine MetFree.of_bodySF (plainFor_of_name pn_23) hisR ?_
  intro p e s m args below meth c s₁ Bd hml0 hP hK
  obtain ⟨rfl, hZ, hh⟩ := hP
  have hx := Bd.exec
  have hby := Bd.bytes
  have hml : c.maxLocals = 32 := hml0
  have hown : s.vm.findClass "com/example/viral_counter/viralcounter/PostTrendForgetBeforePinLaw" = some m.cls := findClass_of_methodNamed Bd.named
  have hnm := (name_of_methodNamed Bd.named Bd.method).1
  have X0 : Stand p l e room_1 s m #[(.long q1), (.long q2), (.int p3), (.int p4), (.int p5), (.int p6)] below meth c s₁ [] 0 0 := Stand.of_body Bd
  have e0 : s₁.heap = h0 := by rw [← hh, Bd.state]; rfl
  have N0 := Fr.nil n0
  have pre0 : ∀ t, Steps p.tables e below (s₁.setTop (mkF m 0 #[.val (.long q1), .second, .val (.long q2), .second, .val (.int p3), .val (.int p4), .val (.int p5), .val (.int p6), .unset, .unset, .unset, .unset, .unset, .unset, .unset, .unset, .unset, .unset, .unset, .unset, .unset, .unset, .unset, .unset, .unset, .unset, .unset, .unset, .unset, .unset, .unset, .unset] [])) t → Steps p.tables e below (s₁.setTop (entryFrame m #[(.long q1), (.long q2), (.int p3), (.int p4), (.int p5), (.int p6)] maxLocals)) t := fun t k => castTop (ef_22 m q1 q2 p3 p4 p5 p6) k
  have pre42 : ∀ t, Steps p.tables e below (s₁.setTop (mkF m 4 #[.val (.long q1), .second, .val (.long q2), .second, .val (.int p3), .val (.int p4), .val (.int p5), .val (.int p6), .unset, .unset, .unset, .unset, .unset, .unset, .unset, .unset, .unset, .unset, .unset, .unset, .unset, .unset, .unset, .unset, .unset, .unset, .unset, .unset, .unset, .unset, .unset, .unset] [(.int (p6 &&& (3 : Int32)))])) t → Steps p.tables e below (s₁.setTop (entryFrame m #[(.long q1), (.long q2), (.int p3), (.int p4), (.int p5), (.int p6)] maxLocals)) t := fun t kt => pre0 t (by
    show Steps p.tables e below (s₁.setTop (mkF m 0 #[.val (.long q1), .second, .val (.long q2), .second, .val (.int p3), .val (.int p4), .val (.int p5), .val (.int p6), .unset, .unset, .unset, .unset, .unset, .unset, .unset, .unset, .unset, .unset, .unset, .unset, .unset, .unset, .unset, .unset, .unset, .unset, .unset, .unset, .unset, .unset, .unset, .unset] [])) _
    refine XS.iload X0.here hx rfl (hb hby at_0) rfl ?_
    refine XS.iconst X0.here hx rfl (hb hby at_2) ?_
    refine XS.iand X0.here hx rfl (hb hby at_3) rfl ?_
    exact kt)
  obtain ⟨kk, hkk⟩ : ∃ z : Int32, z = (p6 &&& (3 : Int32)) := ⟨_, rfl⟩
  have pre43 : ∀ t, Steps p.tables e below (s₁.setTop (mkF m 4 #[.val (.long q1), .second, .val (.long q2), .second, .val (.int p3), .val (.int p4), .val (.int p5), .val (.int p6), .unset, .unset, .unset, .unset, .unset, .unset, .unset, .unset, .unset, .unset, .unset, .unset, .unset, .unset, .unset, .unset, .unset, .unset, .unset, .unset, .unset, .unset, .unset, .unset] [(.int kk)])) t → Steps p.tables e below (s₁.setTop (entryFrame m #[(.long q1), (.long q2), (.int p3), (.int p4), (.int p5), (.int p6)] maxLocals)) t := by rw [hkk]; exact pre42
  have pre44 : ∀ t, Steps p.tables e below (s₁.setTop (mkF m 12 #[.val (.long q1), .second, .val (.long q2), .second, .val (.int p3), .val (.int p4), .val (.int p5), .val (.int p6), .val (.int kk), .unset, .unset, .unset, .unset, .unset, .unset, .unset, .unset, .unset, .unset, .unset, .unset, .unset, .unset, .unset, .unset, .unset, .unset, .unset, .unset, .unset, .unset, .unset] [(.int ((p6 >>> ((2 : Int32) &&& 31)) &&& (1 : Int32)))])) t → Steps p.tables e below (s₁.setTop (entryFrame m #[(.long q1), (.long q2), (.int p3), (.int p4), (.int p5), (.int p6)] maxLocals)) t := fun t kt => pre43 t (by
    show Steps p.tables e below (s₁.setTop (mkF m 4 #[.val (.long q1), .second, .val (.long q2), .second, .val (.int p3), .val (.int p4), .val (.int p5), .val (.int p6), .unset, .unset, .unset, .unset, .unset, .unset, .unset, .unset, .unset, .unset, .unset, .unset, .unset, .unset, .unset, .unset, .unset, .unset, .unset, .unset, .unset, .unset, .unset, .unset] [(.int kk)])) _
    refine XS.istore X0.here hx rfl (hb hby at_4) rfl (l' := #[.val (.long q1), .second, .val (.long q2), .second, .val (.int p3), .val (.int p4), .val (.int p5), .val (.int p6), .val (.int kk), .unset, .unset, .unset, .unset, .unset, .unset, .unset, .unset, .unset, .unset, .unset, .unset, .unset, .unset, .unset, .unset, .unset, .unset, .unset, .unset, .unset, .unset, .unset]) rfl ?_
    refine XS.iload X0.here hx rfl (hb hby at_6) rfl ?_
    refine XS.iconst X0.here hx rfl (hb hby at_8) ?_
    refine XS.ishr X0.here hx rfl (hb hby at_9) rfl ?_
    refine XS.iconst X0.here hx rfl (hb hby at_10) ?_
    refine XS.iand X0.here hx rfl (hb hby at_11) rfl ?_
    exact kt)
  obtain ⟨lk, hlk⟩ : ∃ z : Int32, z = (if ((p6 >>> ((2 : Int32) &&& 31)) &&& (1 : Int32)) = (0 : Int32) then (0 : Int32) else (1 : Int32)) := ⟨_, rfl⟩
  have pre46 : ∀ t, Steps p.tables e below (s₁.setTop (mkF m 20 #[.val (.long q1), .second, .val (.long q2), .second, .val (.int p3), .val (.int p4), .val (.int p5), .val (.int p6), .val (.int kk), .unset, .unset, .unset, .unset, .unset, .unset, .unset, .unset, .unset, .unset, .unset, .unset, .unset, .unset, .unset, .unset, .unset, .unset, .unset, .unset, .unset, .unset, .unset] [(.int lk)])) t → Steps p.tables e below (s₁.setTop (entryFrame m #[(.long q1), (.long q2), (.int p3), (.int p4), (.int p5), (.int p6)] maxLocals)) t := fun t kt => pre44 t (by
    by_cases hc45 : ((p6 >>> ((2 : Int32) &&& 31)) &&& (1 : Int32)) = (0 : Int32)
    case pos =>
      show Steps p.tables e below (s₁.setTop (mkF m 12 #[.val (.long q1), .second, .val (.long q2), .second, .val (.int p3), .val (.int p4), .val (.int p5), .val (.int p6), .val (.int kk), .unset, .unset, .unset, .unset, .unset, .unset, .unset, .unset, .unset, .unset, .unset, .unset, .unset, .unset, .unset, .unset, .unset, .unset, .unset, .unset, .unset, .unset, .unset] [(.int ((p6 >>> ((2 : Int32) &&& 31)) &&& (1 : Int32)))])) _
      refine XS.ifYes X0.here hx rfl (pc0 := 12) (pc' := 19) rfl (hb hby at_12) rfl ((if0 _ _).trans (teq hc45).1) (by decide) (by decide) ?_
      refine XS.iconst X0.here hx rfl (hb hby at_19) ?_
      rw [show lk = (0 : Int32) from (hlk.trans (if_pos hc45))] at kt
      exact kt
    case neg =>
      show Steps p.tables e below (s₁.setTop (mkF m 12 #[.val (.long q1), .second, .val (.long q2), .second, .val (.int p3), .val (.int p4), .val (.int p5), .val (.int p6), .val (.int kk), .unset, .unset, .unset, .unset, .unset, .unset, .unset, .unset, .unset, .unset, .unset, .unset, .unset, .unset, .unset, .unset, .unset, .unset, .unset, .unset, .unset, .unset, .unset] [(.int ((p6 >>> ((2 : Int32) &&& 31)) &&& (1 : Int32)))])) _
      refine XS.ifNo X0.here hx rfl (hb hby at_12) rfl ((if0 _ _).trans (feq hc45).1) ?_
      refine XS.iconst X0.here hx rfl (hb hby at_15) ?_
      refine XS.goto X0.here hx rfl (pc0 := 16) (pc' := 20) rfl (hb hby at_16) (by decide) (by decide) ?_
      rw [show lk = (1 : Int32) from (hlk.trans (if_neg hc45))] at kt
      exact kt)
  have pre47 : ∀ t, Steps p.tables e below (s₁.setTop (mkF m 27 #[.val (.long q1), .second, .val (.long q2), .second, .val (.int p3), .val (.int p4), .val (.int p5), .val (.int p6), .val (.int kk), .val (.int lk), .unset, .unset, .unset, .unset, .unset, .unset, .unset, .unset, .unset, .unset, .unset, .unset, .unset, .unset, .unset, .unset, .unset, .unset, .unset, .unset, .unset, .unset] [(.int (lcmpW q1 (9223372036854775787 : Int64)))])) t → Steps p.tables e below (s₁.setTop (entryFrame m #[(.long q1), (.long q2), (.int p3), (.int p4), (.int p5), (.int p6)] maxLocals)) t := fun t kt => pre46 t (by
    show Steps p.tables e below (s₁.setTop (mkF m 20 #[.val (.long q1), .second, .val (.long q2), .second, .val (.int p3), .val (.int p4), .val (.int p5), .val (.int p6), .val (.int kk), .unset, .unset, .unset, .unset, .unset, .unset, .unset, .unset, .unset, .unset, .unset, .unset, .unset, .unset, .unset, .unset, .unset, .unset, .unset, .unset, .unset, .unset, .unset] [(.int lk)])) _
    refine XS.istore X0.here hx rfl (hb hby at_20) rfl (l' := #[.val (.long q1), .second, .val (.long q2), .second, .val (.int p3), .val (.int p4), .val (.int p5), .val (.int p6), .val (.int kk), .val (.int lk), .unset, .unset, .unset, .unset, .unset, .unset, .unset, .unset, .unset, .unset, .unset, .unset, .unset, .unset, .unset, .unset, .unset, .unset, .unset, .unset, .unset, .unset]) rfl ?_
    refine XS.lloadN X0.here hx rfl (hb hby at_22) rfl ?_
    refine X0.ldc2Long hx hown (mvT hZ (own_w hw 0 rfl)) (g := (mkF m 23 #[.val (.long q1), .second, .val (.long q2), .second, .val (.int p3), .val (.int p4), .val (.int p5), .val (.int p6), .val (.int kk), .val (.int lk), .unset, .unset, .unset, .unset, .unset, .unset, .unset, .unset, .unset, .unset, .unset, .unset, .unset, .unset, .unset, .unset, .unset, .unset, .unset, .unset, .unset, .unset] [(.long q1)])) rfl (hb hby at_23) _ ?_
    refine XS.lcmp X0.here hx rfl (hb hby at_26) rfl ?_
    exact kt)
  obtain ⟨m1, hm1⟩ : ∃ z : Int64, z = (if (9223372036854775787 : Int64) < q1 then (q1 - (20 : Int64)) else q1) := ⟨_, rfl⟩
  have pre49 : ∀ t, Steps p.tables e below (s₁.setTop (mkF m 39 #[.val (.long q1), .second, .val (.long q2), .second, .val (.int p3), .val (.int p4), .val (.int p5), .val (.int p6), .val (.int kk), .val (.int lk), .unset, .unset, .unset, .unset, .unset, .unset, .unset, .unset, .unset, .unset, .unset, .unset, .unset, .unset, .unset, .unset, .unset, .unset, .unset, .unset, .unset, .unset] [(.long m1)])) t → Steps p.tables e below (s₁.setTop (entryFrame m #[(.long q1), (.long q2), (.int p3), (.int p4), (.int p5), (.int p6)] maxLocals)) t := fun t kt => pre47 t (by
    by_cases hc48 : (9223372036854775787 : Int64) < q1
    case pos =>
      show Steps p.tables e below (s₁.setTop (mkF m 27 #[.val (.long q1), .second, .val (.long q2), .second, .val (.int p3), .val (.int p4), .val (.int p5), .val (.int p6), .val (.int kk), .val (.int lk), .unset, .unset, .unset, .unset, .unset, .unset, .unset, .unset, .unset, .unset, .unset, .unset, .unset, .unset, .unset, .unset, .unset, .unset, .unset, .unset, .unset, .unset] [(.int (lcmpW q1 (9223372036854775787 : Int64)))])) _
      refine XS.ifNo X0.here hx rfl (hb hby at_27) rfl ((if0 _ _).trans (tlt ((lw_gt _ _).mpr hc48)).2.2.2) ?_
      refine XS.lloadN X0.here hx rfl (hb hby at_30) rfl ?_
      refine X0.ldc2Long hx hown (mvT hZ (own_w hw 82 rfl)) (g := (mkF m 31 #[.val (.long q1), .second, .val (.long q2), .second, .val (.int p3), .val (.int p4), .val (.int p5), .val (.int p6), .val (.int kk), .val (.int lk), .unset, .unset, .unset, .unset, .unset, .unset, .unset, .unset, .unset, .unset, .unset, .unset, .unset, .unset, .unset, .unset, .unset, .unset, .unset, .unset, .unset, .unset] [(.long q1)])) rfl (hb hby at_31) _ ?_
      refine XS.lsub X0.here hx rfl (hb hby at_34) rfl ?_
      refine XS.goto X0.here hx rfl (pc0 := 35) (pc' := 39) rfl (hb hby at_35) (by decide) (by decide) ?_
      rw [show m1 = (q1 - (20 : Int64)) from (hm1.trans (if_pos hc48))] at kt
      exact kt
    case neg =>
      show Steps p.tables e below (s₁.setTop (mkF m 27 #[.val (.long q1), .second, .val (.long q2), .second, .val (.int p3), .val (.int p4), .val (.int p5), .val (.int p6), .val (.int kk), .val (.int lk), .unset, .unset, .unset, .unset, .unset, .unset, .unset, .unset, .unset, .unset, .unset, .unset, .unset, .unset, .unset, .unset, .unset, .unset, .unset, .unset, .unset, .unset] [(.int (lcmpW q1 (9223372036854775787 : Int64)))])) _
      refine XS.ifYes X0.here hx rfl (pc0 := 27) (pc' := 38) rfl (hb hby at_27) rfl ((if0 _ _).trans (flt (fun q => hc48 ((lw_gt _ _).mp q))).2.2.2) (by decide) (by decide) ?_
      refine XS.lloadN X0.here hx rfl (hb hby at_38) rfl ?_
      rw [show m1 = q1 from (hm1.trans (if_neg hc48))] at kt
      exact kt)
  have pre50 : ∀ t, Steps p.tables e below (s₁.setTop (mkF m 53 #[.val (.long q1), .second, .val (.long q2), .second, .val (.int p3), .val (.int p4), .val (.int p5), .val (.int p6), .val (.int kk), .val (.int lk), .val (.long m1), .second, .unset, .unset, .unset, .unset, .unset, .unset, .unset, .unset, .unset, .unset, .unset, .unset, .unset, .unset, .unset, .unset, .unset, .unset, .unset, .unset] [(.long ((m1 + (1 : Int64)) + (((p6 >>> ((3 : Int32) &&& 31)) &&& (3 : Int32)).toInt64)))])) t → Steps p.tables e below (s₁.setTop (entryFrame m #[(.long q1), (.long q2), (.int p3), (.int p4), (.int p5), (.int p6)] maxLocals)) t := fun t kt => pre49 t (by
    show Steps p.tables e below (s₁.setTop (mkF m 39 #[.val (.long q1), .second, .val (.long q2), .second, .val (.int p3), .val (.int p4), .val (.int p5), .val (.int p6), .val (.int kk), .val (.int lk), .unset, .unset, .unset, .unset, .unset, .unset, .unset, .unset, .unset, .unset, .unset, .unset, .unset, .unset, .unset, .unset, .unset, .unset, .unset, .unset, .unset, .unset] [(.long m1)])) _
    refine XS.lstore X0.here hx rfl (hb hby at_39) rfl (l' := #[.val (.long q1), .second, .val (.long q2), .second, .val (.int p3), .val (.int p4), .val (.int p5), .val (.int p6), .val (.int kk), .val (.int lk), .val (.long m1), .second, .unset, .unset, .unset, .unset, .unset, .unset, .unset, .unset, .unset, .unset, .unset, .unset, .unset, .unset, .unset, .unset, .unset, .unset, .unset, .unset]) rfl ?_
    refine XS.lload X0.here hx rfl (hb hby at_41) rfl ?_
    refine XS.lconst X0.here hx rfl (hb hby at_43) ?_
    refine XS.ladd X0.here hx rfl (hb hby at_44) rfl ?_
    refine XS.iload X0.here hx rfl (hb hby at_45) rfl ?_
    refine XS.iconst X0.here hx rfl (hb hby at_47) ?_
    refine XS.ishr X0.here hx rfl (hb hby at_48) rfl ?_
    refine XS.iconst X0.here hx rfl (hb hby at_49) ?_
    refine XS.iand X0.here hx rfl (hb hby at_50) rfl ?_
    refine XS.i2l X0.here hx rfl (hb hby at_51) rfl ?_
    refine XS.ladd X0.here hx rfl (hb hby at_52) rfl ?_
    exact kt)
  obtain ⟨m2, hm2⟩ : ∃ z : Int64, z = ((m1 + (1 : Int64)) + (((p6 >>> ((3 : Int32) &&& 31)) &&& (3 : Int32)).toInt64)) := ⟨_, rfl⟩
  have pre51 : ∀ t, Steps p.tables e below (s₁.setTop (mkF m 53 #[.val (.long q1), .second, .val (.long q2), .second, .val (.int p3), .val (.int p4), .val (.int p5), .val (.int p6), .val (.int kk), .val (.int lk), .val (.long m1), .second, .unset, .unset, .unset, .unset, .unset, .unset, .unset, .unset, .unset, .unset, .unset, .unset, .unset, .unset, .unset, .unset, .unset, .unset, .unset, .unset] [(.long m2)])) t → Steps p.tables e below (s₁.setTop (entryFrame m #[(.long q1), (.long q2), (.int p3), (.int p4), (.int p5), (.int p6)] maxLocals)) t := by rw [hm2]; exact pre50
  have pre52 : ∀ t, Steps p.tables e below (s₁.setTop (mkF m 67 #[.val (.long q1), .second, .val (.long q2), .second, .val (.int p3), .val (.int p4), .val (.int p5), .val (.int p6), .val (.int kk), .val (.int lk), .val (.long m1), .second, .val (.long m2), .second, .unset, .unset, .unset, .unset, .unset, .unset, .unset, .unset, .unset, .unset, .unset, .unset, .unset, .unset, .unset, .unset, .unset, .unset] [(.long ((m2 + (1 : Int64)) + (((p6 >>> ((5 : Int32) &&& 31)) &&& (3 : Int32)).toInt64)))])) t → Steps p.tables e below (s₁.setTop (entryFrame m #[(.long q1), (.long q2), (.int p3), (.int p4), (.int p5), (.int p6)] maxLocals)) t := fun t kt => pre51 t (by
    show Steps p.tables e below (s₁.setTop (mkF m 53 #[.val (.long q1), .second, .val (.long q2), .second, .val (.int p3), .val (.int p4), .val (.int p5), .val (.int p6), .val (.int kk), .val (.int lk), .val (.long m1), .second, .unset, .unset, .unset, .unset, .unset, .unset, .unset, .unset, .unset, .unset, .unset, .unset, .unset, .unset, .unset, .unset, .unset, .unset, .unset, .unset] [(.long m2)])) _
    refine XS.lstore X0.here hx rfl (hb hby at_53) rfl (l' := #[.val (.long q1), .second, .val (.long q2), .second, .val (.int p3), .val (.int p4), .val (.int p5), .val (.int p6), .val (.int kk), .val (.int lk), .val (.long m1), .second, .val (.long m2), .second, .unset, .unset, .unset, .unset, .unset, .unset, .unset, .unset, .unset, .unset, .unset, .unset, .unset, .unset, .unset, .unset, .unset, .unset]) rfl ?_
    refine XS.lload X0.here hx rfl (hb hby at_55) rfl ?_
    refine XS.lconst X0.here hx rfl (hb hby at_57) ?_
    refine XS.ladd X0.here hx rfl (hb hby at_58) rfl ?_
    refine XS.iload X0.here hx rfl (hb hby at_59) rfl ?_
    refine XS.iconst X0.here hx rfl (hb hby at_61) ?_
    refine XS.ishr X0.here hx rfl (hb hby at_62) rfl ?_
    refine XS.iconst X0.here hx rfl (hb hby at_63) ?_
    refine XS.iand X0.here hx rfl (hb hby at_64) rfl ?_
    refine XS.i2l X0.here hx rfl (hb hby at_65) rfl ?_
    refine XS.ladd X0.here hx rfl (hb hby at_66) rfl ?_
    exact kt)
  obtain ⟨m3, hm3⟩ : ∃ z : Int64, z = ((m2 + (1 : Int64)) + (((p6 >>> ((5 : Int32) &&& 31)) &&& (3 : Int32)).toInt64)) := ⟨_, rfl⟩
  have pre53 : ∀ t, Steps p.tables e below (s₁.setTop (mkF m 67 #[.val (.long q1), .second, .val (.long q2), .second, .val (.int p3), .val (.int p4), .val (.int p5), .val (.int p6), .val (.int kk), .val (.int lk), .val (.long m1), .second, .val (.long m2), .second, .unset, .unset, .unset, .unset, .unset, .unset, .unset, .unset, .unset, .unset, .unset, .unset, .unset, .unset, .unset, .unset, .unset, .unset] [(.long m3)])) t → Steps p.tables e below (s₁.setTop (entryFrame m #[(.long q1), (.long q2), (.int p3), (.int p4), (.int p5), (.int p6)] maxLocals)) t := by rw [hm3]; exact pre52
  have b1 := own_m1 q1 m1 hm1
  have b2 := own_step m1 m2 _ 20 (by decide) (by decide) b1 hm2
  have b3 := own_step m2 m3 _ 16 (by decide) (by decide) b2.2 hm3
  have s12 := b2.1
  have s23 := b3.1
  have pre54 : ∀ t, Steps p.tables e below (s₁.setTop (mkF m 76 #[.val (.long q1), .second, .val (.long q2), .second, .val (.int p3), .val (.int p4), .val (.int p5), .val (.int p6), .val (.int kk), .val (.int lk), .val (.long m1), .second, .val (.long m2), .second, .val (.long m3), .second, .unset, .unset, .unset, .unset, .unset, .unset, .unset, .unset, .unset, .unset, .unset, .unset, .unset, .unset, .unset, .unset] [(.int ((p6 >>> ((7 : Int32) &&& 31)) &&& (1 : Int32)))])) t → Steps p.tables e below (s₁.setTop (entryFrame m #[(.long q1), (.long q2), (.int p3), (.int p4), (.int p5), (.int p6)] maxLocals)) t := fun t kt => pre53 t (by
    show Steps p.tables e below (s₁.setTop (mkF m 67 #[.val (.long q1), .second, .val (.long q2), .second, .val (.int p3), .val (.int p4), .val (.int p5), .val (.int p6), .val (.int kk), .val (.int lk), .val (.long m1), .second, .val (.long m2), .second, .unset, .unset, .unset, .unset, .unset, .unset, .unset, .unset, .unset, .unset, .unset, .unset, .unset, .unset, .unset, .unset, .unset, .unset] [(.long m3)])) _
    refine XS.lstore X0.here hx rfl (hb hby at_67) rfl (l' := #[.val (.long q1), .second, .val (.long q2), .second, .val (.int p3), .val (.int p4), .val (.int p5), .val (.int p6), .val (.int kk), .val (.int lk), .val (.long m1), .second, .val (.long m2), .second, .val (.long m3), .second, .unset, .unset, .unset, .unset, .unset, .unset, .unset, .unset, .unset, .unset, .unset, .unset, .unset, .unset, .unset, .unset]) rfl ?_
    refine XS.iload X0.here hx rfl (hb hby at_69) rfl ?_
    refine XS.bipush X0.here hx rfl (hb hby at_71) ?_
    refine XS.ishr X0.here hx rfl (hb hby at_73) rfl ?_
    refine XS.iconst X0.here hx rfl (hb hby at_74) ?_
    refine XS.iand X0.here hx rfl (hb hby at_75) rfl ?_
    exact kt)
  obtain ⟨old, hold⟩ : ∃ z : Int64, z = (if ((p6 >>> ((7 : Int32) &&& 31)) &&& (1 : Int32)) = (0 : Int32) then ((m1 + (q2 &&& (15 : Int64))) - (3 : Int64)) else q2) := ⟨_, rfl⟩
  have pre56 : ∀ t, Steps p.tables e below (s₁.setTop (mkF m 95 #[.val (.long q1), .second, .val (.long q2), .second, .val (.int p3), .val (.int p4), .val (.int p5), .val (.int p6), .val (.int kk), .val (.int lk), .val (.long m1), .second, .val (.long m2), .second, .val (.long m3), .second, .unset, .unset, .unset, .unset, .unset, .unset, .unset, .unset, .unset, .unset, .unset, .unset, .unset, .unset, .unset, .unset] [(.long old)])) t → Steps p.tables e below (s₁.setTop (entryFrame m #[(.long q1), (.long q2), (.int p3), (.int p4), (.int p5), (.int p6)] maxLocals)) t := fun t kt => pre54 t (by
    by_cases hc55 : ((p6 >>> ((7 : Int32) &&& 31)) &&& (1 : Int32)) = (0 : Int32)
    case pos =>
      show Steps p.tables e below (s₁.setTop (mkF m 76 #[.val (.long q1), .second, .val (.long q2), .second, .val (.int p3), .val (.int p4), .val (.int p5), .val (.int p6), .val (.int kk), .val (.int lk), .val (.long m1), .second, .val (.long m2), .second, .val (.long m3), .second, .unset, .unset, .unset, .unset, .unset, .unset, .unset, .unset, .unset, .unset, .unset, .unset, .unset, .unset, .unset, .unset] [(.int ((p6 >>> ((7 : Int32) &&& 31)) &&& (1 : Int32)))])) _
      refine XS.ifYes X0.here hx rfl (pc0 := 76) (pc' := 83) rfl (hb hby at_76) rfl ((if0 _ _).trans (teq hc55).1) (by decide) (by decide) ?_
      refine XS.lload X0.here hx rfl (hb hby at_83) rfl ?_
      refine XS.lloadN X0.here hx rfl (hb hby at_85) rfl ?_
      refine X0.ldc2Long hx hown (mvT hZ (own_w hw 1 rfl)) (g := (mkF m 86 #[.val (.long q1), .second, .val (.long q2), .second, .val (.int p3), .val (.int p4), .val (.int p5), .val (.int p6), .val (.int kk), .val (.int lk), .val (.long m1), .second, .val (.long m2), .second, .val (.long m3), .second, .unset, .unset, .unset, .unset, .unset, .unset, .unset, .unset, .unset, .unset, .unset, .unset, .unset, .unset, .unset, .unset] [(.long q2), (.long m1)])) rfl (hb hby at_86) _ ?_
      refine XS.land X0.here hx rfl (hb hby at_89) rfl ?_
      refine XS.ladd X0.here hx rfl (hb hby at_90) rfl ?_
      refine X0.ldc2Long hx hown (mvT hZ (own_w hw 2 rfl)) (g := (mkF m 91 #[.val (.long q1), .second, .val (.long q2), .second, .val (.int p3), .val (.int p4), .val (.int p5), .val (.int p6), .val (.int kk), .val (.int lk), .val (.long m1), .second, .val (.long m2), .second, .val (.long m3), .second, .unset, .unset, .unset, .unset, .unset, .unset, .unset, .unset, .unset, .unset, .unset, .unset, .unset, .unset, .unset, .unset] [(.long (m1 + (q2 &&& (15 : Int64))))])) rfl (hb hby at_91) _ ?_
      refine XS.lsub X0.here hx rfl (hb hby at_94) rfl ?_
      rw [show old = ((m1 + (q2 &&& (15 : Int64))) - (3 : Int64)) from (hold.trans (if_pos hc55))] at kt
      exact kt
    case neg =>
      show Steps p.tables e below (s₁.setTop (mkF m 76 #[.val (.long q1), .second, .val (.long q2), .second, .val (.int p3), .val (.int p4), .val (.int p5), .val (.int p6), .val (.int kk), .val (.int lk), .val (.long m1), .second, .val (.long m2), .second, .val (.long m3), .second, .unset, .unset, .unset, .unset, .unset, .unset, .unset, .unset, .unset, .unset, .unset, .unset, .unset, .unset, .unset, .unset] [(.int ((p6 >>> ((7 : Int32) &&& 31)) &&& (1 : Int32)))])) _
      refine XS.ifNo X0.here hx rfl (hb hby at_76) rfl ((if0 _ _).trans (feq hc55).1) ?_
      refine XS.lloadN X0.here hx rfl (hb hby at_79) rfl ?_
      refine XS.goto X0.here hx rfl (pc0 := 80) (pc' := 95) rfl (hb hby at_80) (by decide) (by decide) ?_
      rw [show old = q2 from (hold.trans (if_neg hc55))] at kt
      exact kt)
  have pre57 : ∀ t, Steps p.tables e below (s₁.setTop (mkF m 113 #[.val (.long q1), .second, .val (.long q2), .second, .val (.int p3), .val (.int p4), .val (.int p5), .val (.int p6), .val (.int kk), .val (.int lk), .val (.long m1), .second, .val (.long m2), .second, .val (.long m3), .second, .val (.long old), .second, .unset, .unset, .unset, .unset, .unset, .unset, .unset, .unset, .unset, .unset, .unset, .unset, .unset, .unset] [(.long ((m1 + (((p6 >>> ((8 : Int32) &&& 31)) &&& (15 : Int32)).toInt64)) - (3 : Int64)))])) t → Steps p.tables e below (s₁.setTop (entryFrame m #[(.long q1), (.long q2), (.int p3), (.int p4), (.int p5), (.int p6)] maxLocals)) t := fun t kt => pre56 t (by
    show Steps p.tables e below (s₁.setTop (mkF m 95 #[.val (.long q1), .second, .val (.long q2), .second, .val (.int p3), .val (.int p4), .val (.int p5), .val (.int p6), .val (.int kk), .val (.int lk), .val (.long m1), .second, .val (.long m2), .second, .val (.long m3), .second, .unset, .unset, .unset, .unset, .unset, .unset, .unset, .unset, .unset, .unset, .unset, .unset, .unset, .unset, .unset, .unset] [(.long old)])) _
    refine XS.lstore X0.here hx rfl (hb hby at_95) rfl (l' := #[.val (.long q1), .second, .val (.long q2), .second, .val (.int p3), .val (.int p4), .val (.int p5), .val (.int p6), .val (.int kk), .val (.int lk), .val (.long m1), .second, .val (.long m2), .second, .val (.long m3), .second, .val (.long old), .second, .unset, .unset, .unset, .unset, .unset, .unset, .unset, .unset, .unset, .unset, .unset, .unset, .unset, .unset]) rfl ?_
    refine XS.lload X0.here hx rfl (hb hby at_97) rfl ?_
    refine XS.iload X0.here hx rfl (hb hby at_99) rfl ?_
    refine XS.bipush X0.here hx rfl (hb hby at_101) ?_
    refine XS.ishr X0.here hx rfl (hb hby at_103) rfl ?_
    refine XS.bipush X0.here hx rfl (hb hby at_104) ?_
    refine XS.iand X0.here hx rfl (hb hby at_106) rfl ?_
    refine XS.i2l X0.here hx rfl (hb hby at_107) rfl ?_
    refine XS.ladd X0.here hx rfl (hb hby at_108) rfl ?_
    refine X0.ldc2Long hx hown (mvT hZ (own_w hw 2 rfl)) (g := (mkF m 109 #[.val (.long q1), .second, .val (.long q2), .second, .val (.int p3), .val (.int p4), .val (.int p5), .val (.int p6), .val (.int kk), .val (.int lk), .val (.long m1), .second, .val (.long m2), .second, .val (.long m3), .second, .val (.long old), .second, .unset, .unset, .unset, .unset, .unset, .unset, .unset, .unset, .unset, .unset, .unset, .unset, .unset, .unset] [(.long (m1 + (((p6 >>> ((8 : Int32) &&& 31)) &&& (15 : Int32)).toInt64)))])) rfl (hb hby at_109) _ ?_
    refine XS.lsub X0.here hx rfl (hb hby at_112) rfl ?_
    exact kt)
  obtain ⟨ss, hss⟩ : ∃ z : Int64, z = ((m1 + (((p6 >>> ((8 : Int32) &&& 31)) &&& (15 : Int32)).toInt64)) - (3 : Int64)) := ⟨_, rfl⟩
  have pre58 : ∀ t, Steps p.tables e below (s₁.setTop (mkF m 113 #[.val (.long q1), .second, .val (.long q2), .second, .val (.int p3), .val (.int p4), .val (.int p5), .val (.int p6), .val (.int kk), .val (.int lk), .val (.long m1), .second, .val (.long m2), .second, .val (.long m3), .second, .val (.long old), .second, .unset, .unset, .unset, .unset, .unset, .unset, .unset, .unset, .unset, .unset, .unset, .unset, .unset, .unset] [(.long ss)])) t → Steps p.tables e below (s₁.setTop (entryFrame m #[(.long q1), (.long q2), (.int p3), (.int p4), (.int p5), (.int p6)] maxLocals)) t := by rw [hss]; exact pre57
  obtain ⟨T59, h59, X59, e59, E59, A59, D59, -, st59⟩ := newO X0 hx hZ hown (own_w hw 3 rfl) (own_w hw 4 rfl) (own_w hw 5 rfl) e0 (g := (mkF m 115 #[.val (.long q1), .second, .val (.long q2), .second, .val (.int p3), .val (.int p4), .val (.int p5), .val (.int p6), .val (.int kk), .val (.int lk), .val (.long m1), .second, .val (.long m2), .second, .val (.long m3), .second, .val (.long old), .second, .val (.long ss), .second, .unset, .unset, .unset, .unset, .unset, .unset, .unset, .unset, .unset, .unset, .unset, .unset] [])) rfl (hb hby at_115) (by decide) (by decide)
  obtain ⟨b59, g59⟩ : ∃ z, z = h0.size := ⟨_, rfl⟩
  rw [← g59] at A59 D59 st59
  have G59 : n0 ≤ b59 := Nat.le_trans Z0 (Nat.le_of_eq g59.symm)
  have F60 : Fld Z h59 b59 "com/example/viral_counter/viralcounter/PostTrend" "minutes" "[J" .null := D59 (Or.inl (own_w hw 14 rfl)) (ty := (.array .long)) (by decide)
  have F61 : Fld Z h59 b59 "com/example/viral_counter/viralcounter/PostTrend" "counts" "[I" .null := D59 (Or.inl (own_w hw 17 rfl)) (ty := (.array .int)) (by decide)
  have F62 : Fld Z h59 b59 "com/example/viral_counter/viralcounter/PostTrend" "first" "I" (.int (0 : Int32)) := D59 (Or.inl (own_w hw 24 rfl)) (ty := .int) (by decide)
  have F63 : Fld Z h59 b59 "com/example/viral_counter/viralcounter/PostTrend" "end" "I" (.int (0 : Int32)) := D59 (Or.inl (own_w hw 26 rfl)) (ty := .int) (by decide)
  have F64 : Fld Z h59 b59 "com/example/viral_counter/viralcounter/PostTrend" "before" "I" (.int (0 : Int32)) := D59 (Or.inl (own_w hw 28 rfl)) (ty := .int) (by decide)
  have z65 : n0 ≤ h59.size := Nat.le_trans Z0 E59.1
  obtain ⟨_, _, ⟨T66, L66, k66, n66⟩, -, X66, ⟨Lc66, hQ66, l66, y66, z66⟩, st66⟩ := X59.specialBack hx (y := own_y_0) rfl hown (mvT hZ (own_w hw 6 rfl)) (mvT hZ (own_w hw 7 rfl)) (mvT hZ (own_w hw 8 rfl)) (by decide) (backOf (W := 1) (rmNew l Z a0 hw [] b59 h59 n0 z65 A59 F60 F61 F62 F63 F64 G59) hZ (own_w hw 8 rfl) (own_w hw 5 rfl) (by decide) (by decide)) (g := (mkF m 119 #[.val (.long q1), .second, .val (.long q2), .second, .val (.int p3), .val (.int p4), .val (.int p5), .val (.int p6), .val (.int kk), .val (.int lk), .val (.long m1), .second, .val (.long m2), .second, .val (.long m3), .second, .val (.long old), .second, .val (.long ss), .second, .unset, .unset, .unset, .unset, .unset, .unset, .unset, .unset, .unset, .unset, .unset, .unset] [(.ref b59), (.ref b59)])) rfl (by rw [hml]; rfl) (Steps.refl _) (a := b59) (argsL := []) (rest := [(.ref b59)]) (lenOf pd_24 rfl) rfl (by show 2 * 0 + _ ≤ _; exact Nat.le_of_eq rfl) (hb hby at_119) (fun _ _ => ⟨rfl, e59, (by decide : 1 + 2 ≤ _), (by decide : 6 + 4 ≤ _)⟩)
  dsimp only [Pt.U, Pt.locs, Pt.cells, Pt.slots] at X66 l66 y66 z66 st66 hQ66
  subst l66 y66 z66
  obtain ⟨rfl, Nq66, z66, P66⟩ := hQ66
  have N66 := Fr.app N0 Nq66
  have z67 : n0 ≤ T66.heap.size := Nat.le_trans z65 z66
  have pre68 : ∀ t, Steps p.tables e below (T66.setTop (mkF m 124 #[.val (.long q1), .second, .val (.long q2), .second, .val (.int p3), .val (.int p4), .val (.int p5), .val (.int p6), .val (.int kk), .val (.int lk), .val (.long m1), .second, .val (.long m2), .second, .val (.long m3), .second, .val (.long old), .second, .val (.long ss), .second, .val (.ref b59), .unset, .unset, .unset, .unset, .unset, .unset, .unset, .unset, .unset, .unset, .unset] [])) t → Steps p.tables e below (s₁.setTop (entryFrame m #[(.long q1), (.long q2), (.int p3), (.int p4), (.int p5), (.int p6)] maxLocals)) t := fun t kt => pre58 t (by
    show Steps p.tables e below (s₁.setTop (mkF m 113 #[.val (.long q1), .second, .val (.long q2), .second, .val (.int p3), .val (.int p4), .val (.int p5), .val (.int p6), .val (.int kk), .val (.int lk), .val (.long m1), .second, .val (.long m2), .second, .val (.long m3), .second, .val (.long old), .second, .unset, .unset, .unset, .unset, .unset, .unset, .unset, .unset, .unset, .unset, .unset, .unset, .unset, .unset] [(.long ss)])) _
    refine XS.lstore X0.here hx rfl (hb hby at_113) rfl (l' := #[.val (.long q1), .second, .val (.long q2), .second, .val (.int p3), .val (.int p4), .val (.int p5), .val (.int p6), .val (.int kk), .val (.int lk), .val (.long m1), .second, .val (.long m2), .second, .val (.long m3), .second, .val (.long old), .second, .val (.long ss), .second, .unset, .unset, .unset, .unset, .unset, .unset, .unset, .unset, .unset, .unset, .unset, .unset]) rfl ?_
    refine st59 _ ?_
    refine XS.dup X59.here hx rfl (hb hby at_118) rfl rfl ?_
    refine st66.trans ?_
    refine XS.astore X66.here hx rfl (hb hby at_122) rfl rfl (l' := #[.val (.long q1), .second, .val (.long q2), .second, .val (.int p3), .val (.int p4), .val (.int p5), .val (.int p6), .val (.int kk), .val (.int lk), .val (.long m1), .second, .val (.long m2), .second, .val (.long m3), .second, .val (.long old), .second, .val (.long ss), .second, .val (.ref b59), .unset, .unset, .unset, .unset, .unset, .unset, .unset, .unset, .unset, .unset, .unset]) rfl ?_
    exact kt)
  obtain ⟨f1, hf1⟩ : ∃ z : Int32, z = (if kk < (1 : Int32) then (0 : Int32) else (if m1 < old then (1 : Int32) else (0 : Int32))) := ⟨_, rfl⟩
  obtain ⟨f2, hf2⟩ : ∃ z : Int32, z = (if kk < (2 : Int32) then f1 else (if m2 < old then (2 : Int32) else f1)) := ⟨_, rfl⟩
  obtain ⟨f3, hf3⟩ : ∃ z : Int32, z = (if kk < (3 : Int32) then f2 else (if m3 < old then (3 : Int32) else f2)) := ⟨_, rfl⟩
  obtain ⟨b0, hb0⟩ : ∃ z : Int32, z = (if lk = (0 : Int32) then (p3 + (1 : Int32)) else (p3 - (1 : Int32))) := ⟨_, rfl⟩
  obtain ⟨bR, hbR⟩ : ∃ z : Int32, z = (if f3 = (0 : Int32) then b0 else (if f3 = (1 : Int32) then p3 else (if f3 = (2 : Int32) then p4 else p5))) := ⟨_, rfl⟩
  obtain ⟨emR, hemR⟩ : ∃ z : Int32, z = (if f3 = kk then (1 : Int32) else (0 : Int32)) := ⟨_, rfl⟩
  obtain ⟨las, hlas⟩ : ∃ z : Int32, z = (if kk = (1 : Int32) then p3 else (if kk = (2 : Int32) then p4 else p5)) := ⟨_, rfl⟩
  obtain ⟨st1, hst1⟩ : ∃ z : Int32, z = (if f3 < (1 : Int32) then (if kk < (1 : Int32) then bR else (if m1 < ss then p3 else bR)) else bR) := ⟨_, rfl⟩
  obtain ⟨st2, hst2⟩ : ∃ z : Int32, z = (if f3 < (2 : Int32) then (if kk < (2 : Int32) then st1 else (if m2 < ss then p4 else st1)) else st1) := ⟨_, rfl⟩
  obtain ⟨st3, hst3⟩ : ∃ z : Int32, z = (if f3 < (3 : Int32) then (if kk < (3 : Int32) then st2 else (if m3 < ss then p5 else st2)) else st2) := ⟨_, rfl⟩
  obtain ⟨gaR, hgaR⟩ : ∃ z : Int32, z = (if emR = (0 : Int32) then (las - bR) else (0 : Int32)) := ⟨_, rfl⟩
  obtain ⟨gsR, hgsR⟩ : ∃ z : Int32, z = (if emR = (0 : Int32) then (las - st3) else (0 : Int32)) := ⟨_, rfl⟩
  obtain ⟨T1259, L1259, X1259, N1259, pre1259⟩ : ∃ (T' : State) (locs' : List Loc), Stand p l e room_1 s m #[(.long q1), (.long q2), (.int p3), (.int p4), (.int p5), (.int p6)] below meth c T' locs' 5 18 ∧ Fr n0 locs' ∧ ∀ t, Steps p.tables e below (T'.setTop (mkF m 208 (own_L_25 q1 q2 p3 p4 p5 p6 lk m1 m2 m3 old ss b59 (.val (.int kk)) (.val (.int emR)) (.val (.int gaR)) (.val (.int gsR))) [])) t → Steps p.tables e below (s₁.setTop (entryFrame m #[(.long q1), (.long q2), (.int p3), (.int p4), (.int p5), (.int p6)] maxLocals)) t := by
    have hkk4 := own_and3 p6
    rw [← hkk] at hkk4
    rcases hkk4 with hk | hk | hk | hk
    · have pre117 : ∀ t, Steps p.tables e below (T66.setTop (mkF m 124 (own_L_25 q1 q2 p3 p4 p5 p6 lk m1 m2 m3 old ss b59 (.val (.int (0 : Int32))) .unset .unset .unset) [])) t → Steps p.tables e below (s₁.setTop (entryFrame m #[(.long q1), (.long q2), (.int p3), (.int p4), (.int p5), (.int p6)] maxLocals)) t := by have q := pre68; rw [hk] at q; exact q
      obtain ⟨cq122, kq122, q122a, q122b, q122c⟩ := isOf hZ rfl (own_pt_exa P66)
      obtain ⟨_, _, ⟨T122, L122, k122, n122⟩, -, X122, ⟨Lc122, hQ122, l122, y122, z122⟩, st122⟩ := X66.virtualBack hx (y := own_y_32) (z := own_y_32) hown (mvT hZ (own_w hw 29 rfl)) (mvT hZ (own_w hw 30 rfl)) (notFace_of_selects (args := #[]) (mvT hZ (own_w hw 32 rfl))) (mvT hZ (own_w hw 32 rfl)) (mvT hZ (own_w hw 31 rfl)) (by decide) (backOf (W := 0) (rmFgt002_0 l Z a0 hw [] b59 old (0 : Int64) (0 : Int64) (0 : Int32) (0 : Int32) (0 : Int32) T66.heap n0 z67 P66 ) hZ (own_w hw 33 rfl) (own_w hw 5 rfl) (by decide) (by decide)) q122a q122c (g := (mkF m 179 (own_L_25 q1 q2 p3 p4 p5 p6 lk m1 m2 m3 old ss b59 (.val (.int (0 : Int32))) .unset .unset .unset) [(.long old), (.ref b59)])) rfl (by rw [hml]; rfl) (Steps.refl _) (argsL := [(.long old)]) (rest := []) (lenOf pd_34 rfl) rfl (by show 2 * 0 + _ ≤ _; exact Nat.le_of_eq rfl) (hb hby at_179) (fun _ _ => ⟨rfl, rfl, (by decide : 3 + 0 ≤ _), (by decide : 10 + 0 ≤ _)⟩)
      dsimp only [Pt.U, Pt.locs, Pt.cells, Pt.slots] at X122 l122 y122 z122 st122 hQ122
      subst l122 y122 z122
      obtain ⟨rfl, Nq122, z122, P122⟩ := hQ122
      have N122 := Fr.app N66 Nq122
      have z123 : n0 ≤ T122.heap.size := Nat.le_trans z67 z122
      obtain ⟨cq127, kq127, q127a, q127b, q127c⟩ := isOf hZ rfl (own_pt_exa P122)
      obtain ⟨_, _, ⟨T127, L127, k127, n127⟩, -, X127, ⟨Lc127, hQ127, l127, y127, z127⟩, st127⟩ := X122.virtualBack hx (y := own_y_35) (z := own_y_35) hown (mvT hZ (own_w hw 34 rfl)) (mvT hZ (own_w hw 35 rfl)) (notFace_of_selects (args := #[]) (mvT hZ (own_w hw 37 rfl))) (mvT hZ (own_w hw 37 rfl)) (mvT hZ (own_w hw 36 rfl)) (by decide) (backOf (W := 0) (rmEmpT l Z a0 hw [] b59 _ _ _ _ _ _ T122.heap n0 z123 P122 (by decide)) hZ (own_w hw 38 rfl) (own_w hw 5 rfl) (by decide) (by decide)) q127a q127c (g := (mkF m 184 (own_L_25 q1 q2 p3 p4 p5 p6 lk m1 m2 m3 old ss b59 (.val (.int (0 : Int32))) .unset .unset .unset) [(.ref b59)])) rfl (by rw [hml]; rfl) (Steps.refl _) (argsL := []) (rest := []) (lenOf pd_45 rfl) rfl (by show 2 * 0 + _ ≤ _; exact Nat.le_of_eq rfl) (hb hby at_184) (fun _ _ => ⟨rfl, rfl, (by decide : 3 + 0 ≤ _), (by decide : 10 + 0 ≤ _)⟩)
      dsimp only [Pt.U, Pt.locs, Pt.cells, Pt.slots] at X127 l127 y127 z127 st127 hQ127
      subst l127 y127 z127
      obtain ⟨rfl, Nq127, e127⟩ := hQ127
      have N127 := Fr.app N122 Nq127
      obtain ⟨cq131, kq131, q131a, q131b, q131c⟩ := isOf hZ e127 (own_pt_exa P122)
      obtain ⟨_, _, ⟨T131, L131, k131, n131⟩, -, X131, ⟨Lc131, hQ131, l131, y131, z131⟩, st131⟩ := X127.virtualBack hx (y := own_y_46) (z := own_y_46) hown (mvT hZ (own_w hw 40 rfl)) (mvT hZ (own_w hw 41 rfl)) (notFace_of_selects (args := #[]) (mvT hZ (own_w hw 43 rfl))) (mvT hZ (own_w hw 43 rfl)) (mvT hZ (own_w hw 42 rfl)) (by decide) (backOf (W := 0) (rmGnE l Z a0 hw [] b59 (-9223372036854775808 : Int64) _ _ _ _ _ _ T122.heap n0 z123 P122 (by decide)) hZ (own_w hw 44 rfl) (own_w hw 5 rfl) (by decide) (by decide)) q131a q131c (g := (mkF m 194 (own_L_25 q1 q2 p3 p4 p5 p6 lk m1 m2 m3 old ss b59 (.val (.int (0 : Int32))) (.val (.int (1 : Int32))) .unset .unset) [(.long (-9223372036854775808 : Int64)), (.ref b59)])) rfl (by rw [hml]; rfl) (Steps.refl _) (argsL := [(.long (-9223372036854775808 : Int64))]) (rest := []) (lenOf pd_55 rfl) rfl (by show 2 * 0 + _ ≤ _; exact Nat.le_of_eq rfl) (hb hby at_194) (fun _ _ => ⟨rfl, e127, (by decide : 3 + 0 ≤ _), (by decide : 10 + 0 ≤ _)⟩)
      dsimp only [Pt.U, Pt.locs, Pt.cells, Pt.slots] at X131 l131 y131 z131 st131 hQ131
      subst l131 y131 z131
      obtain ⟨rfl, Nq131, e131⟩ := hQ131
      have N131 := Fr.app N127 Nq131
      obtain ⟨cq132, kq132, q132a, q132b, q132c⟩ := isOf hZ e131 (own_pt_exa P122)
      obtain ⟨_, _, ⟨T132, L132, k132, n132⟩, -, X132, ⟨Lc132, hQ132, l132, y132, z132⟩, st132⟩ := X131.virtualBack hx (y := own_y_46) (z := own_y_46) hown (mvT hZ (own_w hw 40 rfl)) (mvT hZ (own_w hw 41 rfl)) (notFace_of_selects (args := #[]) (mvT hZ (own_w hw 43 rfl))) (mvT hZ (own_w hw 43 rfl)) (mvT hZ (own_w hw 42 rfl)) (by decide) (backOf (W := 0) (rmGnE l Z a0 hw [] b59 ss _ _ _ _ _ _ T122.heap n0 z123 P122 (by decide)) hZ (own_w hw 44 rfl) (own_w hw 5 rfl) (by decide) (by decide)) q132a q132c (g := (mkF m 203 (own_L_25 q1 q2 p3 p4 p5 p6 lk m1 m2 m3 old ss b59 (.val (.int (0 : Int32))) (.val (.int (1 : Int32))) (.val (.int (0 : Int32))) .unset) [(.long ss), (.ref b59)])) rfl (by rw [hml]; rfl) (Steps.refl _) (argsL := [(.long ss)]) (rest := []) (lenOf pd_55 rfl) rfl (by show 2 * 0 + _ ≤ _; exact Nat.le_of_eq rfl) (hb hby at_203) (fun _ _ => ⟨rfl, e131, (by decide : 3 + 0 ≤ _), (by decide : 10 + 0 ≤ _)⟩)
      dsimp only [Pt.U, Pt.locs, Pt.cells, Pt.slots] at X132 l132 y132 z132 st132 hQ132
      subst l132 y132 z132
      obtain ⟨rfl, Nq132, e132⟩ := hQ132
      have N132 := Fr.app N131 Nq132
      have pre133 : ∀ t, Steps p.tables e below (T132.setTop (mkF m 208 (own_L_25 q1 q2 p3 p4 p5 p6 lk m1 m2 m3 old ss b59 (.val (.int (0 : Int32))) (.val (.int (1 : Int32))) (.val (.int (0 : Int32))) (.val (.int (0 : Int32)))) [])) t → Steps p.tables e below (s₁.setTop (entryFrame m #[(.long q1), (.long q2), (.int p3), (.int p4), (.int p5), (.int p6)] maxLocals)) t := fun t kt => pre117 t (by
        show Steps p.tables e below (T66.setTop (mkF m 124 (own_L_25 q1 q2 p3 p4 p5 p6 lk m1 m2 m3 old ss b59 (.val (.int (0 : Int32))) .unset .unset .unset) [])) _
        refine XS.iload X66.here hx rfl (hb hby at_124) rfl ?_
        refine XS.iconst X66.here hx rfl (hb hby at_126) ?_
        refine XS.icmpYes X66.here hx rfl (pc0 := 127) (pc' := 141) rfl (hb hby at_127) rfl (tlt (by decide : (0 : Int32) < (1 : Int32))).1 (by decide) (by decide) ?_
        refine XS.iload X66.here hx rfl (hb hby at_141) rfl ?_
        refine XS.iconst X66.here hx rfl (hb hby at_143) ?_
        refine XS.icmpYes X66.here hx rfl (pc0 := 144) (pc' := 158) rfl (hb hby at_144) rfl (tlt (by decide : (0 : Int32) < (2 : Int32))).1 (by decide) (by decide) ?_
        refine XS.iload X66.here hx rfl (hb hby at_158) rfl ?_
        refine XS.iconst X66.here hx rfl (hb hby at_160) ?_
        refine XS.icmpYes X66.here hx rfl (pc0 := 161) (pc' := 175) rfl (hb hby at_161) rfl (tlt (by decide : (0 : Int32) < (3 : Int32))).1 (by decide) (by decide) ?_
        refine XS.aload X66.here hx rfl (hb hby at_175) rfl rfl ?_
        refine XS.lload X66.here hx rfl (hb hby at_177) rfl ?_
        refine st122.trans ?_
        show Steps p.tables e below (T122.setTop (mkF m 182 (own_L_25 q1 q2 p3 p4 p5 p6 lk m1 m2 m3 old ss b59 (.val (.int (0 : Int32))) .unset .unset .unset) [])) _
        refine XS.aload X122.here hx rfl (hb hby at_182) rfl rfl ?_
        refine st127.trans ?_
        refine XS.istore X127.here hx rfl (hb hby at_187) rfl (l' := (own_L_25 q1 q2 p3 p4 p5 p6 lk m1 m2 m3 old ss b59 (.val (.int (0 : Int32))) (.val (.int (1 : Int32))) .unset .unset)) rfl ?_
        refine XS.aload X127.here hx rfl (hb hby at_189) rfl rfl ?_
        refine X127.ldc2Long hx hown (mvT hZ (own_w hw 39 rfl)) (g := (mkF m 191 (own_L_25 q1 q2 p3 p4 p5 p6 lk m1 m2 m3 old ss b59 (.val (.int (0 : Int32))) (.val (.int (1 : Int32))) .unset .unset) [(.ref b59)])) rfl (hb hby at_191) _ ?_
        refine st131.trans ?_
        refine XS.istore X131.here hx rfl (hb hby at_197) rfl (l' := (own_L_25 q1 q2 p3 p4 p5 p6 lk m1 m2 m3 old ss b59 (.val (.int (0 : Int32))) (.val (.int (1 : Int32))) (.val (.int (0 : Int32))) .unset)) rfl ?_
        refine XS.aload X131.here hx rfl (hb hby at_199) rfl rfl ?_
        refine XS.lload X131.here hx rfl (hb hby at_201) rfl ?_
        refine st132.trans ?_
        refine XS.istore X132.here hx rfl (hb hby at_206) rfl (l' := (own_L_25 q1 q2 p3 p4 p5 p6 lk m1 m2 m3 old ss b59 (.val (.int (0 : Int32))) (.val (.int (1 : Int32))) (.val (.int (0 : Int32))) (.val (.int (0 : Int32))))) rfl ?_
        exact kt)
      have f3' : f3 = (0 : Int32) := by rw [hf3, hf2, hf1, hk]; simp
      have g1 : emR = (1 : Int32) := by rw [hemR, f3', hk]; simp
      have g2 : gaR = (0 : Int32) := by rw [hgaR, g1]; simp
      have g3 : gsR = (0 : Int32) := by rw [hgsR, g1]; simp
      rw [hk, g1, g2, g3]
      exact ⟨T132, _, own_more X132 (by decide) (by decide), N132, pre133⟩
    · have pre134 : ∀ t, Steps p.tables e below (T66.setTop (mkF m 124 (own_L_25 q1 q2 p3 p4 p5 p6 lk m1 m2 m3 old ss b59 (.val (.int (1 : Int32))) .unset .unset .unset) [])) t → Steps p.tables e below (s₁.setTop (entryFrame m #[(.long q1), (.long q2), (.int p3), (.int p4), (.int p5), (.int p6)] maxLocals)) t := by have q := pre68; rw [hk] at q; exact q
      obtain ⟨cq194, kq194, q194a, q194b, q194c⟩ := isOf hZ rfl (own_pt_exa P66)
      obtain ⟨_, _, ⟨T194, L194, k194, n194⟩, -, X194, ⟨Lc194, hQ194, l194, y194, z194⟩, st194⟩ := X66.virtualBack hx (y := own_y_110) (z := own_y_110) hown (mvT hZ (own_w hw 18 rfl)) (mvT hZ (own_w hw 19 rfl)) (notFace_of_selects (args := #[]) (mvT hZ (own_w hw 21 rfl))) (mvT hZ (own_w hw 21 rfl)) (mvT hZ (own_w hw 20 rfl)) (by decide) (backOf (W := 0) (rmCnt002a l Z a0 hw [] b59 m1 p3 lk (0 : Int64) (0 : Int64) (0 : Int32) (0 : Int32) (0 : Int32) T66.heap n0 z67 P66) hZ (own_w hw 22 rfl) (own_w hw 5 rfl) (by decide) (by decide)) q194a q194c (g := (mkF m 138 (own_L_25 q1 q2 p3 p4 p5 p6 lk m1 m2 m3 old ss b59 (.val (.int (1 : Int32))) .unset .unset .unset) [(.int lk), (.int p3), (.long m1), (.ref b59)])) rfl (by rw [hml]; rfl) (Steps.refl _) (argsL := [(.long m1), (.int p3), (.int lk)]) (rest := []) (lenOf pd_112 rfl) rfl (by show 2 * 0 + _ ≤ _; exact Nat.le_of_eq rfl) (hb hby at_138) (fun _ _ => ⟨rfl, rfl, (by decide : 3 + 0 ≤ _), (by decide : 10 + 0 ≤ _)⟩)
      dsimp only [Pt.U, Pt.locs, Pt.cells, Pt.slots] at X194 l194 y194 z194 st194 hQ194
      subst l194 y194 z194
      obtain ⟨rfl, Nq194, z194, P194⟩ := hQ194
      have N194 := Fr.app N66 Nq194
      have z195 : n0 ≤ T194.heap.size := Nat.le_trans z67 z194
      have pre196 : ∀ t, Steps p.tables e below (T194.setTop (mkF m 179 (own_L_25 q1 q2 p3 p4 p5 p6 lk m1 m2 m3 old ss b59 (.val (.int (1 : Int32))) .unset .unset .unset) [(.long old), (.ref b59)])) t → Steps p.tables e below (s₁.setTop (entryFrame m #[(.long q1), (.long q2), (.int p3), (.int p4), (.int p5), (.int p6)] maxLocals)) t := fun t kt => pre134 t (by
        show Steps p.tables e below (T66.setTop (mkF m 124 (own_L_25 q1 q2 p3 p4 p5 p6 lk m1 m2 m3 old ss b59 (.val (.int (1 : Int32))) .unset .unset .unset) [])) _
        refine XS.iload X66.here hx rfl (hb hby at_124) rfl ?_
        refine XS.iconst X66.here hx rfl (hb hby at_126) ?_
        refine XS.icmpNo X66.here hx rfl (hb hby at_127) rfl (flt (by decide : ¬ ((1 : Int32) < (1 : Int32)))).1 ?_
        refine XS.aload X66.here hx rfl (hb hby at_130) rfl rfl ?_
        refine XS.lload X66.here hx rfl (hb hby at_132) rfl ?_
        refine XS.iload X66.here hx rfl (hb hby at_134) rfl ?_
        refine XS.iload X66.here hx rfl (hb hby at_136) rfl ?_
        refine st194.trans ?_
        refine XS.iload X194.here hx rfl (hb hby at_141) rfl ?_
        refine XS.iconst X194.here hx rfl (hb hby at_143) ?_
        refine XS.icmpYes X194.here hx rfl (pc0 := 144) (pc' := 158) rfl (hb hby at_144) rfl (tlt (by decide : (1 : Int32) < (2 : Int32))).1 (by decide) (by decide) ?_
        refine XS.iload X194.here hx rfl (hb hby at_158) rfl ?_
        show Steps p.tables e below (T194.setTop (mkF m 160 (own_L_25 q1 q2 p3 p4 p5 p6 lk m1 m2 m3 old ss b59 (.val (.int (1 : Int32))) .unset .unset .unset) [(.int (1 : Int32))])) _
        refine XS.iconst X194.here hx rfl (hb hby at_160) ?_
        refine XS.icmpYes X194.here hx rfl (pc0 := 161) (pc' := 175) rfl (hb hby at_161) rfl (tlt (by decide : (1 : Int32) < (3 : Int32))).1 (by decide) (by decide) ?_
        refine XS.aload X194.here hx rfl (hb hby at_175) rfl rfl ?_
        refine XS.lload X194.here hx rfl (hb hby at_177) rfl ?_
        exact kt)
      by_cases hc197 : m1 < old
      case pos =>
        obtain ⟨cq231, kq231, q231a, q231b, q231c⟩ := isOf hZ rfl (own_pt_exa P194)
        obtain ⟨_, _, ⟨T231, L231, k231, n231⟩, -, X231, ⟨Lc231, hQ231, l231, y231, z231⟩, st231⟩ := X194.virtualBack hx (y := own_y_32) (z := own_y_32) hown (mvT hZ (own_w hw 29 rfl)) (mvT hZ (own_w hw 30 rfl)) (notFace_of_selects (args := #[]) (mvT hZ (own_w hw 32 rfl))) (mvT hZ (own_w hw 32 rfl)) (mvT hZ (own_w hw 31 rfl)) (by decide) (backOf (W := 0) (rmFgt012_1 l Z a0 hw [] b59 old m1 (0 : Int64) p3 (0 : Int32) (if lk = (0 : Int32) then (p3 + (1 : Int32)) else (p3 - (1 : Int32))) T194.heap n0 z195 P194 hc197) hZ (own_w hw 33 rfl) (own_w hw 5 rfl) (by decide) (by decide)) q231a q231c (g := (mkF m 179 (own_L_25 q1 q2 p3 p4 p5 p6 lk m1 m2 m3 old ss b59 (.val (.int (1 : Int32))) .unset .unset .unset) [(.long old), (.ref b59)])) rfl (by rw [hml]; rfl) (Steps.refl _) (argsL := [(.long old)]) (rest := []) (lenOf pd_34 rfl) rfl (by show 2 * 0 + _ ≤ _; exact Nat.le_of_eq rfl) (hb hby at_179) (fun _ _ => ⟨rfl, rfl, (by decide : 3 + 0 ≤ _), (by decide : 10 + 0 ≤ _)⟩)
        dsimp only [Pt.U, Pt.locs, Pt.cells, Pt.slots] at X231 l231 y231 z231 st231 hQ231
        subst l231 y231 z231
        obtain ⟨rfl, Nq231, z231, P231⟩ := hQ231
        have N231 := Fr.app N194 Nq231
        have z232 : n0 ≤ T231.heap.size := Nat.le_trans z195 z231
        obtain ⟨cq233, kq233, q233a, q233b, q233c⟩ := isOf hZ rfl (own_pt_exa P231)
        obtain ⟨_, _, ⟨T233, L233, k233, n233⟩, -, X233, ⟨Lc233, hQ233, l233, y233, z233⟩, st233⟩ := X231.virtualBack hx (y := own_y_35) (z := own_y_35) hown (mvT hZ (own_w hw 34 rfl)) (mvT hZ (own_w hw 35 rfl)) (notFace_of_selects (args := #[]) (mvT hZ (own_w hw 37 rfl))) (mvT hZ (own_w hw 37 rfl)) (mvT hZ (own_w hw 36 rfl)) (by decide) (backOf (W := 0) (rmEmpT l Z a0 hw [] b59 _ _ _ _ _ _ T231.heap n0 z232 P231 (by decide)) hZ (own_w hw 38 rfl) (own_w hw 5 rfl) (by decide) (by decide)) q233a q233c (g := (mkF m 184 (own_L_25 q1 q2 p3 p4 p5 p6 lk m1 m2 m3 old ss b59 (.val (.int (1 : Int32))) .unset .unset .unset) [(.ref b59)])) rfl (by rw [hml]; rfl) (Steps.refl _) (argsL := []) (rest := []) (lenOf pd_45 rfl) rfl (by show 2 * 0 + _ ≤ _; exact Nat.le_of_eq rfl) (hb hby at_184) (fun _ _ => ⟨rfl, rfl, (by decide : 3 + 0 ≤ _), (by decide : 10 + 0 ≤ _)⟩)
        dsimp only [Pt.U, Pt.locs, Pt.cells, Pt.slots] at X233 l233 y233 z233 st233 hQ233
        subst l233 y233 z233
        obtain ⟨rfl, Nq233, e233⟩ := hQ233
        have N233 := Fr.app N231 Nq233
        obtain ⟨cq234, kq234, q234a, q234b, q234c⟩ := isOf hZ e233 (own_pt_exa P231)
        obtain ⟨_, _, ⟨T234, L234, k234, n234⟩, -, X234, ⟨Lc234, hQ234, l234, y234, z234⟩, st234⟩ := X233.virtualBack hx (y := own_y_46) (z := own_y_46) hown (mvT hZ (own_w hw 40 rfl)) (mvT hZ (own_w hw 41 rfl)) (notFace_of_selects (args := #[]) (mvT hZ (own_w hw 43 rfl))) (mvT hZ (own_w hw 43 rfl)) (mvT hZ (own_w hw 42 rfl)) (by decide) (backOf (W := 0) (rmGnE l Z a0 hw [] b59 (-9223372036854775808 : Int64) _ _ _ _ _ _ T231.heap n0 z232 P231 (by decide)) hZ (own_w hw 44 rfl) (own_w hw 5 rfl) (by decide) (by decide)) q234a q234c (g := (mkF m 194 (own_L_25 q1 q2 p3 p4 p5 p6 lk m1 m2 m3 old ss b59 (.val (.int (1 : Int32))) (.val (.int (1 : Int32))) .unset .unset) [(.long (-9223372036854775808 : Int64)), (.ref b59)])) rfl (by rw [hml]; rfl) (Steps.refl _) (argsL := [(.long (-9223372036854775808 : Int64))]) (rest := []) (lenOf pd_55 rfl) rfl (by show 2 * 0 + _ ≤ _; exact Nat.le_of_eq rfl) (hb hby at_194) (fun _ _ => ⟨rfl, e233, (by decide : 3 + 0 ≤ _), (by decide : 10 + 0 ≤ _)⟩)
        dsimp only [Pt.U, Pt.locs, Pt.cells, Pt.slots] at X234 l234 y234 z234 st234 hQ234
        subst l234 y234 z234
        obtain ⟨rfl, Nq234, e234⟩ := hQ234
        have N234 := Fr.app N233 Nq234
        obtain ⟨cq235, kq235, q235a, q235b, q235c⟩ := isOf hZ e234 (own_pt_exa P231)
        obtain ⟨_, _, ⟨T235, L235, k235, n235⟩, -, X235, ⟨Lc235, hQ235, l235, y235, z235⟩, st235⟩ := X234.virtualBack hx (y := own_y_46) (z := own_y_46) hown (mvT hZ (own_w hw 40 rfl)) (mvT hZ (own_w hw 41 rfl)) (notFace_of_selects (args := #[]) (mvT hZ (own_w hw 43 rfl))) (mvT hZ (own_w hw 43 rfl)) (mvT hZ (own_w hw 42 rfl)) (by decide) (backOf (W := 0) (rmGnE l Z a0 hw [] b59 ss _ _ _ _ _ _ T231.heap n0 z232 P231 (by decide)) hZ (own_w hw 44 rfl) (own_w hw 5 rfl) (by decide) (by decide)) q235a q235c (g := (mkF m 203 (own_L_25 q1 q2 p3 p4 p5 p6 lk m1 m2 m3 old ss b59 (.val (.int (1 : Int32))) (.val (.int (1 : Int32))) (.val (.int (0 : Int32))) .unset) [(.long ss), (.ref b59)])) rfl (by rw [hml]; rfl) (Steps.refl _) (argsL := [(.long ss)]) (rest := []) (lenOf pd_55 rfl) rfl (by show 2 * 0 + _ ≤ _; exact Nat.le_of_eq rfl) (hb hby at_203) (fun _ _ => ⟨rfl, e234, (by decide : 3 + 0 ≤ _), (by decide : 10 + 0 ≤ _)⟩)
        dsimp only [Pt.U, Pt.locs, Pt.cells, Pt.slots] at X235 l235 y235 z235 st235 hQ235
        subst l235 y235 z235
        obtain ⟨rfl, Nq235, e235⟩ := hQ235
        have N235 := Fr.app N234 Nq235
        have pre236 : ∀ t, Steps p.tables e below (T235.setTop (mkF m 208 (own_L_25 q1 q2 p3 p4 p5 p6 lk m1 m2 m3 old ss b59 (.val (.int (1 : Int32))) (.val (.int (1 : Int32))) (.val (.int (0 : Int32))) (.val (.int (0 : Int32)))) [])) t → Steps p.tables e below (s₁.setTop (entryFrame m #[(.long q1), (.long q2), (.int p3), (.int p4), (.int p5), (.int p6)] maxLocals)) t := fun t kt => pre196 t (by
          show Steps p.tables e below (T194.setTop (mkF m 179 (own_L_25 q1 q2 p3 p4 p5 p6 lk m1 m2 m3 old ss b59 (.val (.int (1 : Int32))) .unset .unset .unset) [(.long old), (.ref b59)])) _
          refine st231.trans ?_
          refine XS.aload X231.here hx rfl (hb hby at_182) rfl rfl ?_
          refine st233.trans ?_
          refine XS.istore X233.here hx rfl (hb hby at_187) rfl (l' := (own_L_25 q1 q2 p3 p4 p5 p6 lk m1 m2 m3 old ss b59 (.val (.int (1 : Int32))) (.val (.int (1 : Int32))) .unset .unset)) rfl ?_
          refine XS.aload X233.here hx rfl (hb hby at_189) rfl rfl ?_
          refine X233.ldc2Long hx hown (mvT hZ (own_w hw 39 rfl)) (g := (mkF m 191 (own_L_25 q1 q2 p3 p4 p5 p6 lk m1 m2 m3 old ss b59 (.val (.int (1 : Int32))) (.val (.int (1 : Int32))) .unset .unset) [(.ref b59)])) rfl (hb hby at_191) _ ?_
          refine st234.trans ?_
          refine XS.istore X234.here hx rfl (hb hby at_197) rfl (l' := (own_L_25 q1 q2 p3 p4 p5 p6 lk m1 m2 m3 old ss b59 (.val (.int (1 : Int32))) (.val (.int (1 : Int32))) (.val (.int (0 : Int32))) .unset)) rfl ?_
          refine XS.aload X234.here hx rfl (hb hby at_199) rfl rfl ?_
          refine XS.lload X234.here hx rfl (hb hby at_201) rfl ?_
          refine st235.trans ?_
          refine XS.istore X235.here hx rfl (hb hby at_206) rfl (l' := (own_L_25 q1 q2 p3 p4 p5 p6 lk m1 m2 m3 old ss b59 (.val (.int (1 : Int32))) (.val (.int (1 : Int32))) (.val (.int (0 : Int32))) (.val (.int (0 : Int32))))) rfl ?_
          exact kt)
        have f3' : f3 = (1 : Int32) := by rw [hf3, hf2, hf1, hk]; simp [hc197]
        have g1 : emR = (1 : Int32) := by rw [hemR, f3', hk]; simp
        have g2 : gaR = (0 : Int32) := by rw [hgaR, g1]; simp
        have g3 : gsR = (0 : Int32) := by rw [hgsR, g1]; simp
        rw [hk, g1, g2, g3]
        exact ⟨T235, _, own_more X235 (by decide) (by decide), N235, pre236⟩
      case neg =>
        obtain ⟨cq244, kq244, q244a, q244b, q244c⟩ := isOf hZ rfl (own_pt_exa P194)
        obtain ⟨_, _, ⟨T244, L244, k244, n244⟩, -, X244, ⟨Lc244, hQ244, l244, y244, z244⟩, st244⟩ := X194.virtualBack hx (y := own_y_32) (z := own_y_32) hown (mvT hZ (own_w hw 29 rfl)) (mvT hZ (own_w hw 30 rfl)) (notFace_of_selects (args := #[]) (mvT hZ (own_w hw 32 rfl))) (mvT hZ (own_w hw 32 rfl)) (mvT hZ (own_w hw 31 rfl)) (by decide) (backOf (W := 0) (rmFgt012_0 l Z a0 hw [] b59 old m1 (0 : Int64) p3 (0 : Int32) (if lk = (0 : Int32) then (p3 + (1 : Int32)) else (p3 - (1 : Int32))) T194.heap n0 z195 P194 hc197) hZ (own_w hw 33 rfl) (own_w hw 5 rfl) (by decide) (by decide)) q244a q244c (g := (mkF m 179 (own_L_25 q1 q2 p3 p4 p5 p6 lk m1 m2 m3 old ss b59 (.val (.int (1 : Int32))) .unset .unset .unset) [(.long old), (.ref b59)])) rfl (by rw [hml]; rfl) (Steps.refl _) (argsL := [(.long old)]) (rest := []) (lenOf pd_34 rfl) rfl (by show 2 * 0 + _ ≤ _; exact Nat.le_of_eq rfl) (hb hby at_179) (fun _ _ => ⟨rfl, rfl, (by decide : 3 + 0 ≤ _), (by decide : 10 + 0 ≤ _)⟩)
        dsimp only [Pt.U, Pt.locs, Pt.cells, Pt.slots] at X244 l244 y244 z244 st244 hQ244
        subst l244 y244 z244
        obtain ⟨rfl, Nq244, z244, P244⟩ := hQ244
        have N244 := Fr.app N194 Nq244
        have z245 : n0 ≤ T244.heap.size := Nat.le_trans z195 z244
        obtain ⟨cq249, kq249, q249a, q249b, q249c⟩ := isOf hZ rfl (own_pt_exa P244)
        obtain ⟨_, _, ⟨T249, L249, k249, n249⟩, -, X249, ⟨Lc249, hQ249, l249, y249, z249⟩, st249⟩ := X244.virtualBack hx (y := own_y_35) (z := own_y_35) hown (mvT hZ (own_w hw 34 rfl)) (mvT hZ (own_w hw 35 rfl)) (notFace_of_selects (args := #[]) (mvT hZ (own_w hw 37 rfl))) (mvT hZ (own_w hw 37 rfl)) (mvT hZ (own_w hw 36 rfl)) (by decide) (backOf (W := 0) (rmEmpF l Z a0 hw [] b59 _ _ _ _ _ _ T244.heap n0 z245 P244 (by decide)) hZ (own_w hw 38 rfl) (own_w hw 5 rfl) (by decide) (by decide)) q249a q249c (g := (mkF m 184 (own_L_25 q1 q2 p3 p4 p5 p6 lk m1 m2 m3 old ss b59 (.val (.int (1 : Int32))) .unset .unset .unset) [(.ref b59)])) rfl (by rw [hml]; rfl) (Steps.refl _) (argsL := []) (rest := []) (lenOf pd_45 rfl) rfl (by show 2 * 0 + _ ≤ _; exact Nat.le_of_eq rfl) (hb hby at_184) (fun _ _ => ⟨rfl, rfl, (by decide : 3 + 0 ≤ _), (by decide : 10 + 0 ≤ _)⟩)
        dsimp only [Pt.U, Pt.locs, Pt.cells, Pt.slots] at X249 l249 y249 z249 st249 hQ249
        subst l249 y249 z249
        obtain ⟨rfl, Nq249, e249⟩ := hQ249
        have N249 := Fr.app N244 Nq249
        obtain ⟨cq297, kq297, q297a, q297b, q297c⟩ := isOf hZ e249 (own_pt_exa P244)
        obtain ⟨_, _, ⟨T297, L297, k297, n297⟩, -, X297, ⟨Lc297, hQ297, l297, y297, z297⟩, st297⟩ := X249.virtualBack hx (y := own_y_46) (z := own_y_46) hown (mvT hZ (own_w hw 40 rfl)) (mvT hZ (own_w hw 41 rfl)) (notFace_of_selects (args := #[]) (mvT hZ (own_w hw 43 rfl))) (mvT hZ (own_w hw 43 rfl)) (mvT hZ (own_w hw 42 rfl)) (by decide) (backOf (W := 0) (rmGn012 l Z a0 hw [] b59 (-9223372036854775808 : Int64) m1 (0 : Int64) p3 (0 : Int32) (if lk = (0 : Int32) then (p3 + (1 : Int32)) else (p3 - (1 : Int32))) T244.heap n0 z245 P244 ) hZ (own_w hw 44 rfl) (own_w hw 5 rfl) (by decide) (by decide)) q297a q297c (g := (mkF m 194 (own_L_25 q1 q2 p3 p4 p5 p6 lk m1 m2 m3 old ss b59 (.val (.int (1 : Int32))) (.val (.int (0 : Int32))) .unset .unset) [(.long (-9223372036854775808 : Int64)), (.ref b59)])) rfl (by rw [hml]; rfl) (Steps.refl _) (argsL := [(.long (-9223372036854775808 : Int64))]) (rest := []) (lenOf pd_55 rfl) rfl (by show 2 * 0 + _ ≤ _; exact Nat.le_of_eq rfl) (hb hby at_194) (fun _ _ => ⟨rfl, e249, (by decide : 3 + 0 ≤ _), (by decide : 10 + 0 ≤ _)⟩)
        dsimp only [Pt.U, Pt.locs, Pt.cells, Pt.slots] at X297 l297 y297 z297 st297 hQ297
        subst l297 y297 z297
        obtain ⟨rfl, Nq297, e297⟩ := hQ297
        have N297 := Fr.app N249 Nq297
        obtain ⟨cq298, kq298, q298a, q298b, q298c⟩ := isOf hZ e297 (own_pt_exa P244)
        obtain ⟨_, _, ⟨T298, L298, k298, n298⟩, -, X298, ⟨Lc298, hQ298, l298, y298, z298⟩, st298⟩ := X297.virtualBack hx (y := own_y_46) (z := own_y_46) hown (mvT hZ (own_w hw 40 rfl)) (mvT hZ (own_w hw 41 rfl)) (notFace_of_selects (args := #[]) (mvT hZ (own_w hw 43 rfl))) (mvT hZ (own_w hw 43 rfl)) (mvT hZ (own_w hw 42 rfl)) (by decide) (backOf (W := 0) (rmGn012 l Z a0 hw [] b59 ss m1 (0 : Int64) p3 (0 : Int32) (if lk = (0 : Int32) then (p3 + (1 : Int32)) else (p3 - (1 : Int32))) T244.heap n0 z245 P244 ) hZ (own_w hw 44 rfl) (own_w hw 5 rfl) (by decide) (by decide)) q298a q298c (g := (mkF m 203 (own_L_25 q1 q2 p3 p4 p5 p6 lk m1 m2 m3 old ss b59 (.val (.int (1 : Int32))) (.val (.int (0 : Int32))) (.val (.int (p3 - (if m1 < (-9223372036854775808 : Int64) then p3 else (if lk = (0 : Int32) then (p3 + (1 : Int32)) else (p3 - (1 : Int32))))))) .unset) [(.long ss), (.ref b59)])) rfl (by rw [hml]; rfl) (Steps.refl _) (argsL := [(.long ss)]) (rest := []) (lenOf pd_55 rfl) rfl (by show 2 * 0 + _ ≤ _; exact Nat.le_of_eq rfl) (hb hby at_203) (fun _ _ => ⟨rfl, e297, (by decide : 3 + 0 ≤ _), (by decide : 10 + 0 ≤ _)⟩)
        dsimp only [Pt.U, Pt.locs, Pt.cells, Pt.slots] at X298 l298 y298 z298 st298 hQ298
        subst l298 y298 z298
        obtain ⟨rfl, Nq298, e298⟩ := hQ298
        have N298 := Fr.app N297 Nq298
        have pre299 : ∀ t, Steps p.tables e below (T298.setTop (mkF m 208 (own_L_25 q1 q2 p3 p4 p5 p6 lk m1 m2 m3 old ss b59 (.val (.int (1 : Int32))) (.val (.int (0 : Int32))) (.val (.int (p3 - (if m1 < (-9223372036854775808 : Int64) then p3 else (if lk = (0 : Int32) then (p3 + (1 : Int32)) else (p3 - (1 : Int32))))))) (.val (.int (p3 - (if m1 < ss then p3 else (if lk = (0 : Int32) then (p3 + (1 : Int32)) else (p3 - (1 : Int32)))))))) [])) t → Steps p.tables e below (s₁.setTop (entryFrame m #[(.long q1), (.long q2), (.int p3), (.int p4), (.int p5), (.int p6)] maxLocals)) t := fun t kt => pre196 t (by
          show Steps p.tables e below (T194.setTop (mkF m 179 (own_L_25 q1 q2 p3 p4 p5 p6 lk m1 m2 m3 old ss b59 (.val (.int (1 : Int32))) .unset .unset .unset) [(.long old), (.ref b59)])) _
          refine st244.trans ?_
          refine XS.aload X244.here hx rfl (hb hby at_182) rfl rfl ?_
          refine st249.trans ?_
          refine XS.istore X249.here hx rfl (hb hby at_187) rfl (l' := (own_L_25 q1 q2 p3 p4 p5 p6 lk m1 m2 m3 old ss b59 (.val (.int (1 : Int32))) (.val (.int (0 : Int32))) .unset .unset)) rfl ?_
          refine XS.aload X249.here hx rfl (hb hby at_189) rfl rfl ?_
          refine X249.ldc2Long hx hown (mvT hZ (own_w hw 39 rfl)) (g := (mkF m 191 (own_L_25 q1 q2 p3 p4 p5 p6 lk m1 m2 m3 old ss b59 (.val (.int (1 : Int32))) (.val (.int (0 : Int32))) .unset .unset) [(.ref b59)])) rfl (hb hby at_191) _ ?_
          refine st297.trans ?_
          refine XS.istore X297.here hx rfl (hb hby at_197) rfl (l' := (own_L_25 q1 q2 p3 p4 p5 p6 lk m1 m2 m3 old ss b59 (.val (.int (1 : Int32))) (.val (.int (0 : Int32))) (.val (.int (p3 - (if m1 < (-9223372036854775808 : Int64) then p3 else (if lk = (0 : Int32) then (p3 + (1 : Int32)) else (p3 - (1 : Int32))))))) .unset)) rfl ?_
          refine XS.aload X297.here hx rfl (hb hby at_199) rfl rfl ?_
          refine XS.lload X297.here hx rfl (hb hby at_201) rfl ?_
          refine st298.trans ?_
          refine XS.istore X298.here hx rfl (hb hby at_206) rfl (l' := (own_L_25 q1 q2 p3 p4 p5 p6 lk m1 m2 m3 old ss b59 (.val (.int (1 : Int32))) (.val (.int (0 : Int32))) (.val (.int (p3 - (if m1 < (-9223372036854775808 : Int64) then p3 else (if lk = (0 : Int32) then (p3 + (1 : Int32)) else (p3 - (1 : Int32))))))) (.val (.int (p3 - (if m1 < ss then p3 else (if lk = (0 : Int32) then (p3 + (1 : Int32)) else (p3 - (1 : Int32))))))))) rfl ?_
          exact kt)
        have f3' : f3 = (0 : Int32) := by rw [hf3, hf2, hf1, hk]; simp [hc197]
        have g1 : emR = (0 : Int32) := by rw [hemR, f3', hk]; simp
        have bR' : bR = (if lk = (0 : Int32) then (p3 + (1 : Int32)) else (p3 - (1 : Int32))) := by rw [hbR, f3', hb0]; simp
        have las' : las = p3 := by rw [hlas, hk]; simp
        have e2 : (if m1 < (-9223372036854775808 : Int64) then p3 else (if lk = (0 : Int32) then (p3 + (1 : Int32)) else (p3 - (1 : Int32)))) = (if lk = (0 : Int32) then (p3 + (1 : Int32)) else (p3 - (1 : Int32))) := (if_neg (own_min _))
        have g2 : gaR = (p3 - (if m1 < (-9223372036854775808 : Int64) then p3 else (if lk = (0 : Int32) then (p3 + (1 : Int32)) else (p3 - (1 : Int32))))) := by rw [hgaR, g1, las', bR', e2]; simp
        have e3 : st3 = (if m1 < ss then p3 else (if lk = (0 : Int32) then (p3 + (1 : Int32)) else (p3 - (1 : Int32)))) := by rw [hst3, hst2, hst1, f3', hk, bR']; simp
        have g3 : gsR = (p3 - (if m1 < ss then p3 else (if lk = (0 : Int32) then (p3 + (1 : Int32)) else (p3 - (1 : Int32))))) := by rw [hgsR, g1, las', e3]; simp
        rw [hk, g1, g2, g3]
        exact ⟨T298, _, own_more X298 (by decide) (by decide), N298, pre299⟩
    · have pre300 : ∀ t, Steps p.tables e below (T66.setTop (mkF m 124 (own_L_25 q1 q2 p3 p4 p5 p6 lk m1 m2 m3 old ss b59 (.val (.int (2 : Int32))) .unset .unset .unset) [])) t → Steps p.tables e below (s₁.setTop (entryFrame m #[(.long q1), (.long q2), (.int p3), (.int p4), (.int p5), (.int p6)] maxLocals)) t := by have q := pre68; rw [hk] at q; exact q
      obtain ⟨cq301, kq301, q301a, q301b, q301c⟩ := isOf hZ rfl (own_pt_exa P66)
      obtain ⟨_, _, ⟨T301, L301, k301, n301⟩, -, X301, ⟨Lc301, hQ301, l301, y301, z301⟩, st301⟩ := X66.virtualBack hx (y := own_y_110) (z := own_y_110) hown (mvT hZ (own_w hw 18 rfl)) (mvT hZ (own_w hw 19 rfl)) (notFace_of_selects (args := #[]) (mvT hZ (own_w hw 21 rfl))) (mvT hZ (own_w hw 21 rfl)) (mvT hZ (own_w hw 20 rfl)) (by decide) (backOf (W := 0) (rmCnt002a l Z a0 hw [] b59 m1 p3 lk (0 : Int64) (0 : Int64) (0 : Int32) (0 : Int32) (0 : Int32) T66.heap n0 z67 P66) hZ (own_w hw 22 rfl) (own_w hw 5 rfl) (by decide) (by decide)) q301a q301c (g := (mkF m 138 (own_L_25 q1 q2 p3 p4 p5 p6 lk m1 m2 m3 old ss b59 (.val (.int (2 : Int32))) .unset .unset .unset) [(.int lk), (.int p3), (.long m1), (.ref b59)])) rfl (by rw [hml]; rfl) (Steps.refl _) (argsL := [(.long m1), (.int p3), (.int lk)]) (rest := []) (lenOf pd_112 rfl) rfl (by show 2 * 0 + _ ≤ _; exact Nat.le_of_eq rfl) (hb hby at_138) (fun _ _ => ⟨rfl, rfl, (by decide : 3 + 0 ≤ _), (by decide : 10 + 0 ≤ _)⟩)
      dsimp only [Pt.U, Pt.locs, Pt.cells, Pt.slots] at X301 l301 y301 z301 st301 hQ301
      subst l301 y301 z301
      obtain ⟨rfl, Nq301, z301, P301⟩ := hQ301
      have N301 := Fr.app N66 Nq301
      have z302 : n0 ≤ T301.heap.size := Nat.le_trans z67 z301
      obtain ⟨cq352, kq352, q352a, q352b, q352c⟩ := isOf hZ rfl (own_pt_exa P301)
      obtain ⟨_, _, ⟨T352, L352, k352, n352⟩, -, X352, ⟨Lc352, hQ352, l352, y352, z352⟩, st352⟩ := X301.virtualBack hx (y := own_y_110) (z := own_y_110) hown (mvT hZ (own_w hw 18 rfl)) (mvT hZ (own_w hw 19 rfl)) (notFace_of_selects (args := #[]) (mvT hZ (own_w hw 21 rfl))) (mvT hZ (own_w hw 21 rfl)) (mvT hZ (own_w hw 20 rfl)) (by decide) (backOf (W := 0) (rmCnt012a l Z a0 hw [] b59 m2 p4 lk m1 (0 : Int64) p3 (0 : Int32) (if lk = (0 : Int32) then (p3 + (1 : Int32)) else (p3 - (1 : Int32))) T301.heap n0 z302 P301 s12) hZ (own_w hw 22 rfl) (own_w hw 5 rfl) (by decide) (by decide)) q352a q352c (g := (mkF m 155 (own_L_25 q1 q2 p3 p4 p5 p6 lk m1 m2 m3 old ss b59 (.val (.int (2 : Int32))) .unset .unset .unset) [(.int lk), (.int p4), (.long m2), (.ref b59)])) rfl (by rw [hml]; rfl) (Steps.refl _) (argsL := [(.long m2), (.int p4), (.int lk)]) (rest := []) (lenOf pd_112 rfl) rfl (by show 2 * 0 + _ ≤ _; exact Nat.le_of_eq rfl) (hb hby at_155) (fun _ _ => ⟨rfl, rfl, (by decide : 3 + 0 ≤ _), (by decide : 10 + 0 ≤ _)⟩)
      dsimp only [Pt.U, Pt.locs, Pt.cells, Pt.slots] at X352 l352 y352 z352 st352 hQ352
      subst l352 y352 z352
      obtain ⟨rfl, Nq352, z352, P352⟩ := hQ352
      have N352 := Fr.app N301 Nq352
      have z353 : n0 ≤ T352.heap.size := Nat.le_trans z302 z352
      have pre354 : ∀ t, Steps p.tables e below (T352.setTop (mkF m 179 (own_L_25 q1 q2 p3 p4 p5 p6 lk m1 m2 m3 old ss b59 (.val (.int (2 : Int32))) .unset .unset .unset) [(.long old), (.ref b59)])) t → Steps p.tables e below (s₁.setTop (entryFrame m #[(.long q1), (.long q2), (.int p3), (.int p4), (.int p5), (.int p6)] maxLocals)) t := fun t kt => pre300 t (by
        show Steps p.tables e below (T66.setTop (mkF m 124 (own_L_25 q1 q2 p3 p4 p5 p6 lk m1 m2 m3 old ss b59 (.val (.int (2 : Int32))) .unset .unset .unset) [])) _
        refine XS.iload X66.here hx rfl (hb hby at_124) rfl ?_
        refine XS.iconst X66.here hx rfl (hb hby at_126) ?_
        refine XS.icmpNo X66.here hx rfl (hb hby at_127) rfl (flt (by decide : ¬ ((2 : Int32) < (1 : Int32)))).1 ?_
        refine XS.aload X66.here hx rfl (hb hby at_130) rfl rfl ?_
        refine XS.lload X66.here hx rfl (hb hby at_132) rfl ?_
        refine XS.iload X66.here hx rfl (hb hby at_134) rfl ?_
        refine XS.iload X66.here hx rfl (hb hby at_136) rfl ?_
        refine st301.trans ?_
        refine XS.iload X301.here hx rfl (hb hby at_141) rfl ?_
        refine XS.iconst X301.here hx rfl (hb hby at_143) ?_
        refine XS.icmpNo X301.here hx rfl (hb hby at_144) rfl (flt (by decide : ¬ ((2 : Int32) < (2 : Int32)))).1 ?_
        refine XS.aload X301.here hx rfl (hb hby at_147) rfl rfl ?_
        show Steps p.tables e below (T301.setTop (mkF m 149 (own_L_25 q1 q2 p3 p4 p5 p6 lk m1 m2 m3 old ss b59 (.val (.int (2 : Int32))) .unset .unset .unset) [(.ref b59)])) _
        refine XS.lload X301.here hx rfl (hb hby at_149) rfl ?_
        refine XS.iload X301.here hx rfl (hb hby at_151) rfl ?_
        refine XS.iload X301.here hx rfl (hb hby at_153) rfl ?_
        refine st352.trans ?_
        refine XS.iload X352.here hx rfl (hb hby at_158) rfl ?_
        refine XS.iconst X352.here hx rfl (hb hby at_160) ?_
        refine XS.icmpYes X352.here hx rfl (pc0 := 161) (pc' := 175) rfl (hb hby at_161) rfl (tlt (by decide : (2 : Int32) < (3 : Int32))).1 (by decide) (by decide) ?_
        refine XS.aload X352.here hx rfl (hb hby at_175) rfl rfl ?_
        refine XS.lload X352.here hx rfl (hb hby at_177) rfl ?_
        exact kt)
      by_cases hc355 : m1 < old
      case pos =>
        by_cases hc356 : m2 < old
        case pos =>
          obtain ⟨cq419, kq419, q419a, q419b, q419c⟩ := isOf hZ rfl (own_pt_exa P352)
          obtain ⟨_, _, ⟨T419, L419, k419, n419⟩, -, X419, ⟨Lc419, hQ419, l419, y419, z419⟩, st419⟩ := X352.virtualBack hx (y := own_y_32) (z := own_y_32) hown (mvT hZ (own_w hw 29 rfl)) (mvT hZ (own_w hw 30 rfl)) (notFace_of_selects (args := #[]) (mvT hZ (own_w hw 32 rfl))) (mvT hZ (own_w hw 32 rfl)) (mvT hZ (own_w hw 31 rfl)) (by decide) (backOf (W := 0) (rmFgt022_2 l Z a0 hw [] b59 old m1 m2 p3 p4 (if lk = (0 : Int32) then (p3 + (1 : Int32)) else (p3 - (1 : Int32))) T352.heap n0 z353 P352 hc355 hc356) hZ (own_w hw 33 rfl) (own_w hw 5 rfl) (by decide) (by decide)) q419a q419c (g := (mkF m 179 (own_L_25 q1 q2 p3 p4 p5 p6 lk m1 m2 m3 old ss b59 (.val (.int (2 : Int32))) .unset .unset .unset) [(.long old), (.ref b59)])) rfl (by rw [hml]; rfl) (Steps.refl _) (argsL := [(.long old)]) (rest := []) (lenOf pd_34 rfl) rfl (by show 2 * 0 + _ ≤ _; exact Nat.le_of_eq rfl) (hb hby at_179) (fun _ _ => ⟨rfl, rfl, (by decide : 3 + 0 ≤ _), (by decide : 10 + 0 ≤ _)⟩)
          dsimp only [Pt.U, Pt.locs, Pt.cells, Pt.slots] at X419 l419 y419 z419 st419 hQ419
          subst l419 y419 z419
          obtain ⟨rfl, Nq419, z419, P419⟩ := hQ419
          have N419 := Fr.app N352 Nq419
          have z420 : n0 ≤ T419.heap.size := Nat.le_trans z353 z419
          obtain ⟨cq421, kq421, q421a, q421b, q421c⟩ := isOf hZ rfl (own_pt_exa P419)
          obtain ⟨_, _, ⟨T421, L421, k421, n421⟩, -, X421, ⟨Lc421, hQ421, l421, y421, z421⟩, st421⟩ := X419.virtualBack hx (y := own_y_35) (z := own_y_35) hown (mvT hZ (own_w hw 34 rfl)) (mvT hZ (own_w hw 35 rfl)) (notFace_of_selects (args := #[]) (mvT hZ (own_w hw 37 rfl))) (mvT hZ (own_w hw 37 rfl)) (mvT hZ (own_w hw 36 rfl)) (by decide) (backOf (W := 0) (rmEmpT l Z a0 hw [] b59 _ _ _ _ _ _ T419.heap n0 z420 P419 (by decide)) hZ (own_w hw 38 rfl) (own_w hw 5 rfl) (by decide) (by decide)) q421a q421c (g := (mkF m 184 (own_L_25 q1 q2 p3 p4 p5 p6 lk m1 m2 m3 old ss b59 (.val (.int (2 : Int32))) .unset .unset .unset) [(.ref b59)])) rfl (by rw [hml]; rfl) (Steps.refl _) (argsL := []) (rest := []) (lenOf pd_45 rfl) rfl (by show 2 * 0 + _ ≤ _; exact Nat.le_of_eq rfl) (hb hby at_184) (fun _ _ => ⟨rfl, rfl, (by decide : 3 + 0 ≤ _), (by decide : 10 + 0 ≤ _)⟩)
          dsimp only [Pt.U, Pt.locs, Pt.cells, Pt.slots] at X421 l421 y421 z421 st421 hQ421
          subst l421 y421 z421
          obtain ⟨rfl, Nq421, e421⟩ := hQ421
          have N421 := Fr.app N419 Nq421
          obtain ⟨cq422, kq422, q422a, q422b, q422c⟩ := isOf hZ e421 (own_pt_exa P419)
          obtain ⟨_, _, ⟨T422, L422, k422, n422⟩, -, X422, ⟨Lc422, hQ422, l422, y422, z422⟩, st422⟩ := X421.virtualBack hx (y := own_y_46) (z := own_y_46) hown (mvT hZ (own_w hw 40 rfl)) (mvT hZ (own_w hw 41 rfl)) (notFace_of_selects (args := #[]) (mvT hZ (own_w hw 43 rfl))) (mvT hZ (own_w hw 43 rfl)) (mvT hZ (own_w hw 42 rfl)) (by decide) (backOf (W := 0) (rmGnE l Z a0 hw [] b59 (-9223372036854775808 : Int64) _ _ _ _ _ _ T419.heap n0 z420 P419 (by decide)) hZ (own_w hw 44 rfl) (own_w hw 5 rfl) (by decide) (by decide)) q422a q422c (g := (mkF m 194 (own_L_25 q1 q2 p3 p4 p5 p6 lk m1 m2 m3 old ss b59 (.val (.int (2 : Int32))) (.val (.int (1 : Int32))) .unset .unset) [(.long (-9223372036854775808 : Int64)), (.ref b59)])) rfl (by rw [hml]; rfl) (Steps.refl _) (argsL := [(.long (-9223372036854775808 : Int64))]) (rest := []) (lenOf pd_55 rfl) rfl (by show 2 * 0 + _ ≤ _; exact Nat.le_of_eq rfl) (hb hby at_194) (fun _ _ => ⟨rfl, e421, (by decide : 3 + 0 ≤ _), (by decide : 10 + 0 ≤ _)⟩)
          dsimp only [Pt.U, Pt.locs, Pt.cells, Pt.slots] at X422 l422 y422 z422 st422 hQ422
          subst l422 y422 z422
          obtain ⟨rfl, Nq422, e422⟩ := hQ422
          have N422 := Fr.app N421 Nq422
          obtain ⟨cq423, kq423, q423a, q423b, q423c⟩ := isOf hZ e422 (own_pt_exa P419)
          obtain ⟨_, _, ⟨T423, L423, k423, n423⟩, -, X423, ⟨Lc423, hQ423, l423, y423, z423⟩, st423⟩ := X422.virtualBack hx (y := own_y_46) (z := own_y_46) hown (mvT hZ (own_w hw 40 rfl)) (mvT hZ (own_w hw 41 rfl)) (notFace_of_selects (args := #[]) (mvT hZ (own_w hw 43 rfl))) (mvT hZ (own_w hw 43 rfl)) (mvT hZ (own_w hw 42 rfl)) (by decide) (backOf (W := 0) (rmGnE l Z a0 hw [] b59 ss _ _ _ _ _ _ T419.heap n0 z420 P419 (by decide)) hZ (own_w hw 44 rfl) (own_w hw 5 rfl) (by decide) (by decide)) q423a q423c (g := (mkF m 203 (own_L_25 q1 q2 p3 p4 p5 p6 lk m1 m2 m3 old ss b59 (.val (.int (2 : Int32))) (.val (.int (1 : Int32))) (.val (.int (0 : Int32))) .unset) [(.long ss), (.ref b59)])) rfl (by rw [hml]; rfl) (Steps.refl _) (argsL := [(.long ss)]) (rest := []) (lenOf pd_55 rfl) rfl (by show 2 * 0 + _ ≤ _; exact Nat.le_of_eq rfl) (hb hby at_203) (fun _ _ => ⟨rfl, e422, (by decide : 3 + 0 ≤ _), (by decide : 10 + 0 ≤ _)⟩)
          dsimp only [Pt.U, Pt.locs, Pt.cells, Pt.slots] at X423 l423 y423 z423 st423 hQ423
          subst l423 y423 z423
          obtain ⟨rfl, Nq423, e423⟩ := hQ423
          have N423 := Fr.app N422 Nq423
          have pre424 : ∀ t, Steps p.tables e below (T423.setTop (mkF m 208 (own_L_25 q1 q2 p3 p4 p5 p6 lk m1 m2 m3 old ss b59 (.val (.int (2 : Int32))) (.val (.int (1 : Int32))) (.val (.int (0 : Int32))) (.val (.int (0 : Int32)))) [])) t → Steps p.tables e below (s₁.setTop (entryFrame m #[(.long q1), (.long q2), (.int p3), (.int p4), (.int p5), (.int p6)] maxLocals)) t := fun t kt => pre354 t (by
            show Steps p.tables e below (T352.setTop (mkF m 179 (own_L_25 q1 q2 p3 p4 p5 p6 lk m1 m2 m3 old ss b59 (.val (.int (2 : Int32))) .unset .unset .unset) [(.long old), (.ref b59)])) _
            refine st419.trans ?_
            refine XS.aload X419.here hx rfl (hb hby at_182) rfl rfl ?_
            refine st421.trans ?_
            refine XS.istore X421.here hx rfl (hb hby at_187) rfl (l' := (own_L_25 q1 q2 p3 p4 p5 p6 lk m1 m2 m3 old ss b59 (.val (.int (2 : Int32))) (.val (.int (1 : Int32))) .unset .unset)) rfl ?_
            refine XS.aload X421.here hx rfl (hb hby at_189) rfl rfl ?_
            refine X421.ldc2Long hx hown (mvT hZ (own_w hw 39 rfl)) (g := (mkF m 191 (own_L_25 q1 q2 p3 p4 p5 p6 lk m1 m2 m3 old ss b59 (.val (.int (2 : Int32))) (.val (.int (1 : Int32))) .unset .unset) [(.ref b59)])) rfl (hb hby at_191) _ ?_
            refine st422.trans ?_
            refine XS.istore X422.here hx rfl (hb hby at_197) rfl (l' := (own_L_25 q1 q2 p3 p4 p5 p6 lk m1 m2 m3 old ss b59 (.val (.int (2 : Int32))) (.val (.int (1 : Int32))) (.val (.int (0 : Int32))) .unset)) rfl ?_
            refine XS.aload X422.here hx rfl (hb hby at_199) rfl rfl ?_
            refine XS.lload X422.here hx rfl (hb hby at_201) rfl ?_
            refine st423.trans ?_
            refine XS.istore X423.here hx rfl (hb hby at_206) rfl (l' := (own_L_25 q1 q2 p3 p4 p5 p6 lk m1 m2 m3 old ss b59 (.val (.int (2 : Int32))) (.val (.int (1 : Int32))) (.val (.int (0 : Int32))) (.val (.int (0 : Int32))))) rfl ?_
            exact kt)
          have f3' : f3 = (2 : Int32) := by rw [hf3, hf2, hf1, hk]; simp [hc355, hc356]
          have g1 : emR = (1 : Int32) := by rw [hemR, f3', hk]; simp
          have g2 : gaR = (0 : Int32) := by rw [hgaR, g1]; simp
          have g3 : gsR = (0 : Int32) := by rw [hgsR, g1]; simp
          rw [hk, g1, g2, g3]
          exact ⟨T423, _, own_more X423 (by decide) (by decide), N423, pre424⟩
        case neg =>
          obtain ⟨cq461, kq461, q461a, q461b, q461c⟩ := isOf hZ rfl (own_pt_exa P352)
          obtain ⟨_, _, ⟨T461, L461, k461, n461⟩, -, X461, ⟨Lc461, hQ461, l461, y461, z461⟩, st461⟩ := X352.virtualBack hx (y := own_y_32) (z := own_y_32) hown (mvT hZ (own_w hw 29 rfl)) (mvT hZ (own_w hw 30 rfl)) (notFace_of_selects (args := #[]) (mvT hZ (own_w hw 32 rfl))) (mvT hZ (own_w hw 32 rfl)) (mvT hZ (own_w hw 31 rfl)) (by decide) (backOf (W := 0) (rmFgt022_1 l Z a0 hw [] b59 old m1 m2 p3 p4 (if lk = (0 : Int32) then (p3 + (1 : Int32)) else (p3 - (1 : Int32))) T352.heap n0 z353 P352 hc355 hc356) hZ (own_w hw 33 rfl) (own_w hw 5 rfl) (by decide) (by decide)) q461a q461c (g := (mkF m 179 (own_L_25 q1 q2 p3 p4 p5 p6 lk m1 m2 m3 old ss b59 (.val (.int (2 : Int32))) .unset .unset .unset) [(.long old), (.ref b59)])) rfl (by rw [hml]; rfl) (Steps.refl _) (argsL := [(.long old)]) (rest := []) (lenOf pd_34 rfl) rfl (by show 2 * 0 + _ ≤ _; exact Nat.le_of_eq rfl) (hb hby at_179) (fun _ _ => ⟨rfl, rfl, (by decide : 3 + 0 ≤ _), (by decide : 10 + 0 ≤ _)⟩)
          dsimp only [Pt.U, Pt.locs, Pt.cells, Pt.slots] at X461 l461 y461 z461 st461 hQ461
          subst l461 y461 z461
          obtain ⟨rfl, Nq461, z461, P461⟩ := hQ461
          have N461 := Fr.app N352 Nq461
          have z462 : n0 ≤ T461.heap.size := Nat.le_trans z353 z461
          obtain ⟨cq463, kq463, q463a, q463b, q463c⟩ := isOf hZ rfl (own_pt_exa P461)
          obtain ⟨_, _, ⟨T463, L463, k463, n463⟩, -, X463, ⟨Lc463, hQ463, l463, y463, z463⟩, st463⟩ := X461.virtualBack hx (y := own_y_35) (z := own_y_35) hown (mvT hZ (own_w hw 34 rfl)) (mvT hZ (own_w hw 35 rfl)) (notFace_of_selects (args := #[]) (mvT hZ (own_w hw 37 rfl))) (mvT hZ (own_w hw 37 rfl)) (mvT hZ (own_w hw 36 rfl)) (by decide) (backOf (W := 0) (rmEmpF l Z a0 hw [] b59 _ _ _ _ _ _ T461.heap n0 z462 P461 (by decide)) hZ (own_w hw 38 rfl) (own_w hw 5 rfl) (by decide) (by decide)) q463a q463c (g := (mkF m 184 (own_L_25 q1 q2 p3 p4 p5 p6 lk m1 m2 m3 old ss b59 (.val (.int (2 : Int32))) .unset .unset .unset) [(.ref b59)])) rfl (by rw [hml]; rfl) (Steps.refl _) (argsL := []) (rest := []) (lenOf pd_45 rfl) rfl (by show 2 * 0 + _ ≤ _; exact Nat.le_of_eq rfl) (hb hby at_184) (fun _ _ => ⟨rfl, rfl, (by decide : 3 + 0 ≤ _), (by decide : 10 + 0 ≤ _)⟩)
          dsimp only [Pt.U, Pt.locs, Pt.cells, Pt.slots] at X463 l463 y463 z463 st463 hQ463
          subst l463 y463 z463
          obtain ⟨rfl, Nq463, e463⟩ := hQ463
          have N463 := Fr.app N461 Nq463
          obtain ⟨cq511, kq511, q511a, q511b, q511c⟩ := isOf hZ e463 (own_pt_exa P461)
          obtain ⟨_, _, ⟨T511, L511, k511, n511⟩, -, X511, ⟨Lc511, hQ511, l511, y511, z511⟩, st511⟩ := X463.virtualBack hx (y := own_y_46) (z := own_y_46) hown (mvT hZ (own_w hw 40 rfl)) (mvT hZ (own_w hw 41 rfl)) (notFace_of_selects (args := #[]) (mvT hZ (own_w hw 43 rfl))) (mvT hZ (own_w hw 43 rfl)) (mvT hZ (own_w hw 42 rfl)) (by decide) (backOf (W := 0) (rmGn122 l Z a0 hw [] b59 (-9223372036854775808 : Int64) m1 m2 p3 p4 p3 T461.heap n0 z462 P461 ) hZ (own_w hw 44 rfl) (own_w hw 5 rfl) (by decide) (by decide)) q511a q511c (g := (mkF m 194 (own_L_25 q1 q2 p3 p4 p5 p6 lk m1 m2 m3 old ss b59 (.val (.int (2 : Int32))) (.val (.int (0 : Int32))) .unset .unset) [(.long (-9223372036854775808 : Int64)), (.ref b59)])) rfl (by rw [hml]; rfl) (Steps.refl _) (argsL := [(.long (-9223372036854775808 : Int64))]) (rest := []) (lenOf pd_55 rfl) rfl (by show 2 * 0 + _ ≤ _; exact Nat.le_of_eq rfl) (hb hby at_194) (fun _ _ => ⟨rfl, e463, (by decide : 3 + 0 ≤ _), (by decide : 10 + 0 ≤ _)⟩)
          dsimp only [Pt.U, Pt.locs, Pt.cells, Pt.slots] at X511 l511 y511 z511 st511 hQ511
          subst l511 y511 z511
          obtain ⟨rfl, Nq511, e511⟩ := hQ511
          have N511 := Fr.app N463 Nq511
          obtain ⟨cq512, kq512, q512a, q512b, q512c⟩ := isOf hZ e511 (own_pt_exa P461)
          obtain ⟨_, _, ⟨T512, L512, k512, n512⟩, -, X512, ⟨Lc512, hQ512, l512, y512, z512⟩, st512⟩ := X511.virtualBack hx (y := own_y_46) (z := own_y_46) hown (mvT hZ (own_w hw 40 rfl)) (mvT hZ (own_w hw 41 rfl)) (notFace_of_selects (args := #[]) (mvT hZ (own_w hw 43 rfl))) (mvT hZ (own_w hw 43 rfl)) (mvT hZ (own_w hw 42 rfl)) (by decide) (backOf (W := 0) (rmGn122 l Z a0 hw [] b59 ss m1 m2 p3 p4 p3 T461.heap n0 z462 P461 ) hZ (own_w hw 44 rfl) (own_w hw 5 rfl) (by decide) (by decide)) q512a q512c (g := (mkF m 203 (own_L_25 q1 q2 p3 p4 p5 p6 lk m1 m2 m3 old ss b59 (.val (.int (2 : Int32))) (.val (.int (0 : Int32))) (.val (.int (p4 - (if m2 < (-9223372036854775808 : Int64) then p4 else p3)))) .unset) [(.long ss), (.ref b59)])) rfl (by rw [hml]; rfl) (Steps.refl _) (argsL := [(.long ss)]) (rest := []) (lenOf pd_55 rfl) rfl (by show 2 * 0 + _ ≤ _; exact Nat.le_of_eq rfl) (hb hby at_203) (fun _ _ => ⟨rfl, e511, (by decide : 3 + 0 ≤ _), (by decide : 10 + 0 ≤ _)⟩)
          dsimp only [Pt.U, Pt.locs, Pt.cells, Pt.slots] at X512 l512 y512 z512 st512 hQ512
          subst l512 y512 z512
          obtain ⟨rfl, Nq512, e512⟩ := hQ512
          have N512 := Fr.app N511 Nq512
          have pre513 : ∀ t, Steps p.tables e below (T512.setTop (mkF m 208 (own_L_25 q1 q2 p3 p4 p5 p6 lk m1 m2 m3 old ss b59 (.val (.int (2 : Int32))) (.val (.int (0 : Int32))) (.val (.int (p4 - (if m2 < (-9223372036854775808 : Int64) then p4 else p3)))) (.val (.int (p4 - (if m2 < ss then p4 else p3))))) [])) t → Steps p.tables e below (s₁.setTop (entryFrame m #[(.long q1), (.long q2), (.int p3), (.int p4), (.int p5), (.int p6)] maxLocals)) t := fun t kt => pre354 t (by
            show Steps p.tables e below (T352.setTop (mkF m 179 (own_L_25 q1 q2 p3 p4 p5 p6 lk m1 m2 m3 old ss b59 (.val (.int (2 : Int32))) .unset .unset .unset) [(.long old), (.ref b59)])) _
            refine st461.trans ?_
            refine XS.aload X461.here hx rfl (hb hby at_182) rfl rfl ?_
            refine st463.trans ?_
            refine XS.istore X463.here hx rfl (hb hby at_187) rfl (l' := (own_L_25 q1 q2 p3 p4 p5 p6 lk m1 m2 m3 old ss b59 (.val (.int (2 : Int32))) (.val (.int (0 : Int32))) .unset .unset)) rfl ?_
            refine XS.aload X463.here hx rfl (hb hby at_189) rfl rfl ?_
            refine X463.ldc2Long hx hown (mvT hZ (own_w hw 39 rfl)) (g := (mkF m 191 (own_L_25 q1 q2 p3 p4 p5 p6 lk m1 m2 m3 old ss b59 (.val (.int (2 : Int32))) (.val (.int (0 : Int32))) .unset .unset) [(.ref b59)])) rfl (hb hby at_191) _ ?_
            refine st511.trans ?_
            refine XS.istore X511.here hx rfl (hb hby at_197) rfl (l' := (own_L_25 q1 q2 p3 p4 p5 p6 lk m1 m2 m3 old ss b59 (.val (.int (2 : Int32))) (.val (.int (0 : Int32))) (.val (.int (p4 - (if m2 < (-9223372036854775808 : Int64) then p4 else p3)))) .unset)) rfl ?_
            refine XS.aload X511.here hx rfl (hb hby at_199) rfl rfl ?_
            refine XS.lload X511.here hx rfl (hb hby at_201) rfl ?_
            refine st512.trans ?_
            refine XS.istore X512.here hx rfl (hb hby at_206) rfl (l' := (own_L_25 q1 q2 p3 p4 p5 p6 lk m1 m2 m3 old ss b59 (.val (.int (2 : Int32))) (.val (.int (0 : Int32))) (.val (.int (p4 - (if m2 < (-9223372036854775808 : Int64) then p4 else p3)))) (.val (.int (p4 - (if m2 < ss then p4 else p3)))))) rfl ?_
            exact kt)
          have f3' : f3 = (1 : Int32) := by rw [hf3, hf2, hf1, hk]; simp [hc355, hc356]
          have g1 : emR = (0 : Int32) := by rw [hemR, f3', hk]; simp
          have bR' : bR = p3 := by rw [hbR, f3']; simp
          have las' : las = p4 := by rw [hlas, hk]; simp
          have e2 : (if m2 < (-9223372036854775808 : Int64) then p4 else p3) = p3 := (if_neg (own_min _))
          have g2 : gaR = (p4 - (if m2 < (-9223372036854775808 : Int64) then p4 else p3)) := by rw [hgaR, g1, las', bR', e2]; simp
          have e3 : st3 = (if m2 < ss then p4 else p3) := by rw [hst3, hst2, hst1, f3', hk, bR']; simp
          have g3 : gsR = (p4 - (if m2 < ss then p4 else p3)) := by rw [hgsR, g1, las', e3]; simp
          rw [hk, g1, g2, g3]
          exact ⟨T512, _, own_more X512 (by decide) (by decide), N512, pre513⟩
      case neg =>
        obtain ⟨cq521, kq521, q521a, q521b, q521c⟩ := isOf hZ rfl (own_pt_exa P352)
        obtain ⟨_, _, ⟨T521, L521, k521, n521⟩, -, X521, ⟨Lc521, hQ521, l521, y521, z521⟩, st521⟩ := X352.virtualBack hx (y := own_y_32) (z := own_y_32) hown (mvT hZ (own_w hw 29 rfl)) (mvT hZ (own_w hw 30 rfl)) (notFace_of_selects (args := #[]) (mvT hZ (own_w hw 32 rfl))) (mvT hZ (own_w hw 32 rfl)) (mvT hZ (own_w hw 31 rfl)) (by decide) (backOf (W := 0) (rmFgt022_0 l Z a0 hw [] b59 old m1 m2 p3 p4 (if lk = (0 : Int32) then (p3 + (1 : Int32)) else (p3 - (1 : Int32))) T352.heap n0 z353 P352 hc355) hZ (own_w hw 33 rfl) (own_w hw 5 rfl) (by decide) (by decide)) q521a q521c (g := (mkF m 179 (own_L_25 q1 q2 p3 p4 p5 p6 lk m1 m2 m3 old ss b59 (.val (.int (2 : Int32))) .unset .unset .unset) [(.long old), (.ref b59)])) rfl (by rw [hml]; rfl) (Steps.refl _) (argsL := [(.long old)]) (rest := []) (lenOf pd_34 rfl) rfl (by show 2 * 0 + _ ≤ _; exact Nat.le_of_eq rfl) (hb hby at_179) (fun _ _ => ⟨rfl, rfl, (by decide : 3 + 0 ≤ _), (by decide : 10 + 0 ≤ _)⟩)
        dsimp only [Pt.U, Pt.locs, Pt.cells, Pt.slots] at X521 l521 y521 z521 st521 hQ521
        subst l521 y521 z521
        obtain ⟨rfl, Nq521, z521, P521⟩ := hQ521
        have N521 := Fr.app N352 Nq521
        have z522 : n0 ≤ T521.heap.size := Nat.le_trans z353 z521
        obtain ⟨cq523, kq523, q523a, q523b, q523c⟩ := isOf hZ rfl (own_pt_exa P521)
        obtain ⟨_, _, ⟨T523, L523, k523, n523⟩, -, X523, ⟨Lc523, hQ523, l523, y523, z523⟩, st523⟩ := X521.virtualBack hx (y := own_y_35) (z := own_y_35) hown (mvT hZ (own_w hw 34 rfl)) (mvT hZ (own_w hw 35 rfl)) (notFace_of_selects (args := #[]) (mvT hZ (own_w hw 37 rfl))) (mvT hZ (own_w hw 37 rfl)) (mvT hZ (own_w hw 36 rfl)) (by decide) (backOf (W := 0) (rmEmpF l Z a0 hw [] b59 _ _ _ _ _ _ T521.heap n0 z522 P521 (by decide)) hZ (own_w hw 38 rfl) (own_w hw 5 rfl) (by decide) (by decide)) q523a q523c (g := (mkF m 184 (own_L_25 q1 q2 p3 p4 p5 p6 lk m1 m2 m3 old ss b59 (.val (.int (2 : Int32))) .unset .unset .unset) [(.ref b59)])) rfl (by rw [hml]; rfl) (Steps.refl _) (argsL := []) (rest := []) (lenOf pd_45 rfl) rfl (by show 2 * 0 + _ ≤ _; exact Nat.le_of_eq rfl) (hb hby at_184) (fun _ _ => ⟨rfl, rfl, (by decide : 3 + 0 ≤ _), (by decide : 10 + 0 ≤ _)⟩)
        dsimp only [Pt.U, Pt.locs, Pt.cells, Pt.slots] at X523 l523 y523 z523 st523 hQ523
        subst l523 y523 z523
        obtain ⟨rfl, Nq523, e523⟩ := hQ523
        have N523 := Fr.app N521 Nq523
        obtain ⟨cq602, kq602, q602a, q602b, q602c⟩ := isOf hZ e523 (own_pt_exa P521)
        obtain ⟨_, _, ⟨T602, L602, k602, n602⟩, -, X602, ⟨Lc602, hQ602, l602, y602, z602⟩, st602⟩ := X523.virtualBack hx (y := own_y_46) (z := own_y_46) hown (mvT hZ (own_w hw 40 rfl)) (mvT hZ (own_w hw 41 rfl)) (notFace_of_selects (args := #[]) (mvT hZ (own_w hw 43 rfl))) (mvT hZ (own_w hw 43 rfl)) (mvT hZ (own_w hw 42 rfl)) (by decide) (backOf (W := 0) (rmGn022 l Z a0 hw [] b59 (-9223372036854775808 : Int64) m1 m2 p3 p4 (if lk = (0 : Int32) then (p3 + (1 : Int32)) else (p3 - (1 : Int32))) T521.heap n0 z522 P521 s12) hZ (own_w hw 44 rfl) (own_w hw 5 rfl) (by decide) (by decide)) q602a q602c (g := (mkF m 194 (own_L_25 q1 q2 p3 p4 p5 p6 lk m1 m2 m3 old ss b59 (.val (.int (2 : Int32))) (.val (.int (0 : Int32))) .unset .unset) [(.long (-9223372036854775808 : Int64)), (.ref b59)])) rfl (by rw [hml]; rfl) (Steps.refl _) (argsL := [(.long (-9223372036854775808 : Int64))]) (rest := []) (lenOf pd_55 rfl) rfl (by show 2 * 0 + _ ≤ _; exact Nat.le_of_eq rfl) (hb hby at_194) (fun _ _ => ⟨rfl, e523, (by decide : 3 + 0 ≤ _), (by decide : 10 + 0 ≤ _)⟩)
        dsimp only [Pt.U, Pt.locs, Pt.cells, Pt.slots] at X602 l602 y602 z602 st602 hQ602
        subst l602 y602 z602
        obtain ⟨rfl, Nq602, e602⟩ := hQ602
        have N602 := Fr.app N523 Nq602
        obtain ⟨cq603, kq603, q603a, q603b, q603c⟩ := isOf hZ e602 (own_pt_exa P521)
        obtain ⟨_, _, ⟨T603, L603, k603, n603⟩, -, X603, ⟨Lc603, hQ603, l603, y603, z603⟩, st603⟩ := X602.virtualBack hx (y := own_y_46) (z := own_y_46) hown (mvT hZ (own_w hw 40 rfl)) (mvT hZ (own_w hw 41 rfl)) (notFace_of_selects (args := #[]) (mvT hZ (own_w hw 43 rfl))) (mvT hZ (own_w hw 43 rfl)) (mvT hZ (own_w hw 42 rfl)) (by decide) (backOf (W := 0) (rmGn022 l Z a0 hw [] b59 ss m1 m2 p3 p4 (if lk = (0 : Int32) then (p3 + (1 : Int32)) else (p3 - (1 : Int32))) T521.heap n0 z522 P521 s12) hZ (own_w hw 44 rfl) (own_w hw 5 rfl) (by decide) (by decide)) q603a q603c (g := (mkF m 203 (own_L_25 q1 q2 p3 p4 p5 p6 lk m1 m2 m3 old ss b59 (.val (.int (2 : Int32))) (.val (.int (0 : Int32))) (.val (.int (p4 - (if m2 < (-9223372036854775808 : Int64) then p4 else (if m1 < (-9223372036854775808 : Int64) then p3 else (if lk = (0 : Int32) then (p3 + (1 : Int32)) else (p3 - (1 : Int32)))))))) .unset) [(.long ss), (.ref b59)])) rfl (by rw [hml]; rfl) (Steps.refl _) (argsL := [(.long ss)]) (rest := []) (lenOf pd_55 rfl) rfl (by show 2 * 0 + _ ≤ _; exact Nat.le_of_eq rfl) (hb hby at_203) (fun _ _ => ⟨rfl, e602, (by decide : 3 + 0 ≤ _), (by decide : 10 + 0 ≤ _)⟩)
        dsimp only [Pt.U, Pt.locs, Pt.cells, Pt.slots] at X603 l603 y603 z603 st603 hQ603
        subst l603 y603 z603
        obtain ⟨rfl, Nq603, e603⟩ := hQ603
        have N603 := Fr.app N602 Nq603
        have pre604 : ∀ t, Steps p.tables e below (T603.setTop (mkF m 208 (own_L_25 q1 q2 p3 p4 p5 p6 lk m1 m2 m3 old ss b59 (.val (.int (2 : Int32))) (.val (.int (0 : Int32))) (.val (.int (p4 - (if m2 < (-9223372036854775808 : Int64) then p4 else (if m1 < (-9223372036854775808 : Int64) then p3 else (if lk = (0 : Int32) then (p3 + (1 : Int32)) else (p3 - (1 : Int32)))))))) (.val (.int (p4 - (if m2 < ss then p4 else (if m1 < ss then p3 else (if lk = (0 : Int32) then (p3 + (1 : Int32)) else (p3 - (1 : Int32))))))))) [])) t → Steps p.tables e below (s₁.setTop (entryFrame m #[(.long q1), (.long q2), (.int p3), (.int p4), (.int p5), (.int p6)] maxLocals)) t := fun t kt => pre354 t (by
          show Steps p.tables e below (T352.setTop (mkF m 179 (own_L_25 q1 q2 p3 p4 p5 p6 lk m1 m2 m3 old ss b59 (.val (.int (2 : Int32))) .unset .unset .unset) [(.long old), (.ref b59)])) _
          refine st521.trans ?_
          refine XS.aload X521.here hx rfl (hb hby at_182) rfl rfl ?_
          refine st523.trans ?_
          refine XS.istore X523.here hx rfl (hb hby at_187) rfl (l' := (own_L_25 q1 q2 p3 p4 p5 p6 lk m1 m2 m3 old ss b59 (.val (.int (2 : Int32))) (.val (.int (0 : Int32))) .unset .unset)) rfl ?_
          refine XS.aload X523.here hx rfl (hb hby at_189) rfl rfl ?_
          refine X523.ldc2Long hx hown (mvT hZ (own_w hw 39 rfl)) (g := (mkF m 191 (own_L_25 q1 q2 p3 p4 p5 p6 lk m1 m2 m3 old ss b59 (.val (.int (2 : Int32))) (.val (.int (0 : Int32))) .unset .unset) [(.ref b59)])) rfl (hb hby at_191) _ ?_
          refine st602.trans ?_
          refine XS.istore X602.here hx rfl (hb hby at_197) rfl (l' := (own_L_25 q1 q2 p3 p4 p5 p6 lk m1 m2 m3 old ss b59 (.val (.int (2 : Int32))) (.val (.int (0 : Int32))) (.val (.int (p4 - (if m2 < (-9223372036854775808 : Int64) then p4 else (if m1 < (-9223372036854775808 : Int64) then p3 else (if lk = (0 : Int32) then (p3 + (1 : Int32)) else (p3 - (1 : Int32)))))))) .unset)) rfl ?_
          refine XS.aload X602.here hx rfl (hb hby at_199) rfl rfl ?_
          refine XS.lload X602.here hx rfl (hb hby at_201) rfl ?_
          refine st603.trans ?_
          refine XS.istore X603.here hx rfl (hb hby at_206) rfl (l' := (own_L_25 q1 q2 p3 p4 p5 p6 lk m1 m2 m3 old ss b59 (.val (.int (2 : Int32))) (.val (.int (0 : Int32))) (.val (.int (p4 - (if m2 < (-9223372036854775808 : Int64) then p4 else (if m1 < (-9223372036854775808 : Int64) then p3 else (if lk = (0 : Int32) then (p3 + (1 : Int32)) else (p3 - (1 : Int32)))))))) (.val (.int (p4 - (if m2 < ss then p4 else (if m1 < ss then p3 else (if lk = (0 : Int32) then (p3 + (1 : Int32)) else (p3 - (1 : Int32)))))))))) rfl ?_
          exact kt)
        have lt605 : ¬ (m2 < old) := by
          rw [Int64.lt_iff_toInt_lt] at s12 s23 hc355 ⊢
          omega
        have f3' : f3 = (0 : Int32) := by rw [hf3, hf2, hf1, hk]; simp [hc355, lt605]
        have g1 : emR = (0 : Int32) := by rw [hemR, f3', hk]; simp
        have bR' : bR = (if lk = (0 : Int32) then (p3 + (1 : Int32)) else (p3 - (1 : Int32))) := by rw [hbR, f3', hb0]; simp
        have las' : las = p4 := by rw [hlas, hk]; simp
        have e2 : (if m2 < (-9223372036854775808 : Int64) then p4 else (if m1 < (-9223372036854775808 : Int64) then p3 else (if lk = (0 : Int32) then (p3 + (1 : Int32)) else (p3 - (1 : Int32))))) = (if lk = (0 : Int32) then (p3 + (1 : Int32)) else (p3 - (1 : Int32))) := ((if_neg (own_min _)).trans (if_neg (own_min _)))
        have g2 : gaR = (p4 - (if m2 < (-9223372036854775808 : Int64) then p4 else (if m1 < (-9223372036854775808 : Int64) then p3 else (if lk = (0 : Int32) then (p3 + (1 : Int32)) else (p3 - (1 : Int32)))))) := by rw [hgaR, g1, las', bR', e2]; simp
        have e3 : st3 = (if m2 < ss then p4 else (if m1 < ss then p3 else (if lk = (0 : Int32) then (p3 + (1 : Int32)) else (p3 - (1 : Int32))))) := by rw [hst3, hst2, hst1, f3', hk, bR']; simp
        have g3 : gsR = (p4 - (if m2 < ss then p4 else (if m1 < ss then p3 else (if lk = (0 : Int32) then (p3 + (1 : Int32)) else (p3 - (1 : Int32)))))) := by rw [hgsR, g1, las', e3]; simp
        rw [hk, g1, g2, g3]
        exact ⟨T603, _, own_more X603 (by decide) (by decide), N603, pre604⟩
    · have pre606 : ∀ t, Steps p.tables e below (T66.setTop (mkF m 124 (own_L_25 q1 q2 p3 p4 p5 p6 lk m1 m2 m3 old ss b59 (.val (.int (3 : Int32))) .unset .unset .unset) [])) t → Steps p.tables e below (s₁.setTop (entryFrame m #[(.long q1), (.long q2), (.int p3), (.int p4), (.int p5), (.int p6)] maxLocals)) t := by have q := pre68; rw [hk] at q; exact q
      obtain ⟨cq607, kq607, q607a, q607b, q607c⟩ := isOf hZ rfl (own_pt_exa P66)
      obtain ⟨_, _, ⟨T607, L607, k607, n607⟩, -, X607, ⟨Lc607, hQ607, l607, y607, z607⟩, st607⟩ := X66.virtualBack hx (y := own_y_110) (z := own_y_110) hown (mvT hZ (own_w hw 18 rfl)) (mvT hZ (own_w hw 19 rfl)) (notFace_of_selects (args := #[]) (mvT hZ (own_w hw 21 rfl))) (mvT hZ (own_w hw 21 rfl)) (mvT hZ (own_w hw 20 rfl)) (by decide) (backOf (W := 0) (rmCnt002a l Z a0 hw [] b59 m1 p3 lk (0 : Int64) (0 : Int64) (0 : Int32) (0 : Int32) (0 : Int32) T66.heap n0 z67 P66) hZ (own_w hw 22 rfl) (own_w hw 5 rfl) (by decide) (by decide)) q607a q607c (g := (mkF m 138 (own_L_25 q1 q2 p3 p4 p5 p6 lk m1 m2 m3 old ss b59 (.val (.int (3 : Int32))) .unset .unset .unset) [(.int lk), (.int p3), (.long m1), (.ref b59)])) rfl (by rw [hml]; rfl) (Steps.refl _) (argsL := [(.long m1), (.int p3), (.int lk)]) (rest := []) (lenOf pd_112 rfl) rfl (by show 2 * 0 + _ ≤ _; exact Nat.le_of_eq rfl) (hb hby at_138) (fun _ _ => ⟨rfl, rfl, (by decide : 3 + 0 ≤ _), (by decide : 10 + 0 ≤ _)⟩)
      dsimp only [Pt.U, Pt.locs, Pt.cells, Pt.slots] at X607 l607 y607 z607 st607 hQ607
      subst l607 y607 z607
      obtain ⟨rfl, Nq607, z607, P607⟩ := hQ607
      have N607 := Fr.app N66 Nq607
      have z608 : n0 ≤ T607.heap.size := Nat.le_trans z67 z607
      obtain ⟨cq609, kq609, q609a, q609b, q609c⟩ := isOf hZ rfl (own_pt_exa P607)
      obtain ⟨_, _, ⟨T609, L609, k609, n609⟩, -, X609, ⟨Lc609, hQ609, l609, y609, z609⟩, st609⟩ := X607.virtualBack hx (y := own_y_110) (z := own_y_110) hown (mvT hZ (own_w hw 18 rfl)) (mvT hZ (own_w hw 19 rfl)) (notFace_of_selects (args := #[]) (mvT hZ (own_w hw 21 rfl))) (mvT hZ (own_w hw 21 rfl)) (mvT hZ (own_w hw 20 rfl)) (by decide) (backOf (W := 0) (rmCnt012a l Z a0 hw [] b59 m2 p4 lk m1 (0 : Int64) p3 (0 : Int32) (if lk = (0 : Int32) then (p3 + (1 : Int32)) else (p3 - (1 : Int32))) T607.heap n0 z608 P607 s12) hZ (own_w hw 22 rfl) (own_w hw 5 rfl) (by decide) (by decide)) q609a q609c (g := (mkF m 155 (own_L_25 q1 q2 p3 p4 p5 p6 lk m1 m2 m3 old ss b59 (.val (.int (3 : Int32))) .unset .unset .unset) [(.int lk), (.int p4), (.long m2), (.ref b59)])) rfl (by rw [hml]; rfl) (Steps.refl _) (argsL := [(.long m2), (.int p4), (.int lk)]) (rest := []) (lenOf pd_112 rfl) rfl (by show 2 * 0 + _ ≤ _; exact Nat.le_of_eq rfl) (hb hby at_155) (fun _ _ => ⟨rfl, rfl, (by decide : 3 + 0 ≤ _), (by decide : 10 + 0 ≤ _)⟩)
      dsimp only [Pt.U, Pt.locs, Pt.cells, Pt.slots] at X609 l609 y609 z609 st609 hQ609
      subst l609 y609 z609
      obtain ⟨rfl, Nq609, z609, P609⟩ := hQ609
      have N609 := Fr.app N607 Nq609
      have z610 : n0 ≤ T609.heap.size := Nat.le_trans z608 z609
      obtain ⟨cq791, kq791, q791a, q791b, q791c⟩ := isOf hZ rfl (own_pt_exa P609)
      obtain ⟨_, _, ⟨T791, L791, k791, n791⟩, -, X791, ⟨Lc791, hQ791, l791, y791, z791⟩, st791⟩ := X609.virtualBack hx (y := own_y_110) (z := own_y_110) hown (mvT hZ (own_w hw 18 rfl)) (mvT hZ (own_w hw 19 rfl)) (notFace_of_selects (args := #[]) (mvT hZ (own_w hw 21 rfl))) (mvT hZ (own_w hw 21 rfl)) (mvT hZ (own_w hw 20 rfl)) (by decide) (backOf (W := 0) (rmCnt022a l Z a0 hw [] b59 m3 p5 lk m1 m2 p3 p4 (if lk = (0 : Int32) then (p3 + (1 : Int32)) else (p3 - (1 : Int32))) T609.heap n0 z610 P609 s23) hZ (own_w hw 22 rfl) (own_w hw 5 rfl) (by decide) (by decide)) q791a q791c (g := (mkF m 172 (own_L_25 q1 q2 p3 p4 p5 p6 lk m1 m2 m3 old ss b59 (.val (.int (3 : Int32))) .unset .unset .unset) [(.int lk), (.int p5), (.long m3), (.ref b59)])) rfl (by rw [hml]; rfl) (Steps.refl _) (argsL := [(.long m3), (.int p5), (.int lk)]) (rest := []) (lenOf pd_112 rfl) rfl (by show 2 * 0 + _ ≤ _; exact Nat.le_of_eq rfl) (hb hby at_172) (fun _ _ => ⟨rfl, rfl, (by decide : 3 + 2 ≤ _), (by decide : 10 + 8 ≤ _)⟩)
      dsimp only [Pt.U, Pt.locs, Pt.cells, Pt.slots] at X791 l791 y791 z791 st791 hQ791
      subst l791 y791 z791
      obtain ⟨rfl, Nq791, z791, P791⟩ := hQ791
      have N791 := Fr.app N609 Nq791
      have z792 : n0 ≤ T791.heap.size := Nat.le_trans z610 z791
      have pre793 : ∀ t, Steps p.tables e below (T791.setTop (mkF m 179 (own_L_25 q1 q2 p3 p4 p5 p6 lk m1 m2 m3 old ss b59 (.val (.int (3 : Int32))) .unset .unset .unset) [(.long old), (.ref b59)])) t → Steps p.tables e below (s₁.setTop (entryFrame m #[(.long q1), (.long q2), (.int p3), (.int p4), (.int p5), (.int p6)] maxLocals)) t := fun t kt => pre606 t (by
        show Steps p.tables e below (T66.setTop (mkF m 124 (own_L_25 q1 q2 p3 p4 p5 p6 lk m1 m2 m3 old ss b59 (.val (.int (3 : Int32))) .unset .unset .unset) [])) _
        refine XS.iload X66.here hx rfl (hb hby at_124) rfl ?_
        refine XS.iconst X66.here hx rfl (hb hby at_126) ?_
        refine XS.icmpNo X66.here hx rfl (hb hby at_127) rfl (flt (by decide : ¬ ((3 : Int32) < (1 : Int32)))).1 ?_
        refine XS.aload X66.here hx rfl (hb hby at_130) rfl rfl ?_
        refine XS.lload X66.here hx rfl (hb hby at_132) rfl ?_
        refine XS.iload X66.here hx rfl (hb hby at_134) rfl ?_
        refine XS.iload X66.here hx rfl (hb hby at_136) rfl ?_
        refine st607.trans ?_
        refine XS.iload X607.here hx rfl (hb hby at_141) rfl ?_
        refine XS.iconst X607.here hx rfl (hb hby at_143) ?_
        refine XS.icmpNo X607.here hx rfl (hb hby at_144) rfl (flt (by decide : ¬ ((3 : Int32) < (2 : Int32)))).1 ?_
        refine XS.aload X607.here hx rfl (hb hby at_147) rfl rfl ?_
        show Steps p.tables e below (T607.setTop (mkF m 149 (own_L_25 q1 q2 p3 p4 p5 p6 lk m1 m2 m3 old ss b59 (.val (.int (3 : Int32))) .unset .unset .unset) [(.ref b59)])) _
        refine XS.lload X607.here hx rfl (hb hby at_149) rfl ?_
        refine XS.iload X607.here hx rfl (hb hby at_151) rfl ?_
        refine XS.iload X607.here hx rfl (hb hby at_153) rfl ?_
        refine st609.trans ?_
        refine XS.iload X609.here hx rfl (hb hby at_158) rfl ?_
        refine XS.iconst X609.here hx rfl (hb hby at_160) ?_
        refine XS.icmpNo X609.here hx rfl (hb hby at_161) rfl (flt (by decide : ¬ ((3 : Int32) < (3 : Int32)))).1 ?_
        refine XS.aload X609.here hx rfl (hb hby at_164) rfl rfl ?_
        refine XS.lload X609.here hx rfl (hb hby at_166) rfl ?_
        refine XS.iload X609.here hx rfl (hb hby at_168) rfl ?_
        refine XS.iload X609.here hx rfl (hb hby at_170) rfl ?_
        refine st791.trans ?_
        show Steps p.tables e below (T791.setTop (mkF m 175 (own_L_25 q1 q2 p3 p4 p5 p6 lk m1 m2 m3 old ss b59 (.val (.int (3 : Int32))) .unset .unset .unset) [])) _
        refine XS.aload X791.here hx rfl (hb hby at_175) rfl rfl ?_
        refine XS.lload X791.here hx rfl (hb hby at_177) rfl ?_
        exact kt)
      by_cases hc794 : m1 < old
      case pos =>
        by_cases hc795 : m2 < old
        case pos =>
          by_cases hc796 : m3 < old
          case pos =>
            obtain ⟨cq888, kq888, q888a, q888b, q888c⟩ := isOf hZ rfl (own_pt_exa P791)
            obtain ⟨_, _, ⟨T888, L888, k888, n888⟩, -, X888, ⟨Lc888, hQ888, l888, y888, z888⟩, st888⟩ := X791.virtualBack hx (y := own_y_32) (z := own_y_32) hown (mvT hZ (own_w hw 29 rfl)) (mvT hZ (own_w hw 30 rfl)) (notFace_of_selects (args := #[]) (mvT hZ (own_w hw 32 rfl))) (mvT hZ (own_w hw 32 rfl)) (mvT hZ (own_w hw 31 rfl)) (by decide) (backOf (W := 0) (rmFgt034_3 l Z a0 hw [] b59 old m1 m2 m3 (0 : Int64) p3 p4 p5 (0 : Int32) (if lk = (0 : Int32) then (p3 + (1 : Int32)) else (p3 - (1 : Int32))) T791.heap n0 z792 P791 hc794 hc795 hc796) hZ (own_w hw 33 rfl) (own_w hw 5 rfl) (by decide) (by decide)) q888a q888c (g := (mkF m 179 (own_L_25 q1 q2 p3 p4 p5 p6 lk m1 m2 m3 old ss b59 (.val (.int (3 : Int32))) .unset .unset .unset) [(.long old), (.ref b59)])) rfl (by rw [hml]; rfl) (Steps.refl _) (argsL := [(.long old)]) (rest := []) (lenOf pd_34 rfl) rfl (by show 2 * 0 + _ ≤ _; exact Nat.le_of_eq rfl) (hb hby at_179) (fun _ _ => ⟨rfl, rfl, (by decide : 5 + 0 ≤ _), (by decide : 18 + 0 ≤ _)⟩)
            dsimp only [Pt.U, Pt.locs, Pt.cells, Pt.slots] at X888 l888 y888 z888 st888 hQ888
            subst l888 y888 z888
            obtain ⟨rfl, Nq888, z888, P888⟩ := hQ888
            have N888 := Fr.app N791 Nq888
            have z889 : n0 ≤ T888.heap.size := Nat.le_trans z792 z888
            obtain ⟨cq890, kq890, q890a, q890b, q890c⟩ := isOf hZ rfl (own_pt_exa P888)
            obtain ⟨_, _, ⟨T890, L890, k890, n890⟩, -, X890, ⟨Lc890, hQ890, l890, y890, z890⟩, st890⟩ := X888.virtualBack hx (y := own_y_35) (z := own_y_35) hown (mvT hZ (own_w hw 34 rfl)) (mvT hZ (own_w hw 35 rfl)) (notFace_of_selects (args := #[]) (mvT hZ (own_w hw 37 rfl))) (mvT hZ (own_w hw 37 rfl)) (mvT hZ (own_w hw 36 rfl)) (by decide) (backOf (W := 0) (rmEmpT l Z a0 hw [] b59 _ _ _ _ _ _ T888.heap n0 z889 P888 (by decide)) hZ (own_w hw 38 rfl) (own_w hw 5 rfl) (by decide) (by decide)) q890a q890c (g := (mkF m 184 (own_L_25 q1 q2 p3 p4 p5 p6 lk m1 m2 m3 old ss b59 (.val (.int (3 : Int32))) .unset .unset .unset) [(.ref b59)])) rfl (by rw [hml]; rfl) (Steps.refl _) (argsL := []) (rest := []) (lenOf pd_45 rfl) rfl (by show 2 * 0 + _ ≤ _; exact Nat.le_of_eq rfl) (hb hby at_184) (fun _ _ => ⟨rfl, rfl, (by decide : 5 + 0 ≤ _), (by decide : 18 + 0 ≤ _)⟩)
            dsimp only [Pt.U, Pt.locs, Pt.cells, Pt.slots] at X890 l890 y890 z890 st890 hQ890
            subst l890 y890 z890
            obtain ⟨rfl, Nq890, e890⟩ := hQ890
            have N890 := Fr.app N888 Nq890
            obtain ⟨cq891, kq891, q891a, q891b, q891c⟩ := isOf hZ e890 (own_pt_exa P888)
            obtain ⟨_, _, ⟨T891, L891, k891, n891⟩, -, X891, ⟨Lc891, hQ891, l891, y891, z891⟩, st891⟩ := X890.virtualBack hx (y := own_y_46) (z := own_y_46) hown (mvT hZ (own_w hw 40 rfl)) (mvT hZ (own_w hw 41 rfl)) (notFace_of_selects (args := #[]) (mvT hZ (own_w hw 43 rfl))) (mvT hZ (own_w hw 43 rfl)) (mvT hZ (own_w hw 42 rfl)) (by decide) (backOf (W := 0) (rmGnE l Z a0 hw [] b59 (-9223372036854775808 : Int64) _ _ _ _ _ _ T888.heap n0 z889 P888 (by decide)) hZ (own_w hw 44 rfl) (own_w hw 5 rfl) (by decide) (by decide)) q891a q891c (g := (mkF m 194 (own_L_25 q1 q2 p3 p4 p5 p6 lk m1 m2 m3 old ss b59 (.val (.int (3 : Int32))) (.val (.int (1 : Int32))) .unset .unset) [(.long (-9223372036854775808 : Int64)), (.ref b59)])) rfl (by rw [hml]; rfl) (Steps.refl _) (argsL := [(.long (-9223372036854775808 : Int64))]) (rest := []) (lenOf pd_55 rfl) rfl (by show 2 * 0 + _ ≤ _; exact Nat.le_of_eq rfl) (hb hby at_194) (fun _ _ => ⟨rfl, e890, (by decide : 5 + 0 ≤ _), (by decide : 18 + 0 ≤ _)⟩)
            dsimp only [Pt.U, Pt.locs, Pt.cells, Pt.slots] at X891 l891 y891 z891 st891 hQ891
            subst l891 y891 z891
            obtain ⟨rfl, Nq891, e891⟩ := hQ891
            have N891 := Fr.app N890 Nq891
            obtain ⟨cq892, kq892, q892a, q892b, q892c⟩ := isOf hZ e891 (own_pt_exa P888)
            obtain ⟨_, _, ⟨T892, L892, k892, n892⟩, -, X892, ⟨Lc892, hQ892, l892, y892, z892⟩, st892⟩ := X891.virtualBack hx (y := own_y_46) (z := own_y_46) hown (mvT hZ (own_w hw 40 rfl)) (mvT hZ (own_w hw 41 rfl)) (notFace_of_selects (args := #[]) (mvT hZ (own_w hw 43 rfl))) (mvT hZ (own_w hw 43 rfl)) (mvT hZ (own_w hw 42 rfl)) (by decide) (backOf (W := 0) (rmGnE l Z a0 hw [] b59 ss _ _ _ _ _ _ T888.heap n0 z889 P888 (by decide)) hZ (own_w hw 44 rfl) (own_w hw 5 rfl) (by decide) (by decide)) q892a q892c (g := (mkF m 203 (own_L_25 q1 q2 p3 p4 p5 p6 lk m1 m2 m3 old ss b59 (.val (.int (3 : Int32))) (.val (.int (1 : Int32))) (.val (.int (0 : Int32))) .unset) [(.long ss), (.ref b59)])) rfl (by rw [hml]; rfl) (Steps.refl _) (argsL := [(.long ss)]) (rest := []) (lenOf pd_55 rfl) rfl (by show 2 * 0 + _ ≤ _; exact Nat.le_of_eq rfl) (hb hby at_203) (fun _ _ => ⟨rfl, e891, (by decide : 5 + 0 ≤ _), (by decide : 18 + 0 ≤ _)⟩)
            dsimp only [Pt.U, Pt.locs, Pt.cells, Pt.slots] at X892 l892 y892 z892 st892 hQ892
            subst l892 y892 z892
            obtain ⟨rfl, Nq892, e892⟩ := hQ892
            have N892 := Fr.app N891 Nq892
            have pre893 : ∀ t, Steps p.tables e below (T892.setTop (mkF m 208 (own_L_25 q1 q2 p3 p4 p5 p6 lk m1 m2 m3 old ss b59 (.val (.int (3 : Int32))) (.val (.int (1 : Int32))) (.val (.int (0 : Int32))) (.val (.int (0 : Int32)))) [])) t → Steps p.tables e below (s₁.setTop (entryFrame m #[(.long q1), (.long q2), (.int p3), (.int p4), (.int p5), (.int p6)] maxLocals)) t := fun t kt => pre793 t (by
              show Steps p.tables e below (T791.setTop (mkF m 179 (own_L_25 q1 q2 p3 p4 p5 p6 lk m1 m2 m3 old ss b59 (.val (.int (3 : Int32))) .unset .unset .unset) [(.long old), (.ref b59)])) _
              refine st888.trans ?_
              refine XS.aload X888.here hx rfl (hb hby at_182) rfl rfl ?_
              refine st890.trans ?_
              refine XS.istore X890.here hx rfl (hb hby at_187) rfl (l' := (own_L_25 q1 q2 p3 p4 p5 p6 lk m1 m2 m3 old ss b59 (.val (.int (3 : Int32))) (.val (.int (1 : Int32))) .unset .unset)) rfl ?_
              refine XS.aload X890.here hx rfl (hb hby at_189) rfl rfl ?_
              refine X890.ldc2Long hx hown (mvT hZ (own_w hw 39 rfl)) (g := (mkF m 191 (own_L_25 q1 q2 p3 p4 p5 p6 lk m1 m2 m3 old ss b59 (.val (.int (3 : Int32))) (.val (.int (1 : Int32))) .unset .unset) [(.ref b59)])) rfl (hb hby at_191) _ ?_
              refine st891.trans ?_
              refine XS.istore X891.here hx rfl (hb hby at_197) rfl (l' := (own_L_25 q1 q2 p3 p4 p5 p6 lk m1 m2 m3 old ss b59 (.val (.int (3 : Int32))) (.val (.int (1 : Int32))) (.val (.int (0 : Int32))) .unset)) rfl ?_
              refine XS.aload X891.here hx rfl (hb hby at_199) rfl rfl ?_
              refine XS.lload X891.here hx rfl (hb hby at_201) rfl ?_
              refine st892.trans ?_
              refine XS.istore X892.here hx rfl (hb hby at_206) rfl (l' := (own_L_25 q1 q2 p3 p4 p5 p6 lk m1 m2 m3 old ss b59 (.val (.int (3 : Int32))) (.val (.int (1 : Int32))) (.val (.int (0 : Int32))) (.val (.int (0 : Int32))))) rfl ?_
              exact kt)
            have f3' : f3 = (3 : Int32) := by rw [hf3, hf2, hf1, hk]; simp [hc794, hc795, hc796]
            have g1 : emR = (1 : Int32) := by rw [hemR, f3', hk]; simp
            have g2 : gaR = (0 : Int32) := by rw [hgaR, g1]; simp
            have g3 : gsR = (0 : Int32) := by rw [hgsR, g1]; simp
            rw [hk, g1, g2, g3]
            exact ⟨T892, _, own_more X892 (by decide) (by decide), N892, pre893⟩
          case neg =>
            obtain ⟨cq959, kq959, q959a, q959b, q959c⟩ := isOf hZ rfl (own_pt_exa P791)
            obtain ⟨_, _, ⟨T959, L959, k959, n959⟩, -, X959, ⟨Lc959, hQ959, l959, y959, z959⟩, st959⟩ := X791.virtualBack hx (y := own_y_32) (z := own_y_32) hown (mvT hZ (own_w hw 29 rfl)) (mvT hZ (own_w hw 30 rfl)) (notFace_of_selects (args := #[]) (mvT hZ (own_w hw 32 rfl))) (mvT hZ (own_w hw 32 rfl)) (mvT hZ (own_w hw 31 rfl)) (by decide) (backOf (W := 0) (rmFgt034_2 l Z a0 hw [] b59 old m1 m2 m3 (0 : Int64) p3 p4 p5 (0 : Int32) (if lk = (0 : Int32) then (p3 + (1 : Int32)) else (p3 - (1 : Int32))) T791.heap n0 z792 P791 hc794 hc795 hc796) hZ (own_w hw 33 rfl) (own_w hw 5 rfl) (by decide) (by decide)) q959a q959c (g := (mkF m 179 (own_L_25 q1 q2 p3 p4 p5 p6 lk m1 m2 m3 old ss b59 (.val (.int (3 : Int32))) .unset .unset .unset) [(.long old), (.ref b59)])) rfl (by rw [hml]; rfl) (Steps.refl _) (argsL := [(.long old)]) (rest := []) (lenOf pd_34 rfl) rfl (by show 2 * 0 + _ ≤ _; exact Nat.le_of_eq rfl) (hb hby at_179) (fun _ _ => ⟨rfl, rfl, (by decide : 5 + 0 ≤ _), (by decide : 18 + 0 ≤ _)⟩)
            dsimp only [Pt.U, Pt.locs, Pt.cells, Pt.slots] at X959 l959 y959 z959 st959 hQ959
            subst l959 y959 z959
            obtain ⟨rfl, Nq959, z959, P959⟩ := hQ959
            have N959 := Fr.app N791 Nq959
            have z960 : n0 ≤ T959.heap.size := Nat.le_trans z792 z959
            obtain ⟨cq961, kq961, q961a, q961b, q961c⟩ := isOf hZ rfl (own_pt_exa P959)
            obtain ⟨_, _, ⟨T961, L961, k961, n961⟩, -, X961, ⟨Lc961, hQ961, l961, y961, z961⟩, st961⟩ := X959.virtualBack hx (y := own_y_35) (z := own_y_35) hown (mvT hZ (own_w hw 34 rfl)) (mvT hZ (own_w hw 35 rfl)) (notFace_of_selects (args := #[]) (mvT hZ (own_w hw 37 rfl))) (mvT hZ (own_w hw 37 rfl)) (mvT hZ (own_w hw 36 rfl)) (by decide) (backOf (W := 0) (rmEmpF l Z a0 hw [] b59 _ _ _ _ _ _ T959.heap n0 z960 P959 (by decide)) hZ (own_w hw 38 rfl) (own_w hw 5 rfl) (by decide) (by decide)) q961a q961c (g := (mkF m 184 (own_L_25 q1 q2 p3 p4 p5 p6 lk m1 m2 m3 old ss b59 (.val (.int (3 : Int32))) .unset .unset .unset) [(.ref b59)])) rfl (by rw [hml]; rfl) (Steps.refl _) (argsL := []) (rest := []) (lenOf pd_45 rfl) rfl (by show 2 * 0 + _ ≤ _; exact Nat.le_of_eq rfl) (hb hby at_184) (fun _ _ => ⟨rfl, rfl, (by decide : 5 + 0 ≤ _), (by decide : 18 + 0 ≤ _)⟩)
            dsimp only [Pt.U, Pt.locs, Pt.cells, Pt.slots] at X961 l961 y961 z961 st961 hQ961
            subst l961 y961 z961
            obtain ⟨rfl, Nq961, e961⟩ := hQ961
            have N961 := Fr.app N959 Nq961
            obtain ⟨cq1009, kq1009, q1009a, q1009b, q1009c⟩ := isOf hZ e961 (own_pt_exa P959)
            obtain ⟨_, _, ⟨T1009, L1009, k1009, n1009⟩, -, X1009, ⟨Lc1009, hQ1009, l1009, y1009, z1009⟩, st1009⟩ := X961.virtualBack hx (y := own_y_46) (z := own_y_46) hown (mvT hZ (own_w hw 40 rfl)) (mvT hZ (own_w hw 41 rfl)) (notFace_of_selects (args := #[]) (mvT hZ (own_w hw 43 rfl))) (mvT hZ (own_w hw 43 rfl)) (mvT hZ (own_w hw 42 rfl)) (by decide) (backOf (W := 0) (rmGn234 l Z a0 hw [] b59 (-9223372036854775808 : Int64) m1 m2 m3 (0 : Int64) p3 p4 p5 (0 : Int32) p4 T959.heap n0 z960 P959 ) hZ (own_w hw 44 rfl) (own_w hw 5 rfl) (by decide) (by decide)) q1009a q1009c (g := (mkF m 194 (own_L_25 q1 q2 p3 p4 p5 p6 lk m1 m2 m3 old ss b59 (.val (.int (3 : Int32))) (.val (.int (0 : Int32))) .unset .unset) [(.long (-9223372036854775808 : Int64)), (.ref b59)])) rfl (by rw [hml]; rfl) (Steps.refl _) (argsL := [(.long (-9223372036854775808 : Int64))]) (rest := []) (lenOf pd_55 rfl) rfl (by show 2 * 0 + _ ≤ _; exact Nat.le_of_eq rfl) (hb hby at_194) (fun _ _ => ⟨rfl, e961, (by decide : 5 + 0 ≤ _), (by decide : 18 + 0 ≤ _)⟩)
            dsimp only [Pt.U, Pt.locs, Pt.cells, Pt.slots] at X1009 l1009 y1009 z1009 st1009 hQ1009
            subst l1009 y1009 z1009
            obtain ⟨rfl, Nq1009, e1009⟩ := hQ1009
            have N1009 := Fr.app N961 Nq1009
            obtain ⟨cq1010, kq1010, q1010a, q1010b, q1010c⟩ := isOf hZ e1009 (own_pt_exa P959)
            obtain ⟨_, _, ⟨T1010, L1010, k1010, n1010⟩, -, X1010, ⟨Lc1010, hQ1010, l1010, y1010, z1010⟩, st1010⟩ := X1009.virtualBack hx (y := own_y_46) (z := own_y_46) hown (mvT hZ (own_w hw 40 rfl)) (mvT hZ (own_w hw 41 rfl)) (notFace_of_selects (args := #[]) (mvT hZ (own_w hw 43 rfl))) (mvT hZ (own_w hw 43 rfl)) (mvT hZ (own_w hw 42 rfl)) (by decide) (backOf (W := 0) (rmGn234 l Z a0 hw [] b59 ss m1 m2 m3 (0 : Int64) p3 p4 p5 (0 : Int32) p4 T959.heap n0 z960 P959 ) hZ (own_w hw 44 rfl) (own_w hw 5 rfl) (by decide) (by decide)) q1010a q1010c (g := (mkF m 203 (own_L_25 q1 q2 p3 p4 p5 p6 lk m1 m2 m3 old ss b59 (.val (.int (3 : Int32))) (.val (.int (0 : Int32))) (.val (.int (p5 - (if m3 < (-9223372036854775808 : Int64) then p5 else p4)))) .unset) [(.long ss), (.ref b59)])) rfl (by rw [hml]; rfl) (Steps.refl _) (argsL := [(.long ss)]) (rest := []) (lenOf pd_55 rfl) rfl (by show 2 * 0 + _ ≤ _; exact Nat.le_of_eq rfl) (hb hby at_203) (fun _ _ => ⟨rfl, e1009, (by decide : 5 + 0 ≤ _), (by decide : 18 + 0 ≤ _)⟩)
            dsimp only [Pt.U, Pt.locs, Pt.cells, Pt.slots] at X1010 l1010 y1010 z1010 st1010 hQ1010
            subst l1010 y1010 z1010
            obtain ⟨rfl, Nq1010, e1010⟩ := hQ1010
            have N1010 := Fr.app N1009 Nq1010
            have pre1011 : ∀ t, Steps p.tables e below (T1010.setTop (mkF m 208 (own_L_25 q1 q2 p3 p4 p5 p6 lk m1 m2 m3 old ss b59 (.val (.int (3 : Int32))) (.val (.int (0 : Int32))) (.val (.int (p5 - (if m3 < (-9223372036854775808 : Int64) then p5 else p4)))) (.val (.int (p5 - (if m3 < ss then p5 else p4))))) [])) t → Steps p.tables e below (s₁.setTop (entryFrame m #[(.long q1), (.long q2), (.int p3), (.int p4), (.int p5), (.int p6)] maxLocals)) t := fun t kt => pre793 t (by
              show Steps p.tables e below (T791.setTop (mkF m 179 (own_L_25 q1 q2 p3 p4 p5 p6 lk m1 m2 m3 old ss b59 (.val (.int (3 : Int32))) .unset .unset .unset) [(.long old), (.ref b59)])) _
              refine st959.trans ?_
              refine XS.aload X959.here hx rfl (hb hby at_182) rfl rfl ?_
              refine st961.trans ?_
              refine XS.istore X961.here hx rfl (hb hby at_187) rfl (l' := (own_L_25 q1 q2 p3 p4 p5 p6 lk m1 m2 m3 old ss b59 (.val (.int (3 : Int32))) (.val (.int (0 : Int32))) .unset .unset)) rfl ?_
              refine XS.aload X961.here hx rfl (hb hby at_189) rfl rfl ?_
              refine X961.ldc2Long hx hown (mvT hZ (own_w hw 39 rfl)) (g := (mkF m 191 (own_L_25 q1 q2 p3 p4 p5 p6 lk m1 m2 m3 old ss b59 (.val (.int (3 : Int32))) (.val (.int (0 : Int32))) .unset .unset) [(.ref b59)])) rfl (hb hby at_191) _ ?_
              refine st1009.trans ?_
              refine XS.istore X1009.here hx rfl (hb hby at_197) rfl (l' := (own_L_25 q1 q2 p3 p4 p5 p6 lk m1 m2 m3 old ss b59 (.val (.int (3 : Int32))) (.val (.int (0 : Int32))) (.val (.int (p5 - (if m3 < (-9223372036854775808 : Int64) then p5 else p4)))) .unset)) rfl ?_
              refine XS.aload X1009.here hx rfl (hb hby at_199) rfl rfl ?_
              refine XS.lload X1009.here hx rfl (hb hby at_201) rfl ?_
              refine st1010.trans ?_
              refine XS.istore X1010.here hx rfl (hb hby at_206) rfl (l' := (own_L_25 q1 q2 p3 p4 p5 p6 lk m1 m2 m3 old ss b59 (.val (.int (3 : Int32))) (.val (.int (0 : Int32))) (.val (.int (p5 - (if m3 < (-9223372036854775808 : Int64) then p5 else p4)))) (.val (.int (p5 - (if m3 < ss then p5 else p4)))))) rfl ?_
              exact kt)
            have f3' : f3 = (2 : Int32) := by rw [hf3, hf2, hf1, hk]; simp [hc794, hc795, hc796]
            have g1 : emR = (0 : Int32) := by rw [hemR, f3', hk]; simp
            have bR' : bR = p4 := by rw [hbR, f3']; simp
            have las' : las = p5 := by rw [hlas, hk]; simp
            have e2 : (if m3 < (-9223372036854775808 : Int64) then p5 else p4) = p4 := (if_neg (own_min _))
            have g2 : gaR = (p5 - (if m3 < (-9223372036854775808 : Int64) then p5 else p4)) := by rw [hgaR, g1, las', bR', e2]; simp
            have e3 : st3 = (if m3 < ss then p5 else p4) := by rw [hst3, hst2, hst1, f3', hk, bR']; simp
            have g3 : gsR = (p5 - (if m3 < ss then p5 else p4)) := by rw [hgsR, g1, las', e3]; simp
            rw [hk, g1, g2, g3]
            exact ⟨T1010, _, own_more X1010 (by decide) (by decide), N1010, pre1011⟩
        case neg =>
          obtain ⟨cq1048, kq1048, q1048a, q1048b, q1048c⟩ := isOf hZ rfl (own_pt_exa P791)
          obtain ⟨_, _, ⟨T1048, L1048, k1048, n1048⟩, -, X1048, ⟨Lc1048, hQ1048, l1048, y1048, z1048⟩, st1048⟩ := X791.virtualBack hx (y := own_y_32) (z := own_y_32) hown (mvT hZ (own_w hw 29 rfl)) (mvT hZ (own_w hw 30 rfl)) (notFace_of_selects (args := #[]) (mvT hZ (own_w hw 32 rfl))) (mvT hZ (own_w hw 32 rfl)) (mvT hZ (own_w hw 31 rfl)) (by decide) (backOf (W := 0) (rmFgt034_1 l Z a0 hw [] b59 old m1 m2 m3 (0 : Int64) p3 p4 p5 (0 : Int32) (if lk = (0 : Int32) then (p3 + (1 : Int32)) else (p3 - (1 : Int32))) T791.heap n0 z792 P791 hc794 hc795) hZ (own_w hw 33 rfl) (own_w hw 5 rfl) (by decide) (by decide)) q1048a q1048c (g := (mkF m 179 (own_L_25 q1 q2 p3 p4 p5 p6 lk m1 m2 m3 old ss b59 (.val (.int (3 : Int32))) .unset .unset .unset) [(.long old), (.ref b59)])) rfl (by rw [hml]; rfl) (Steps.refl _) (argsL := [(.long old)]) (rest := []) (lenOf pd_34 rfl) rfl (by show 2 * 0 + _ ≤ _; exact Nat.le_of_eq rfl) (hb hby at_179) (fun _ _ => ⟨rfl, rfl, (by decide : 5 + 0 ≤ _), (by decide : 18 + 0 ≤ _)⟩)
          dsimp only [Pt.U, Pt.locs, Pt.cells, Pt.slots] at X1048 l1048 y1048 z1048 st1048 hQ1048
          subst l1048 y1048 z1048
          obtain ⟨rfl, Nq1048, z1048, P1048⟩ := hQ1048
          have N1048 := Fr.app N791 Nq1048
          have z1049 : n0 ≤ T1048.heap.size := Nat.le_trans z792 z1048
          obtain ⟨cq1050, kq1050, q1050a, q1050b, q1050c⟩ := isOf hZ rfl (own_pt_exa P1048)
          obtain ⟨_, _, ⟨T1050, L1050, k1050, n1050⟩, -, X1050, ⟨Lc1050, hQ1050, l1050, y1050, z1050⟩, st1050⟩ := X1048.virtualBack hx (y := own_y_35) (z := own_y_35) hown (mvT hZ (own_w hw 34 rfl)) (mvT hZ (own_w hw 35 rfl)) (notFace_of_selects (args := #[]) (mvT hZ (own_w hw 37 rfl))) (mvT hZ (own_w hw 37 rfl)) (mvT hZ (own_w hw 36 rfl)) (by decide) (backOf (W := 0) (rmEmpF l Z a0 hw [] b59 _ _ _ _ _ _ T1048.heap n0 z1049 P1048 (by decide)) hZ (own_w hw 38 rfl) (own_w hw 5 rfl) (by decide) (by decide)) q1050a q1050c (g := (mkF m 184 (own_L_25 q1 q2 p3 p4 p5 p6 lk m1 m2 m3 old ss b59 (.val (.int (3 : Int32))) .unset .unset .unset) [(.ref b59)])) rfl (by rw [hml]; rfl) (Steps.refl _) (argsL := []) (rest := []) (lenOf pd_45 rfl) rfl (by show 2 * 0 + _ ≤ _; exact Nat.le_of_eq rfl) (hb hby at_184) (fun _ _ => ⟨rfl, rfl, (by decide : 5 + 0 ≤ _), (by decide : 18 + 0 ≤ _)⟩)
          dsimp only [Pt.U, Pt.locs, Pt.cells, Pt.slots] at X1050 l1050 y1050 z1050 st1050 hQ1050
          subst l1050 y1050 z1050
          obtain ⟨rfl, Nq1050, e1050⟩ := hQ1050
          have N1050 := Fr.app N1048 Nq1050
          obtain ⟨cq1129, kq1129, q1129a, q1129b, q1129c⟩ := isOf hZ e1050 (own_pt_exa P1048)
          obtain ⟨_, _, ⟨T1129, L1129, k1129, n1129⟩, -, X1129, ⟨Lc1129, hQ1129, l1129, y1129, z1129⟩, st1129⟩ := X1050.virtualBack hx (y := own_y_46) (z := own_y_46) hown (mvT hZ (own_w hw 40 rfl)) (mvT hZ (own_w hw 41 rfl)) (notFace_of_selects (args := #[]) (mvT hZ (own_w hw 43 rfl))) (mvT hZ (own_w hw 43 rfl)) (mvT hZ (own_w hw 42 rfl)) (by decide) (backOf (W := 0) (rmGn134 l Z a0 hw [] b59 (-9223372036854775808 : Int64) m1 m2 m3 (0 : Int64) p3 p4 p5 (0 : Int32) p3 T1048.heap n0 z1049 P1048 s23) hZ (own_w hw 44 rfl) (own_w hw 5 rfl) (by decide) (by decide)) q1129a q1129c (g := (mkF m 194 (own_L_25 q1 q2 p3 p4 p5 p6 lk m1 m2 m3 old ss b59 (.val (.int (3 : Int32))) (.val (.int (0 : Int32))) .unset .unset) [(.long (-9223372036854775808 : Int64)), (.ref b59)])) rfl (by rw [hml]; rfl) (Steps.refl _) (argsL := [(.long (-9223372036854775808 : Int64))]) (rest := []) (lenOf pd_55 rfl) rfl (by show 2 * 0 + _ ≤ _; exact Nat.le_of_eq rfl) (hb hby at_194) (fun _ _ => ⟨rfl, e1050, (by decide : 5 + 0 ≤ _), (by decide : 18 + 0 ≤ _)⟩)
          dsimp only [Pt.U, Pt.locs, Pt.cells, Pt.slots] at X1129 l1129 y1129 z1129 st1129 hQ1129
          subst l1129 y1129 z1129
          obtain ⟨rfl, Nq1129, e1129⟩ := hQ1129
          have N1129 := Fr.app N1050 Nq1129
          obtain ⟨cq1130, kq1130, q1130a, q1130b, q1130c⟩ := isOf hZ e1129 (own_pt_exa P1048)
          obtain ⟨_, _, ⟨T1130, L1130, k1130, n1130⟩, -, X1130, ⟨Lc1130, hQ1130, l1130, y1130, z1130⟩, st1130⟩ := X1129.virtualBack hx (y := own_y_46) (z := own_y_46) hown (mvT hZ (own_w hw 40 rfl)) (mvT hZ (own_w hw 41 rfl)) (notFace_of_selects (args := #[]) (mvT hZ (own_w hw 43 rfl))) (mvT hZ (own_w hw 43 rfl)) (mvT hZ (own_w hw 42 rfl)) (by decide) (backOf (W := 0) (rmGn134 l Z a0 hw [] b59 ss m1 m2 m3 (0 : Int64) p3 p4 p5 (0 : Int32) p3 T1048.heap n0 z1049 P1048 s23) hZ (own_w hw 44 rfl) (own_w hw 5 rfl) (by decide) (by decide)) q1130a q1130c (g := (mkF m 203 (own_L_25 q1 q2 p3 p4 p5 p6 lk m1 m2 m3 old ss b59 (.val (.int (3 : Int32))) (.val (.int (0 : Int32))) (.val (.int (p5 - (if m3 < (-9223372036854775808 : Int64) then p5 else (if m2 < (-9223372036854775808 : Int64) then p4 else p3))))) .unset) [(.long ss), (.ref b59)])) rfl (by rw [hml]; rfl) (Steps.refl _) (argsL := [(.long ss)]) (rest := []) (lenOf pd_55 rfl) rfl (by show 2 * 0 + _ ≤ _; exact Nat.le_of_eq rfl) (hb hby at_203) (fun _ _ => ⟨rfl, e1129, (by decide : 5 + 0 ≤ _), (by decide : 18 + 0 ≤ _)⟩)
          dsimp only [Pt.U, Pt.locs, Pt.cells, Pt.slots] at X1130 l1130 y1130 z1130 st1130 hQ1130
          subst l1130 y1130 z1130
          obtain ⟨rfl, Nq1130, e1130⟩ := hQ1130
          have N1130 := Fr.app N1129 Nq1130
          have pre1131 : ∀ t, Steps p.tables e below (T1130.setTop (mkF m 208 (own_L_25 q1 q2 p3 p4 p5 p6 lk m1 m2 m3 old ss b59 (.val (.int (3 : Int32))) (.val (.int (0 : Int32))) (.val (.int (p5 - (if m3 < (-9223372036854775808 : Int64) then p5 else (if m2 < (-9223372036854775808 : Int64) then p4 else p3))))) (.val (.int (p5 - (if m3 < ss then p5 else (if m2 < ss then p4 else p3)))))) [])) t → Steps p.tables e below (s₁.setTop (entryFrame m #[(.long q1), (.long q2), (.int p3), (.int p4), (.int p5), (.int p6)] maxLocals)) t := fun t kt => pre793 t (by
            show Steps p.tables e below (T791.setTop (mkF m 179 (own_L_25 q1 q2 p3 p4 p5 p6 lk m1 m2 m3 old ss b59 (.val (.int (3 : Int32))) .unset .unset .unset) [(.long old), (.ref b59)])) _
            refine st1048.trans ?_
            refine XS.aload X1048.here hx rfl (hb hby at_182) rfl rfl ?_
            refine st1050.trans ?_
            refine XS.istore X1050.here hx rfl (hb hby at_187) rfl (l' := (own_L_25 q1 q2 p3 p4 p5 p6 lk m1 m2 m3 old ss b59 (.val (.int (3 : Int32))) (.val (.int (0 : Int32))) .unset .unset)) rfl ?_
            refine XS.aload X1050.here hx rfl (hb hby at_189) rfl rfl ?_
            refine X1050.ldc2Long hx hown (mvT hZ (own_w hw 39 rfl)) (g := (mkF m 191 (own_L_25 q1 q2 p3 p4 p5 p6 lk m1 m2 m3 old ss b59 (.val (.int (3 : Int32))) (.val (.int (0 : Int32))) .unset .unset) [(.ref b59)])) rfl (hb hby at_191) _ ?_
            refine st1129.trans ?_
            refine XS.istore X1129.here hx rfl (hb hby at_197) rfl (l' := (own_L_25 q1 q2 p3 p4 p5 p6 lk m1 m2 m3 old ss b59 (.val (.int (3 : Int32))) (.val (.int (0 : Int32))) (.val (.int (p5 - (if m3 < (-9223372036854775808 : Int64) then p5 else (if m2 < (-9223372036854775808 : Int64) then p4 else p3))))) .unset)) rfl ?_
            refine XS.aload X1129.here hx rfl (hb hby at_199) rfl rfl ?_
            refine XS.lload X1129.here hx rfl (hb hby at_201) rfl ?_
            refine st1130.trans ?_
            refine XS.istore X1130.here hx rfl (hb hby at_206) rfl (l' := (own_L_25 q1 q2 p3 p4 p5 p6 lk m1 m2 m3 old ss b59 (.val (.int (3 : Int32))) (.val (.int (0 : Int32))) (.val (.int (p5 - (if m3 < (-9223372036854775808 : Int64) then p5 else (if m2 < (-9223372036854775808 : Int64) then p4 else p3))))) (.val (.int (p5 - (if m3 < ss then p5 else (if m2 < ss then p4 else p3))))))) rfl ?_
            exact kt)
          have lt1132 : ¬ (m3 < old) := by
            rw [Int64.lt_iff_toInt_lt] at s12 s23 hc794 hc795 ⊢
            omega
          have f3' : f3 = (1 : Int32) := by rw [hf3, hf2, hf1, hk]; simp [hc794, hc795, lt1132]
          have g1 : emR = (0 : Int32) := by rw [hemR, f3', hk]; simp
          have bR' : bR = p3 := by rw [hbR, f3']; simp
          have las' : las = p5 := by rw [hlas, hk]; simp
          have e2 : (if m3 < (-9223372036854775808 : Int64) then p5 else (if m2 < (-9223372036854775808 : Int64) then p4 else p3)) = p3 := ((if_neg (own_min _)).trans (if_neg (own_min _)))
          have g2 : gaR = (p5 - (if m3 < (-9223372036854775808 : Int64) then p5 else (if m2 < (-9223372036854775808 : Int64) then p4 else p3))) := by rw [hgaR, g1, las', bR', e2]; simp
          have e3 : st3 = (if m3 < ss then p5 else (if m2 < ss then p4 else p3)) := by rw [hst3, hst2, hst1, f3', hk, bR']; simp
          have g3 : gsR = (p5 - (if m3 < ss then p5 else (if m2 < ss then p4 else p3))) := by rw [hgsR, g1, las', e3]; simp
          rw [hk, g1, g2, g3]
          exact ⟨T1130, _, own_more X1130 (by decide) (by decide), N1130, pre1131⟩
      case neg =>
        obtain ⟨cq1140, kq1140, q1140a, q1140b, q1140c⟩ := isOf hZ rfl (own_pt_exa P791)
        obtain ⟨_, _, ⟨T1140, L1140, k1140, n1140⟩, -, X1140, ⟨Lc1140, hQ1140, l1140, y1140, z1140⟩, st1140⟩ := X791.virtualBack hx (y := own_y_32) (z := own_y_32) hown (mvT hZ (own_w hw 29 rfl)) (mvT hZ (own_w hw 30 rfl)) (notFace_of_selects (args := #[]) (mvT hZ (own_w hw 32 rfl))) (mvT hZ (own_w hw 32 rfl)) (mvT hZ (own_w hw 31 rfl)) (by decide) (backOf (W := 0) (rmFgt034_0 l Z a0 hw [] b59 old m1 m2 m3 (0 : Int64) p3 p4 p5 (0 : Int32) (if lk = (0 : Int32) then (p3 + (1 : Int32)) else (p3 - (1 : Int32))) T791.heap n0 z792 P791 hc794) hZ (own_w hw 33 rfl) (own_w hw 5 rfl) (by decide) (by decide)) q1140a q1140c (g := (mkF m 179 (own_L_25 q1 q2 p3 p4 p5 p6 lk m1 m2 m3 old ss b59 (.val (.int (3 : Int32))) .unset .unset .unset) [(.long old), (.ref b59)])) rfl (by rw [hml]; rfl) (Steps.refl _) (argsL := [(.long old)]) (rest := []) (lenOf pd_34 rfl) rfl (by show 2 * 0 + _ ≤ _; exact Nat.le_of_eq rfl) (hb hby at_179) (fun _ _ => ⟨rfl, rfl, (by decide : 5 + 0 ≤ _), (by decide : 18 + 0 ≤ _)⟩)
        dsimp only [Pt.U, Pt.locs, Pt.cells, Pt.slots] at X1140 l1140 y1140 z1140 st1140 hQ1140
        subst l1140 y1140 z1140
        obtain ⟨rfl, Nq1140, z1140, P1140⟩ := hQ1140
        have N1140 := Fr.app N791 Nq1140
        have z1141 : n0 ≤ T1140.heap.size := Nat.le_trans z792 z1140
        obtain ⟨cq1142, kq1142, q1142a, q1142b, q1142c⟩ := isOf hZ rfl (own_pt_exa P1140)
        obtain ⟨_, _, ⟨T1142, L1142, k1142, n1142⟩, -, X1142, ⟨Lc1142, hQ1142, l1142, y1142, z1142⟩, st1142⟩ := X1140.virtualBack hx (y := own_y_35) (z := own_y_35) hown (mvT hZ (own_w hw 34 rfl)) (mvT hZ (own_w hw 35 rfl)) (notFace_of_selects (args := #[]) (mvT hZ (own_w hw 37 rfl))) (mvT hZ (own_w hw 37 rfl)) (mvT hZ (own_w hw 36 rfl)) (by decide) (backOf (W := 0) (rmEmpF l Z a0 hw [] b59 _ _ _ _ _ _ T1140.heap n0 z1141 P1140 (by decide)) hZ (own_w hw 38 rfl) (own_w hw 5 rfl) (by decide) (by decide)) q1142a q1142c (g := (mkF m 184 (own_L_25 q1 q2 p3 p4 p5 p6 lk m1 m2 m3 old ss b59 (.val (.int (3 : Int32))) .unset .unset .unset) [(.ref b59)])) rfl (by rw [hml]; rfl) (Steps.refl _) (argsL := []) (rest := []) (lenOf pd_45 rfl) rfl (by show 2 * 0 + _ ≤ _; exact Nat.le_of_eq rfl) (hb hby at_184) (fun _ _ => ⟨rfl, rfl, (by decide : 5 + 0 ≤ _), (by decide : 18 + 0 ≤ _)⟩)
        dsimp only [Pt.U, Pt.locs, Pt.cells, Pt.slots] at X1142 l1142 y1142 z1142 st1142 hQ1142
        subst l1142 y1142 z1142
        obtain ⟨rfl, Nq1142, e1142⟩ := hQ1142
        have N1142 := Fr.app N1140 Nq1142
        obtain ⟨cq1254, kq1254, q1254a, q1254b, q1254c⟩ := isOf hZ e1142 (own_pt_exa P1140)
        obtain ⟨_, _, ⟨T1254, L1254, k1254, n1254⟩, -, X1254, ⟨Lc1254, hQ1254, l1254, y1254, z1254⟩, st1254⟩ := X1142.virtualBack hx (y := own_y_46) (z := own_y_46) hown (mvT hZ (own_w hw 40 rfl)) (mvT hZ (own_w hw 41 rfl)) (notFace_of_selects (args := #[]) (mvT hZ (own_w hw 43 rfl))) (mvT hZ (own_w hw 43 rfl)) (mvT hZ (own_w hw 42 rfl)) (by decide) (backOf (W := 0) (rmGn034 l Z a0 hw [] b59 (-9223372036854775808 : Int64) m1 m2 m3 (0 : Int64) p3 p4 p5 (0 : Int32) (if lk = (0 : Int32) then (p3 + (1 : Int32)) else (p3 - (1 : Int32))) T1140.heap n0 z1141 P1140 s12 s23) hZ (own_w hw 44 rfl) (own_w hw 5 rfl) (by decide) (by decide)) q1254a q1254c (g := (mkF m 194 (own_L_25 q1 q2 p3 p4 p5 p6 lk m1 m2 m3 old ss b59 (.val (.int (3 : Int32))) (.val (.int (0 : Int32))) .unset .unset) [(.long (-9223372036854775808 : Int64)), (.ref b59)])) rfl (by rw [hml]; rfl) (Steps.refl _) (argsL := [(.long (-9223372036854775808 : Int64))]) (rest := []) (lenOf pd_55 rfl) rfl (by show 2 * 0 + _ ≤ _; exact Nat.le_of_eq rfl) (hb hby at_194) (fun _ _ => ⟨rfl, e1142, (by decide : 5 + 0 ≤ _), (by decide : 18 + 0 ≤ _)⟩)
        dsimp only [Pt.U, Pt.locs, Pt.cells, Pt.slots] at X1254 l1254 y1254 z1254 st1254 hQ1254
        subst l1254 y1254 z1254
        obtain ⟨rfl, Nq1254, e1254⟩ := hQ1254
        have N1254 := Fr.app N1142 Nq1254
        obtain ⟨cq1255, kq1255, q1255a, q1255b, q1255c⟩ := isOf hZ e1254 (own_pt_exa P1140)
        obtain ⟨_, _, ⟨T1255, L1255, k1255, n1255⟩, -, X1255, ⟨Lc1255, hQ1255, l1255, y1255, z1255⟩, st1255⟩ := X1254.virtualBack hx (y := own_y_46) (z := own_y_46) hown (mvT hZ (own_w hw 40 rfl)) (mvT hZ (own_w hw 41 rfl)) (notFace_of_selects (args := #[]) (mvT hZ (own_w hw 43 rfl))) (mvT hZ (own_w hw 43 rfl)) (mvT hZ (own_w hw 42 rfl)) (by decide) (backOf (W := 0) (rmGn034 l Z a0 hw [] b59 ss m1 m2 m3 (0 : Int64) p3 p4 p5 (0 : Int32) (if lk = (0 : Int32) then (p3 + (1 : Int32)) else (p3 - (1 : Int32))) T1140.heap n0 z1141 P1140 s12 s23) hZ (own_w hw 44 rfl) (own_w hw 5 rfl) (by decide) (by decide)) q1255a q1255c (g := (mkF m 203 (own_L_25 q1 q2 p3 p4 p5 p6 lk m1 m2 m3 old ss b59 (.val (.int (3 : Int32))) (.val (.int (0 : Int32))) (.val (.int (p5 - (if m3 < (-9223372036854775808 : Int64) then p5 else (if m2 < (-9223372036854775808 : Int64) then p4 else (if m1 < (-9223372036854775808 : Int64) then p3 else (if lk = (0 : Int32) then (p3 + (1 : Int32)) else (p3 - (1 : Int32))))))))) .unset) [(.long ss), (.ref b59)])) rfl (by rw [hml]; rfl) (Steps.refl _) (argsL := [(.long ss)]) (rest := []) (lenOf pd_55 rfl) rfl (by show 2 * 0 + _ ≤ _; exact Nat.le_of_eq rfl) (hb hby at_203) (fun _ _ => ⟨rfl, e1254, (by decide : 5 + 0 ≤ _), (by decide : 18 + 0 ≤ _)⟩)
        dsimp only [Pt.U, Pt.locs, Pt.cells, Pt.slots] at X1255 l1255 y1255 z1255 st1255 hQ1255
        subst l1255 y1255 z1255
        obtain ⟨rfl, Nq1255, e1255⟩ := hQ1255
        have N1255 := Fr.app N1254 Nq1255
        have pre1256 : ∀ t, Steps p.tables e below (T1255.setTop (mkF m 208 (own_L_25 q1 q2 p3 p4 p5 p6 lk m1 m2 m3 old ss b59 (.val (.int (3 : Int32))) (.val (.int (0 : Int32))) (.val (.int (p5 - (if m3 < (-9223372036854775808 : Int64) then p5 else (if m2 < (-9223372036854775808 : Int64) then p4 else (if m1 < (-9223372036854775808 : Int64) then p3 else (if lk = (0 : Int32) then (p3 + (1 : Int32)) else (p3 - (1 : Int32))))))))) (.val (.int (p5 - (if m3 < ss then p5 else (if m2 < ss then p4 else (if m1 < ss then p3 else (if lk = (0 : Int32) then (p3 + (1 : Int32)) else (p3 - (1 : Int32)))))))))) [])) t → Steps p.tables e below (s₁.setTop (entryFrame m #[(.long q1), (.long q2), (.int p3), (.int p4), (.int p5), (.int p6)] maxLocals)) t := fun t kt => pre793 t (by
          show Steps p.tables e below (T791.setTop (mkF m 179 (own_L_25 q1 q2 p3 p4 p5 p6 lk m1 m2 m3 old ss b59 (.val (.int (3 : Int32))) .unset .unset .unset) [(.long old), (.ref b59)])) _
          refine st1140.trans ?_
          refine XS.aload X1140.here hx rfl (hb hby at_182) rfl rfl ?_
          refine st1142.trans ?_
          refine XS.istore X1142.here hx rfl (hb hby at_187) rfl (l' := (own_L_25 q1 q2 p3 p4 p5 p6 lk m1 m2 m3 old ss b59 (.val (.int (3 : Int32))) (.val (.int (0 : Int32))) .unset .unset)) rfl ?_
          refine XS.aload X1142.here hx rfl (hb hby at_189) rfl rfl ?_
          refine X1142.ldc2Long hx hown (mvT hZ (own_w hw 39 rfl)) (g := (mkF m 191 (own_L_25 q1 q2 p3 p4 p5 p6 lk m1 m2 m3 old ss b59 (.val (.int (3 : Int32))) (.val (.int (0 : Int32))) .unset .unset) [(.ref b59)])) rfl (hb hby at_191) _ ?_
          refine st1254.trans ?_
          refine XS.istore X1254.here hx rfl (hb hby at_197) rfl (l' := (own_L_25 q1 q2 p3 p4 p5 p6 lk m1 m2 m3 old ss b59 (.val (.int (3 : Int32))) (.val (.int (0 : Int32))) (.val (.int (p5 - (if m3 < (-9223372036854775808 : Int64) then p5 else (if m2 < (-9223372036854775808 : Int64) then p4 else (if m1 < (-9223372036854775808 : Int64) then p3 else (if lk = (0 : Int32) then (p3 + (1 : Int32)) else (p3 - (1 : Int32))))))))) .unset)) rfl ?_
          refine XS.aload X1254.here hx rfl (hb hby at_199) rfl rfl ?_
          refine XS.lload X1254.here hx rfl (hb hby at_201) rfl ?_
          refine st1255.trans ?_
          refine XS.istore X1255.here hx rfl (hb hby at_206) rfl (l' := (own_L_25 q1 q2 p3 p4 p5 p6 lk m1 m2 m3 old ss b59 (.val (.int (3 : Int32))) (.val (.int (0 : Int32))) (.val (.int (p5 - (if m3 < (-9223372036854775808 : Int64) then p5 else (if m2 < (-9223372036854775808 : Int64) then p4 else (if m1 < (-9223372036854775808 : Int64) then p3 else (if lk = (0 : Int32) then (p3 + (1 : Int32)) else (p3 - (1 : Int32))))))))) (.val (.int (p5 - (if m3 < ss then p5 else (if m2 < ss then p4 else (if m1 < ss then p3 else (if lk = (0 : Int32) then (p3 + (1 : Int32)) else (p3 - (1 : Int32))))))))))) rfl ?_
          exact kt)
        have lt1257 : ¬ (m2 < old) := by
          rw [Int64.lt_iff_toInt_lt] at s12 s23 hc794 ⊢
          omega
        have lt1258 : ¬ (m3 < old) := by
          rw [Int64.lt_iff_toInt_lt] at s12 s23 hc794 ⊢
          omega
        have f3' : f3 = (0 : Int32) := by rw [hf3, hf2, hf1, hk]; simp [hc794, lt1257, lt1258]
        have g1 : emR = (0 : Int32) := by rw [hemR, f3', hk]; simp
        have bR' : bR = (if lk = (0 : Int32) then (p3 + (1 : Int32)) else (p3 - (1 : Int32))) := by rw [hbR, f3', hb0]; simp
        have las' : las = p5 := by rw [hlas, hk]; simp
        have e2 : (if m3 < (-9223372036854775808 : Int64) then p5 else (if m2 < (-9223372036854775808 : Int64) then p4 else (if m1 < (-9223372036854775808 : Int64) then p3 else (if lk = (0 : Int32) then (p3 + (1 : Int32)) else (p3 - (1 : Int32)))))) = (if lk = (0 : Int32) then (p3 + (1 : Int32)) else (p3 - (1 : Int32))) := (((if_neg (own_min _)).trans (if_neg (own_min _))).trans (if_neg (own_min _)))
        have g2 : gaR = (p5 - (if m3 < (-9223372036854775808 : Int64) then p5 else (if m2 < (-9223372036854775808 : Int64) then p4 else (if m1 < (-9223372036854775808 : Int64) then p3 else (if lk = (0 : Int32) then (p3 + (1 : Int32)) else (p3 - (1 : Int32))))))) := by rw [hgaR, g1, las', bR', e2]; simp
        have e3 : st3 = (if m3 < ss then p5 else (if m2 < ss then p4 else (if m1 < ss then p3 else (if lk = (0 : Int32) then (p3 + (1 : Int32)) else (p3 - (1 : Int32)))))) := by rw [hst3, hst2, hst1, f3', hk, bR']; simp
        have g3 : gsR = (p5 - (if m3 < ss then p5 else (if m2 < ss then p4 else (if m1 < ss then p3 else (if lk = (0 : Int32) then (p3 + (1 : Int32)) else (p3 - (1 : Int32))))))) := by rw [hgsR, g1, las', e3]; simp
        rw [hk, g1, g2, g3]
        exact ⟨T1255, _, own_more X1255 (by decide) (by decide), N1255, pre1256⟩
  have pre1260 : ∀ t, Steps p.tables e below (T1259.setTop (mkF m 214 (own_L_417 q1 q2 p3 p4 p5 p6 kk lk m1 m2 m3 old ss b59 emR gaR gsR (.val (.int (0 : Int32))) .unset .unset .unset .unset .unset .unset .unset) [(.int (1 : Int32)), (.int kk)])) t → Steps p.tables e below (s₁.setTop (entryFrame m #[(.long q1), (.long q2), (.int p3), (.int p4), (.int p5), (.int p6)] maxLocals)) t := fun t kt => pre1259 t (by
    show Steps p.tables e below (T1259.setTop (mkF m 208 (own_L_417 q1 q2 p3 p4 p5 p6 kk lk m1 m2 m3 old ss b59 emR gaR gsR .unset .unset .unset .unset .unset .unset .unset .unset) [])) _
    refine XS.iconst X1259.here hx rfl (hb hby at_208) ?_
    refine XS.istore X1259.here hx rfl (hb hby at_209) rfl (l' := (own_L_417 q1 q2 p3 p4 p5 p6 kk lk m1 m2 m3 old ss b59 emR gaR gsR (.val (.int (0 : Int32))) .unset .unset .unset .unset .unset .unset .unset)) rfl ?_
    refine XS.iload X1259.here hx rfl (hb hby at_211) rfl ?_
    refine XS.iconst X1259.here hx rfl (hb hby at_213) ?_
    exact kt)
  have pre1263 : ∀ t, Steps p.tables e below (T1259.setTop (mkF m 228 (own_L_417 q1 q2 p3 p4 p5 p6 kk lk m1 m2 m3 old ss b59 emR gaR gsR (.val (.int f1)) .unset .unset .unset .unset .unset .unset .unset) [])) t → Steps p.tables e below (s₁.setTop (entryFrame m #[(.long q1), (.long q2), (.int p3), (.int p4), (.int p5), (.int p6)] maxLocals)) t := fun t kt => pre1260 t (by
    by_cases hc1261 : kk < (1 : Int32)
    case pos =>
      show Steps p.tables e below (T1259.setTop (mkF m 214 (own_L_417 q1 q2 p3 p4 p5 p6 kk lk m1 m2 m3 old ss b59 emR gaR gsR (.val (.int (0 : Int32))) .unset .unset .unset .unset .unset .unset .unset) [(.int (1 : Int32)), (.int kk)])) _
      refine XS.icmpYes X1259.here hx rfl (pc0 := 214) (pc' := 228) rfl (hb hby at_214) rfl (tlt hc1261).1 (by decide) (by decide) ?_
      rw [show f1 = (0 : Int32) from (hf1.trans (if_pos hc1261))] at kt
      exact kt
    case neg =>
      show Steps p.tables e below (T1259.setTop (mkF m 214 (own_L_417 q1 q2 p3 p4 p5 p6 kk lk m1 m2 m3 old ss b59 emR gaR gsR (.val (.int (0 : Int32))) .unset .unset .unset .unset .unset .unset .unset) [(.int (1 : Int32)), (.int kk)])) _
      refine XS.icmpNo X1259.here hx rfl (hb hby at_214) rfl (flt hc1261).1 ?_
      refine XS.lload X1259.here hx rfl (hb hby at_217) rfl ?_
      refine XS.lload X1259.here hx rfl (hb hby at_219) rfl ?_
      refine XS.lcmp X1259.here hx rfl (hb hby at_221) rfl ?_
      by_cases hc1262 : m1 < old
      case pos =>
        show Steps p.tables e below (T1259.setTop (mkF m 222 (own_L_417 q1 q2 p3 p4 p5 p6 kk lk m1 m2 m3 old ss b59 emR gaR gsR (.val (.int (0 : Int32))) .unset .unset .unset .unset .unset .unset .unset) [(.int (lcmpW m1 old))])) _
        refine XS.ifNo X1259.here hx rfl (hb hby at_222) rfl ((if0 _ _).trans (tlt ((lw_lt _ _).mpr hc1262)).2.1) ?_
        refine XS.iconst X1259.here hx rfl (hb hby at_225) ?_
        refine XS.istore X1259.here hx rfl (hb hby at_226) rfl (l' := (own_L_417 q1 q2 p3 p4 p5 p6 kk lk m1 m2 m3 old ss b59 emR gaR gsR (.val (.int (1 : Int32))) .unset .unset .unset .unset .unset .unset .unset)) rfl ?_
        rw [show f1 = (1 : Int32) from ((hf1.trans (if_neg hc1261)).trans (if_pos hc1262))] at kt
        exact kt
      case neg =>
        show Steps p.tables e below (T1259.setTop (mkF m 222 (own_L_417 q1 q2 p3 p4 p5 p6 kk lk m1 m2 m3 old ss b59 emR gaR gsR (.val (.int (0 : Int32))) .unset .unset .unset .unset .unset .unset .unset) [(.int (lcmpW m1 old))])) _
        refine XS.ifYes X1259.here hx rfl (pc0 := 222) (pc' := 228) rfl (hb hby at_222) rfl ((if0 _ _).trans (flt (fun q => hc1262 ((lw_lt _ _).mp q))).2.1) (by decide) (by decide) ?_
        rw [show f1 = (0 : Int32) from ((hf1.trans (if_neg hc1261)).trans (if_neg hc1262))] at kt
        exact kt)
  have pre1264 : ∀ t, Steps p.tables e below (T1259.setTop (mkF m 231 (own_L_417 q1 q2 p3 p4 p5 p6 kk lk m1 m2 m3 old ss b59 emR gaR gsR (.val (.int f1)) .unset .unset .unset .unset .unset .unset .unset) [(.int (2 : Int32)), (.int kk)])) t → Steps p.tables e below (s₁.setTop (entryFrame m #[(.long q1), (.long q2), (.int p3), (.int p4), (.int p5), (.int p6)] maxLocals)) t := fun t kt => pre1263 t (by
    show Steps p.tables e below (T1259.setTop (mkF m 228 (own_L_417 q1 q2 p3 p4 p5 p6 kk lk m1 m2 m3 old ss b59 emR gaR gsR (.val (.int f1)) .unset .unset .unset .unset .unset .unset .unset) [])) _
    refine XS.iload X1259.here hx rfl (hb hby at_228) rfl ?_
    refine XS.iconst X1259.here hx rfl (hb hby at_230) ?_
    exact kt)
  have pre1267 : ∀ t, Steps p.tables e below (T1259.setTop (mkF m 245 (own_L_417 q1 q2 p3 p4 p5 p6 kk lk m1 m2 m3 old ss b59 emR gaR gsR (.val (.int f2)) .unset .unset .unset .unset .unset .unset .unset) [])) t → Steps p.tables e below (s₁.setTop (entryFrame m #[(.long q1), (.long q2), (.int p3), (.int p4), (.int p5), (.int p6)] maxLocals)) t := fun t kt => pre1264 t (by
    by_cases hc1265 : kk < (2 : Int32)
    case pos =>
      show Steps p.tables e below (T1259.setTop (mkF m 231 (own_L_417 q1 q2 p3 p4 p5 p6 kk lk m1 m2 m3 old ss b59 emR gaR gsR (.val (.int f1)) .unset .unset .unset .unset .unset .unset .unset) [(.int (2 : Int32)), (.int kk)])) _
      refine XS.icmpYes X1259.here hx rfl (pc0 := 231) (pc' := 245) rfl (hb hby at_231) rfl (tlt hc1265).1 (by decide) (by decide) ?_
      rw [show f2 = f1 from (hf2.trans (if_pos hc1265))] at kt
      exact kt
    case neg =>
      show Steps p.tables e below (T1259.setTop (mkF m 231 (own_L_417 q1 q2 p3 p4 p5 p6 kk lk m1 m2 m3 old ss b59 emR gaR gsR (.val (.int f1)) .unset .unset .unset .unset .unset .unset .unset) [(.int (2 : Int32)), (.int kk)])) _
      refine XS.icmpNo X1259.here hx rfl (hb hby at_231) rfl (flt hc1265).1 ?_
      refine XS.lload X1259.here hx rfl (hb hby at_234) rfl ?_
      refine XS.lload X1259.here hx rfl (hb hby at_236) rfl ?_
      refine XS.lcmp X1259.here hx rfl (hb hby at_238) rfl ?_
      by_cases hc1266 : m2 < old
      case pos =>
        show Steps p.tables e below (T1259.setTop (mkF m 239 (own_L_417 q1 q2 p3 p4 p5 p6 kk lk m1 m2 m3 old ss b59 emR gaR gsR (.val (.int f1)) .unset .unset .unset .unset .unset .unset .unset) [(.int (lcmpW m2 old))])) _
        refine XS.ifNo X1259.here hx rfl (hb hby at_239) rfl ((if0 _ _).trans (tlt ((lw_lt _ _).mpr hc1266)).2.1) ?_
        refine XS.iconst X1259.here hx rfl (hb hby at_242) ?_
        refine XS.istore X1259.here hx rfl (hb hby at_243) rfl (l' := (own_L_417 q1 q2 p3 p4 p5 p6 kk lk m1 m2 m3 old ss b59 emR gaR gsR (.val (.int (2 : Int32))) .unset .unset .unset .unset .unset .unset .unset)) rfl ?_
        rw [show f2 = (2 : Int32) from ((hf2.trans (if_neg hc1265)).trans (if_pos hc1266))] at kt
        exact kt
      case neg =>
        show Steps p.tables e below (T1259.setTop (mkF m 239 (own_L_417 q1 q2 p3 p4 p5 p6 kk lk m1 m2 m3 old ss b59 emR gaR gsR (.val (.int f1)) .unset .unset .unset .unset .unset .unset .unset) [(.int (lcmpW m2 old))])) _
        refine XS.ifYes X1259.here hx rfl (pc0 := 239) (pc' := 245) rfl (hb hby at_239) rfl ((if0 _ _).trans (flt (fun q => hc1266 ((lw_lt _ _).mp q))).2.1) (by decide) (by decide) ?_
        rw [show f2 = f1 from ((hf2.trans (if_neg hc1265)).trans (if_neg hc1266))] at kt
        exact kt)
  have pre1268 : ∀ t, Steps p.tables e below (T1259.setTop (mkF m 248 (own_L_417 q1 q2 p3 p4 p5 p6 kk lk m1 m2 m3 old ss b59 emR gaR gsR (.val (.int f2)) .unset .unset .unset .unset .unset .unset .unset) [(.int (3 : Int32)), (.int kk)])) t → Steps p.tables e below (s₁.setTop (entryFrame m #[(.long q1), (.long q2), (.int p3), (.int p4), (.int p5), (.int p6)] maxLocals)) t := fun t kt => pre1267 t (by
    show Steps p.tables e below (T1259.setTop (mkF m 245 (own_L_417 q1 q2 p3 p4 p5 p6 kk lk m1 m2 m3 old ss b59 emR gaR gsR (.val (.int f2)) .unset .unset .unset .unset .unset .unset .unset) [])) _
    refine XS.iload X1259.here hx rfl (hb hby at_245) rfl ?_
    refine XS.iconst X1259.here hx rfl (hb hby at_247) ?_
    exact kt)
  have pre1271 : ∀ t, Steps p.tables e below (T1259.setTop (mkF m 262 (own_L_417 q1 q2 p3 p4 p5 p6 kk lk m1 m2 m3 old ss b59 emR gaR gsR (.val (.int f3)) .unset .unset .unset .unset .unset .unset .unset) [])) t → Steps p.tables e below (s₁.setTop (entryFrame m #[(.long q1), (.long q2), (.int p3), (.int p4), (.int p5), (.int p6)] maxLocals)) t := fun t kt => pre1268 t (by
    by_cases hc1269 : kk < (3 : Int32)
    case pos =>
      show Steps p.tables e below (T1259.setTop (mkF m 248 (own_L_417 q1 q2 p3 p4 p5 p6 kk lk m1 m2 m3 old ss b59 emR gaR gsR (.val (.int f2)) .unset .unset .unset .unset .unset .unset .unset) [(.int (3 : Int32)), (.int kk)])) _
      refine XS.icmpYes X1259.here hx rfl (pc0 := 248) (pc' := 262) rfl (hb hby at_248) rfl (tlt hc1269).1 (by decide) (by decide) ?_
      rw [show f3 = f2 from (hf3.trans (if_pos hc1269))] at kt
      exact kt
    case neg =>
      show Steps p.tables e below (T1259.setTop (mkF m 248 (own_L_417 q1 q2 p3 p4 p5 p6 kk lk m1 m2 m3 old ss b59 emR gaR gsR (.val (.int f2)) .unset .unset .unset .unset .unset .unset .unset) [(.int (3 : Int32)), (.int kk)])) _
      refine XS.icmpNo X1259.here hx rfl (hb hby at_248) rfl (flt hc1269).1 ?_
      refine XS.lload X1259.here hx rfl (hb hby at_251) rfl ?_
      refine XS.lload X1259.here hx rfl (hb hby at_253) rfl ?_
      refine XS.lcmp X1259.here hx rfl (hb hby at_255) rfl ?_
      by_cases hc1270 : m3 < old
      case pos =>
        show Steps p.tables e below (T1259.setTop (mkF m 256 (own_L_417 q1 q2 p3 p4 p5 p6 kk lk m1 m2 m3 old ss b59 emR gaR gsR (.val (.int f2)) .unset .unset .unset .unset .unset .unset .unset) [(.int (lcmpW m3 old))])) _
        refine XS.ifNo X1259.here hx rfl (hb hby at_256) rfl ((if0 _ _).trans (tlt ((lw_lt _ _).mpr hc1270)).2.1) ?_
        refine XS.iconst X1259.here hx rfl (hb hby at_259) ?_
        refine XS.istore X1259.here hx rfl (hb hby at_260) rfl (l' := (own_L_417 q1 q2 p3 p4 p5 p6 kk lk m1 m2 m3 old ss b59 emR gaR gsR (.val (.int (3 : Int32))) .unset .unset .unset .unset .unset .unset .unset)) rfl ?_
        rw [show f3 = (3 : Int32) from ((hf3.trans (if_neg hc1269)).trans (if_pos hc1270))] at kt
        exact kt
      case neg =>
        show Steps p.tables e below (T1259.setTop (mkF m 256 (own_L_417 q1 q2 p3 p4 p5 p6 kk lk m1 m2 m3 old ss b59 emR gaR gsR (.val (.int f2)) .unset .unset .unset .unset .unset .unset .unset) [(.int (lcmpW m3 old))])) _
        refine XS.ifYes X1259.here hx rfl (pc0 := 256) (pc' := 262) rfl (hb hby at_256) rfl ((if0 _ _).trans (flt (fun q => hc1270 ((lw_lt _ _).mp q))).2.1) (by decide) (by decide) ?_
        rw [show f3 = f2 from ((hf3.trans (if_neg hc1269)).trans (if_neg hc1270))] at kt
        exact kt)
  have pre1272 : ∀ t, Steps p.tables e below (T1259.setTop (mkF m 264 (own_L_417 q1 q2 p3 p4 p5 p6 kk lk m1 m2 m3 old ss b59 emR gaR gsR (.val (.int f3)) .unset .unset .unset .unset .unset .unset .unset) [(.int lk)])) t → Steps p.tables e below (s₁.setTop (entryFrame m #[(.long q1), (.long q2), (.int p3), (.int p4), (.int p5), (.int p6)] maxLocals)) t := fun t kt => pre1271 t (by
    show Steps p.tables e below (T1259.setTop (mkF m 262 (own_L_417 q1 q2 p3 p4 p5 p6 kk lk m1 m2 m3 old ss b59 emR gaR gsR (.val (.int f3)) .unset .unset .unset .unset .unset .unset .unset) [])) _
    refine XS.iload X1259.here hx rfl (hb hby at_262) rfl ?_
    exact kt)
  have pre1274 : ∀ t, Steps p.tables e below (T1259.setTop (mkF m 278 (own_L_417 q1 q2 p3 p4 p5 p6 kk lk m1 m2 m3 old ss b59 emR gaR gsR (.val (.int f3)) .unset .unset .unset .unset .unset .unset .unset) [(.int b0)])) t → Steps p.tables e below (s₁.setTop (entryFrame m #[(.long q1), (.long q2), (.int p3), (.int p4), (.int p5), (.int p6)] maxLocals)) t := fun t kt => pre1272 t (by
    by_cases hc1273 : lk = (0 : Int32)
    case pos =>
      show Steps p.tables e below (T1259.setTop (mkF m 264 (own_L_417 q1 q2 p3 p4 p5 p6 kk lk m1 m2 m3 old ss b59 emR gaR gsR (.val (.int f3)) .unset .unset .unset .unset .unset .unset .unset) [(.int lk)])) _
      refine XS.ifYes X1259.here hx rfl (pc0 := 264) (pc' := 274) rfl (hb hby at_264) rfl ((if0 _ _).trans (teq hc1273).1) (by decide) (by decide) ?_
      refine XS.iload X1259.here hx rfl (hb hby at_274) rfl ?_
      refine XS.iconst X1259.here hx rfl (hb hby at_276) ?_
      refine XS.iadd X1259.here hx rfl (hb hby at_277) rfl ?_
      rw [show b0 = (p3 + (1 : Int32)) from (hb0.trans (if_pos hc1273))] at kt
      exact kt
    case neg =>
      show Steps p.tables e below (T1259.setTop (mkF m 264 (own_L_417 q1 q2 p3 p4 p5 p6 kk lk m1 m2 m3 old ss b59 emR gaR gsR (.val (.int f3)) .unset .unset .unset .unset .unset .unset .unset) [(.int lk)])) _
      refine XS.ifNo X1259.here hx rfl (hb hby at_264) rfl ((if0 _ _).trans (feq hc1273).1) ?_
      refine XS.iload X1259.here hx rfl (hb hby at_267) rfl ?_
      refine XS.iconst X1259.here hx rfl (hb hby at_269) ?_
      refine XS.isub X1259.here hx rfl (hb hby at_270) rfl ?_
      refine XS.goto X1259.here hx rfl (pc0 := 271) (pc' := 278) rfl (hb hby at_271) (by decide) (by decide) ?_
      rw [show b0 = (p3 - (1 : Int32)) from (hb0.trans (if_neg hc1273))] at kt
      exact kt)
  have pre1275 : ∀ t, Steps p.tables e below (T1259.setTop (mkF m 282 (own_L_417 q1 q2 p3 p4 p5 p6 kk lk m1 m2 m3 old ss b59 emR gaR gsR (.val (.int f3)) (.val (.int b0)) .unset .unset .unset .unset .unset .unset) [(.int f3)])) t → Steps p.tables e below (s₁.setTop (entryFrame m #[(.long q1), (.long q2), (.int p3), (.int p4), (.int p5), (.int p6)] maxLocals)) t := fun t kt => pre1274 t (by
    show Steps p.tables e below (T1259.setTop (mkF m 278 (own_L_417 q1 q2 p3 p4 p5 p6 kk lk m1 m2 m3 old ss b59 emR gaR gsR (.val (.int f3)) .unset .unset .unset .unset .unset .unset .unset) [(.int b0)])) _
    refine XS.istore X1259.here hx rfl (hb hby at_278) rfl (l' := (own_L_417 q1 q2 p3 p4 p5 p6 kk lk m1 m2 m3 old ss b59 emR gaR gsR (.val (.int f3)) (.val (.int b0)) .unset .unset .unset .unset .unset .unset)) rfl ?_
    refine XS.iload X1259.here hx rfl (hb hby at_280) rfl ?_
    exact kt)
  have pre1279 : ∀ t, Steps p.tables e below (T1259.setTop (mkF m 314 (own_L_417 q1 q2 p3 p4 p5 p6 kk lk m1 m2 m3 old ss b59 emR gaR gsR (.val (.int f3)) (.val (.int b0)) .unset .unset .unset .unset .unset .unset) [(.int bR)])) t → Steps p.tables e below (s₁.setTop (entryFrame m #[(.long q1), (.long q2), (.int p3), (.int p4), (.int p5), (.int p6)] maxLocals)) t := fun t kt => pre1275 t (by
    by_cases hc1276 : f3 = (0 : Int32)
    case pos =>
      show Steps p.tables e below (T1259.setTop (mkF m 282 (own_L_417 q1 q2 p3 p4 p5 p6 kk lk m1 m2 m3 old ss b59 emR gaR gsR (.val (.int f3)) (.val (.int b0)) .unset .unset .unset .unset .unset .unset) [(.int f3)])) _
      refine XS.ifNo X1259.here hx rfl (hb hby at_282) rfl ((if0 _ _).trans (teq hc1276).2) ?_
      refine XS.iload X1259.here hx rfl (hb hby at_285) rfl ?_
      refine XS.goto X1259.here hx rfl (pc0 := 287) (pc' := 314) rfl (hb hby at_287) (by decide) (by decide) ?_
      rw [show bR = b0 from (hbR.trans (if_pos hc1276))] at kt
      exact kt
    case neg =>
      show Steps p.tables e below (T1259.setTop (mkF m 282 (own_L_417 q1 q2 p3 p4 p5 p6 kk lk m1 m2 m3 old ss b59 emR gaR gsR (.val (.int f3)) (.val (.int b0)) .unset .unset .unset .unset .unset .unset) [(.int f3)])) _
      refine XS.ifYes X1259.here hx rfl (pc0 := 282) (pc' := 290) rfl (hb hby at_282) rfl ((if0 _ _).trans (feq hc1276).2) (by decide) (by decide) ?_
      refine XS.iload X1259.here hx rfl (hb hby at_290) rfl ?_
      refine XS.iconst X1259.here hx rfl (hb hby at_292) ?_
      by_cases hc1277 : f3 = (1 : Int32)
      case pos =>
        show Steps p.tables e below (T1259.setTop (mkF m 293 (own_L_417 q1 q2 p3 p4 p5 p6 kk lk m1 m2 m3 old ss b59 emR gaR gsR (.val (.int f3)) (.val (.int b0)) .unset .unset .unset .unset .unset .unset) [(.int (1 : Int32)), (.int f3)])) _
        refine XS.icmpNo X1259.here hx rfl (hb hby at_293) rfl (teq hc1277).2 ?_
        refine XS.iload X1259.here hx rfl (hb hby at_296) rfl ?_
        refine XS.goto X1259.here hx rfl (pc0 := 298) (pc' := 314) rfl (hb hby at_298) (by decide) (by decide) ?_
        rw [show bR = p3 from ((hbR.trans (if_neg hc1276)).trans (if_pos hc1277))] at kt
        exact kt
      case neg =>
        show Steps p.tables e below (T1259.setTop (mkF m 293 (own_L_417 q1 q2 p3 p4 p5 p6 kk lk m1 m2 m3 old ss b59 emR gaR gsR (.val (.int f3)) (.val (.int b0)) .unset .unset .unset .unset .unset .unset) [(.int (1 : Int32)), (.int f3)])) _
        refine XS.icmpYes X1259.here hx rfl (pc0 := 293) (pc' := 301) rfl (hb hby at_293) rfl (feq hc1277).2 (by decide) (by decide) ?_
        refine XS.iload X1259.here hx rfl (hb hby at_301) rfl ?_
        refine XS.iconst X1259.here hx rfl (hb hby at_303) ?_
        by_cases hc1278 : f3 = (2 : Int32)
        case pos =>
          show Steps p.tables e below (T1259.setTop (mkF m 304 (own_L_417 q1 q2 p3 p4 p5 p6 kk lk m1 m2 m3 old ss b59 emR gaR gsR (.val (.int f3)) (.val (.int b0)) .unset .unset .unset .unset .unset .unset) [(.int (2 : Int32)), (.int f3)])) _
          refine XS.icmpNo X1259.here hx rfl (hb hby at_304) rfl (teq hc1278).2 ?_
          refine XS.iload X1259.here hx rfl (hb hby at_307) rfl ?_
          refine XS.goto X1259.here hx rfl (pc0 := 309) (pc' := 314) rfl (hb hby at_309) (by decide) (by decide) ?_
          rw [show bR = p4 from (((hbR.trans (if_neg hc1276)).trans (if_neg hc1277)).trans (if_pos hc1278))] at kt
          exact kt
        case neg =>
          show Steps p.tables e below (T1259.setTop (mkF m 304 (own_L_417 q1 q2 p3 p4 p5 p6 kk lk m1 m2 m3 old ss b59 emR gaR gsR (.val (.int f3)) (.val (.int b0)) .unset .unset .unset .unset .unset .unset) [(.int (2 : Int32)), (.int f3)])) _
          refine XS.icmpYes X1259.here hx rfl (pc0 := 304) (pc' := 312) rfl (hb hby at_304) rfl (feq hc1278).2 (by decide) (by decide) ?_
          refine XS.iload X1259.here hx rfl (hb hby at_312) rfl ?_
          rw [show bR = p5 from (((hbR.trans (if_neg hc1276)).trans (if_neg hc1277)).trans (if_neg hc1278))] at kt
          exact kt)
  have pre1280 : ∀ t, Steps p.tables e below (T1259.setTop (mkF m 320 (own_L_417 q1 q2 p3 p4 p5 p6 kk lk m1 m2 m3 old ss b59 emR gaR gsR (.val (.int f3)) (.val (.int b0)) (.val (.int bR)) .unset .unset .unset .unset .unset) [(.int kk), (.int f3)])) t → Steps p.tables e below (s₁.setTop (entryFrame m #[(.long q1), (.long q2), (.int p3), (.int p4), (.int p5), (.int p6)] maxLocals)) t := fun t kt => pre1279 t (by
    show Steps p.tables e below (T1259.setTop (mkF m 314 (own_L_417 q1 q2 p3 p4 p5 p6 kk lk m1 m2 m3 old ss b59 emR gaR gsR (.val (.int f3)) (.val (.int b0)) .unset .unset .unset .unset .unset .unset) [(.int bR)])) _
    refine XS.istore X1259.here hx rfl (hb hby at_314) rfl (l' := (own_L_417 q1 q2 p3 p4 p5 p6 kk lk m1 m2 m3 old ss b59 emR gaR gsR (.val (.int f3)) (.val (.int b0)) (.val (.int bR)) .unset .unset .unset .unset .unset)) rfl ?_
    refine XS.iload X1259.here hx rfl (hb hby at_316) rfl ?_
    refine XS.iload X1259.here hx rfl (hb hby at_318) rfl ?_
    exact kt)
  obtain ⟨emR2, hemR2⟩ : ∃ z : Int32, z = (if f3 = kk then (1 : Int32) else (0 : Int32)) := ⟨_, rfl⟩
  have pre1282 : ∀ t, Steps p.tables e below (T1259.setTop (mkF m 328 (own_L_417 q1 q2 p3 p4 p5 p6 kk lk m1 m2 m3 old ss b59 emR gaR gsR (.val (.int f3)) (.val (.int b0)) (.val (.int bR)) .unset .unset .unset .unset .unset) [(.int emR2)])) t → Steps p.tables e below (s₁.setTop (entryFrame m #[(.long q1), (.long q2), (.int p3), (.int p4), (.int p5), (.int p6)] maxLocals)) t := fun t kt => pre1280 t (by
    by_cases hc1281 : f3 = kk
    case pos =>
      show Steps p.tables e below (T1259.setTop (mkF m 320 (own_L_417 q1 q2 p3 p4 p5 p6 kk lk m1 m2 m3 old ss b59 emR gaR gsR (.val (.int f3)) (.val (.int b0)) (.val (.int bR)) .unset .unset .unset .unset .unset) [(.int kk), (.int f3)])) _
      refine XS.icmpNo X1259.here hx rfl (hb hby at_320) rfl (teq hc1281).2 ?_
      refine XS.iconst X1259.here hx rfl (hb hby at_323) ?_
      refine XS.goto X1259.here hx rfl (pc0 := 324) (pc' := 328) rfl (hb hby at_324) (by decide) (by decide) ?_
      rw [show emR2 = (1 : Int32) from (hemR2.trans (if_pos hc1281))] at kt
      exact kt
    case neg =>
      show Steps p.tables e below (T1259.setTop (mkF m 320 (own_L_417 q1 q2 p3 p4 p5 p6 kk lk m1 m2 m3 old ss b59 emR gaR gsR (.val (.int f3)) (.val (.int b0)) (.val (.int bR)) .unset .unset .unset .unset .unset) [(.int kk), (.int f3)])) _
      refine XS.icmpYes X1259.here hx rfl (pc0 := 320) (pc' := 327) rfl (hb hby at_320) rfl (feq hc1281).2 (by decide) (by decide) ?_
      refine XS.iconst X1259.here hx rfl (hb hby at_327) ?_
      rw [show emR2 = (0 : Int32) from (hemR2.trans (if_neg hc1281))] at kt
      exact kt)
  have pre1283 : ∀ t, Steps p.tables e below (T1259.setTop (mkF m 333 (own_L_417 q1 q2 p3 p4 p5 p6 kk lk m1 m2 m3 old ss b59 emR gaR gsR (.val (.int f3)) (.val (.int b0)) (.val (.int bR)) (.val (.int emR2)) .unset .unset .unset .unset) [(.int (1 : Int32)), (.int kk)])) t → Steps p.tables e below (s₁.setTop (entryFrame m #[(.long q1), (.long q2), (.int p3), (.int p4), (.int p5), (.int p6)] maxLocals)) t := fun t kt => pre1282 t (by
    show Steps p.tables e below (T1259.setTop (mkF m 328 (own_L_417 q1 q2 p3 p4 p5 p6 kk lk m1 m2 m3 old ss b59 emR gaR gsR (.val (.int f3)) (.val (.int b0)) (.val (.int bR)) .unset .unset .unset .unset .unset) [(.int emR2)])) _
    refine XS.istore X1259.here hx rfl (hb hby at_328) rfl (l' := (own_L_417 q1 q2 p3 p4 p5 p6 kk lk m1 m2 m3 old ss b59 emR gaR gsR (.val (.int f3)) (.val (.int b0)) (.val (.int bR)) (.val (.int emR2)) .unset .unset .unset .unset)) rfl ?_
    refine XS.iload X1259.here hx rfl (hb hby at_330) rfl ?_
    refine XS.iconst X1259.here hx rfl (hb hby at_332) ?_
    exact kt)
  have pre1286 : ∀ t, Steps p.tables e below (T1259.setTop (mkF m 354 (own_L_417 q1 q2 p3 p4 p5 p6 kk lk m1 m2 m3 old ss b59 emR gaR gsR (.val (.int f3)) (.val (.int b0)) (.val (.int bR)) (.val (.int emR2)) .unset .unset .unset .unset) [(.int las)])) t → Steps p.tables e below (s₁.setTop (entryFrame m #[(.long q1), (.long q2), (.int p3), (.int p4), (.int p5), (.int p6)] maxLocals)) t := fun t kt => pre1283 t (by
    by_cases hc1284 : kk = (1 : Int32)
    case pos =>
      show Steps p.tables e below (T1259.setTop (mkF m 333 (own_L_417 q1 q2 p3 p4 p5 p6 kk lk m1 m2 m3 old ss b59 emR gaR gsR (.val (.int f3)) (.val (.int b0)) (.val (.int bR)) (.val (.int emR2)) .unset .unset .unset .unset) [(.int (1 : Int32)), (.int kk)])) _
      refine XS.icmpNo X1259.here hx rfl (hb hby at_333) rfl (teq hc1284).2 ?_
      refine XS.iload X1259.here hx rfl (hb hby at_336) rfl ?_
      refine XS.goto X1259.here hx rfl (pc0 := 338) (pc' := 354) rfl (hb hby at_338) (by decide) (by decide) ?_
      rw [show las = p3 from (hlas.trans (if_pos hc1284))] at kt
      exact kt
    case neg =>
      show Steps p.tables e below (T1259.setTop (mkF m 333 (own_L_417 q1 q2 p3 p4 p5 p6 kk lk m1 m2 m3 old ss b59 emR gaR gsR (.val (.int f3)) (.val (.int b0)) (.val (.int bR)) (.val (.int emR2)) .unset .unset .unset .unset) [(.int (1 : Int32)), (.int kk)])) _
      refine XS.icmpYes X1259.here hx rfl (pc0 := 333) (pc' := 341) rfl (hb hby at_333) rfl (feq hc1284).2 (by decide) (by decide) ?_
      refine XS.iload X1259.here hx rfl (hb hby at_341) rfl ?_
      refine XS.iconst X1259.here hx rfl (hb hby at_343) ?_
      by_cases hc1285 : kk = (2 : Int32)
      case pos =>
        show Steps p.tables e below (T1259.setTop (mkF m 344 (own_L_417 q1 q2 p3 p4 p5 p6 kk lk m1 m2 m3 old ss b59 emR gaR gsR (.val (.int f3)) (.val (.int b0)) (.val (.int bR)) (.val (.int emR2)) .unset .unset .unset .unset) [(.int (2 : Int32)), (.int kk)])) _
        refine XS.icmpNo X1259.here hx rfl (hb hby at_344) rfl (teq hc1285).2 ?_
        refine XS.iload X1259.here hx rfl (hb hby at_347) rfl ?_
        refine XS.goto X1259.here hx rfl (pc0 := 349) (pc' := 354) rfl (hb hby at_349) (by decide) (by decide) ?_
        rw [show las = p4 from ((hlas.trans (if_neg hc1284)).trans (if_pos hc1285))] at kt
        exact kt
      case neg =>
        show Steps p.tables e below (T1259.setTop (mkF m 344 (own_L_417 q1 q2 p3 p4 p5 p6 kk lk m1 m2 m3 old ss b59 emR gaR gsR (.val (.int f3)) (.val (.int b0)) (.val (.int bR)) (.val (.int emR2)) .unset .unset .unset .unset) [(.int (2 : Int32)), (.int kk)])) _
        refine XS.icmpYes X1259.here hx rfl (pc0 := 344) (pc' := 352) rfl (hb hby at_344) rfl (feq hc1285).2 (by decide) (by decide) ?_
        refine XS.iload X1259.here hx rfl (hb hby at_352) rfl ?_
        rw [show las = p5 from ((hlas.trans (if_neg hc1284)).trans (if_neg hc1285))] at kt
        exact kt)
  have pre1287 : ∀ t, Steps p.tables e below (T1259.setTop (mkF m 363 (own_L_417 q1 q2 p3 p4 p5 p6 kk lk m1 m2 m3 old ss b59 emR gaR gsR (.val (.int f3)) (.val (.int b0)) (.val (.int bR)) (.val (.int emR2)) (.val (.int las)) (.val (.int bR)) .unset .unset) [(.int (1 : Int32)), (.int f3)])) t → Steps p.tables e below (s₁.setTop (entryFrame m #[(.long q1), (.long q2), (.int p3), (.int p4), (.int p5), (.int p6)] maxLocals)) t := fun t kt => pre1286 t (by
    show Steps p.tables e below (T1259.setTop (mkF m 354 (own_L_417 q1 q2 p3 p4 p5 p6 kk lk m1 m2 m3 old ss b59 emR gaR gsR (.val (.int f3)) (.val (.int b0)) (.val (.int bR)) (.val (.int emR2)) .unset .unset .unset .unset) [(.int las)])) _
    refine XS.istore X1259.here hx rfl (hb hby at_354) rfl (l' := (own_L_417 q1 q2 p3 p4 p5 p6 kk lk m1 m2 m3 old ss b59 emR gaR gsR (.val (.int f3)) (.val (.int b0)) (.val (.int bR)) (.val (.int emR2)) (.val (.int las)) .unset .unset .unset)) rfl ?_
    refine XS.iload X1259.here hx rfl (hb hby at_356) rfl ?_
    refine XS.istore X1259.here hx rfl (hb hby at_358) rfl (l' := (own_L_417 q1 q2 p3 p4 p5 p6 kk lk m1 m2 m3 old ss b59 emR gaR gsR (.val (.int f3)) (.val (.int b0)) (.val (.int bR)) (.val (.int emR2)) (.val (.int las)) (.val (.int bR)) .unset .unset)) rfl ?_
    refine XS.iload X1259.here hx rfl (hb hby at_360) rfl ?_
    refine XS.iconst X1259.here hx rfl (hb hby at_362) ?_
    exact kt)
  have pre1291 : ∀ t, Steps p.tables e below (T1259.setTop (mkF m 384 (own_L_417 q1 q2 p3 p4 p5 p6 kk lk m1 m2 m3 old ss b59 emR gaR gsR (.val (.int f3)) (.val (.int b0)) (.val (.int bR)) (.val (.int emR2)) (.val (.int las)) (.val (.int st1)) .unset .unset) [])) t → Steps p.tables e below (s₁.setTop (entryFrame m #[(.long q1), (.long q2), (.int p3), (.int p4), (.int p5), (.int p6)] maxLocals)) t := fun t kt => pre1287 t (by
    by_cases hc1288 : f3 < (1 : Int32)
    case pos =>
      show Steps p.tables e below (T1259.setTop (mkF m 363 (own_L_417 q1 q2 p3 p4 p5 p6 kk lk m1 m2 m3 old ss b59 emR gaR gsR (.val (.int f3)) (.val (.int b0)) (.val (.int bR)) (.val (.int emR2)) (.val (.int las)) (.val (.int bR)) .unset .unset) [(.int (1 : Int32)), (.int f3)])) _
      refine XS.icmpNo X1259.here hx rfl (hb hby at_363) rfl (tlt hc1288).2.1 ?_
      refine XS.iload X1259.here hx rfl (hb hby at_366) rfl ?_
      refine XS.iconst X1259.here hx rfl (hb hby at_368) ?_
      by_cases hc1289 : kk < (1 : Int32)
      case pos =>
        show Steps p.tables e below (T1259.setTop (mkF m 369 (own_L_417 q1 q2 p3 p4 p5 p6 kk lk m1 m2 m3 old ss b59 emR gaR gsR (.val (.int f3)) (.val (.int b0)) (.val (.int bR)) (.val (.int emR2)) (.val (.int las)) (.val (.int bR)) .unset .unset) [(.int (1 : Int32)), (.int kk)])) _
        refine XS.icmpYes X1259.here hx rfl (pc0 := 369) (pc' := 384) rfl (hb hby at_369) rfl (tlt hc1289).1 (by decide) (by decide) ?_
        rw [show st1 = bR from ((hst1.trans (if_pos hc1288)).trans (if_pos hc1289))] at kt
        exact kt
      case neg =>
        show Steps p.tables e below (T1259.setTop (mkF m 369 (own_L_417 q1 q2 p3 p4 p5 p6 kk lk m1 m2 m3 old ss b59 emR gaR gsR (.val (.int f3)) (.val (.int b0)) (.val (.int bR)) (.val (.int emR2)) (.val (.int las)) (.val (.int bR)) .unset .unset) [(.int (1 : Int32)), (.int kk)])) _
        refine XS.icmpNo X1259.here hx rfl (hb hby at_369) rfl (flt hc1289).1 ?_
        refine XS.lload X1259.here hx rfl (hb hby at_372) rfl ?_
        refine XS.lload X1259.here hx rfl (hb hby at_374) rfl ?_
        refine XS.lcmp X1259.here hx rfl (hb hby at_376) rfl ?_
        by_cases hc1290 : m1 < ss
        case pos =>
          show Steps p.tables e below (T1259.setTop (mkF m 377 (own_L_417 q1 q2 p3 p4 p5 p6 kk lk m1 m2 m3 old ss b59 emR gaR gsR (.val (.int f3)) (.val (.int b0)) (.val (.int bR)) (.val (.int emR2)) (.val (.int las)) (.val (.int bR)) .unset .unset) [(.int (lcmpW m1 ss))])) _
          refine XS.ifNo X1259.here hx rfl (hb hby at_377) rfl ((if0 _ _).trans (tlt ((lw_lt _ _).mpr hc1290)).2.1) ?_
          refine XS.iload X1259.here hx rfl (hb hby at_380) rfl ?_
          refine XS.istore X1259.here hx rfl (hb hby at_382) rfl (l' := (own_L_417 q1 q2 p3 p4 p5 p6 kk lk m1 m2 m3 old ss b59 emR gaR gsR (.val (.int f3)) (.val (.int b0)) (.val (.int bR)) (.val (.int emR2)) (.val (.int las)) (.val (.int p3)) .unset .unset)) rfl ?_
          rw [show st1 = p3 from (((hst1.trans (if_pos hc1288)).trans (if_neg hc1289)).trans (if_pos hc1290))] at kt
          exact kt
        case neg =>
          show Steps p.tables e below (T1259.setTop (mkF m 377 (own_L_417 q1 q2 p3 p4 p5 p6 kk lk m1 m2 m3 old ss b59 emR gaR gsR (.val (.int f3)) (.val (.int b0)) (.val (.int bR)) (.val (.int emR2)) (.val (.int las)) (.val (.int bR)) .unset .unset) [(.int (lcmpW m1 ss))])) _
          refine XS.ifYes X1259.here hx rfl (pc0 := 377) (pc' := 384) rfl (hb hby at_377) rfl ((if0 _ _).trans (flt (fun q => hc1290 ((lw_lt _ _).mp q))).2.1) (by decide) (by decide) ?_
          rw [show st1 = bR from (((hst1.trans (if_pos hc1288)).trans (if_neg hc1289)).trans (if_neg hc1290))] at kt
          exact kt
    case neg =>
      show Steps p.tables e below (T1259.setTop (mkF m 363 (own_L_417 q1 q2 p3 p4 p5 p6 kk lk m1 m2 m3 old ss b59 emR gaR gsR (.val (.int f3)) (.val (.int b0)) (.val (.int bR)) (.val (.int emR2)) (.val (.int las)) (.val (.int bR)) .unset .unset) [(.int (1 : Int32)), (.int f3)])) _
      refine XS.icmpYes X1259.here hx rfl (pc0 := 363) (pc' := 384) rfl (hb hby at_363) rfl (flt hc1288).2.1 (by decide) (by decide) ?_
      rw [show st1 = bR from (hst1.trans (if_neg hc1288))] at kt
      exact kt)
  have pre1292 : ∀ t, Steps p.tables e below (T1259.setTop (mkF m 387 (own_L_417 q1 q2 p3 p4 p5 p6 kk lk m1 m2 m3 old ss b59 emR gaR gsR (.val (.int f3)) (.val (.int b0)) (.val (.int bR)) (.val (.int emR2)) (.val (.int las)) (.val (.int st1)) .unset .unset) [(.int (2 : Int32)), (.int f3)])) t → Steps p.tables e below (s₁.setTop (entryFrame m #[(.long q1), (.long q2), (.int p3), (.int p4), (.int p5), (.int p6)] maxLocals)) t := fun t kt => pre1291 t (by
    show Steps p.tables e below (T1259.setTop (mkF m 384 (own_L_417 q1 q2 p3 p4 p5 p6 kk lk m1 m2 m3 old ss b59 emR gaR gsR (.val (.int f3)) (.val (.int b0)) (.val (.int bR)) (.val (.int emR2)) (.val (.int las)) (.val (.int st1)) .unset .unset) [])) _
    refine XS.iload X1259.here hx rfl (hb hby at_384) rfl ?_
    refine XS.iconst X1259.here hx rfl (hb hby at_386) ?_
    exact kt)
  have pre1296 : ∀ t, Steps p.tables e below (T1259.setTop (mkF m 408 (own_L_417 q1 q2 p3 p4 p5 p6 kk lk m1 m2 m3 old ss b59 emR gaR gsR (.val (.int f3)) (.val (.int b0)) (.val (.int bR)) (.val (.int emR2)) (.val (.int las)) (.val (.int st2)) .unset .unset) [])) t → Steps p.tables e below (s₁.setTop (entryFrame m #[(.long q1), (.long q2), (.int p3), (.int p4), (.int p5), (.int p6)] maxLocals)) t := fun t kt => pre1292 t (by
    by_cases hc1293 : f3 < (2 : Int32)
    case pos =>
      show Steps p.tables e below (T1259.setTop (mkF m 387 (own_L_417 q1 q2 p3 p4 p5 p6 kk lk m1 m2 m3 old ss b59 emR gaR gsR (.val (.int f3)) (.val (.int b0)) (.val (.int bR)) (.val (.int emR2)) (.val (.int las)) (.val (.int st1)) .unset .unset) [(.int (2 : Int32)), (.int f3)])) _
      refine XS.icmpNo X1259.here hx rfl (hb hby at_387) rfl (tlt hc1293).2.1 ?_
      refine XS.iload X1259.here hx rfl (hb hby at_390) rfl ?_
      refine XS.iconst X1259.here hx rfl (hb hby at_392) ?_
      by_cases hc1294 : kk < (2 : Int32)
      case pos =>
        show Steps p.tables e below (T1259.setTop (mkF m 393 (own_L_417 q1 q2 p3 p4 p5 p6 kk lk m1 m2 m3 old ss b59 emR gaR gsR (.val (.int f3)) (.val (.int b0)) (.val (.int bR)) (.val (.int emR2)) (.val (.int las)) (.val (.int st1)) .unset .unset) [(.int (2 : Int32)), (.int kk)])) _
        refine XS.icmpYes X1259.here hx rfl (pc0 := 393) (pc' := 408) rfl (hb hby at_393) rfl (tlt hc1294).1 (by decide) (by decide) ?_
        rw [show st2 = st1 from ((hst2.trans (if_pos hc1293)).trans (if_pos hc1294))] at kt
        exact kt
      case neg =>
        show Steps p.tables e below (T1259.setTop (mkF m 393 (own_L_417 q1 q2 p3 p4 p5 p6 kk lk m1 m2 m3 old ss b59 emR gaR gsR (.val (.int f3)) (.val (.int b0)) (.val (.int bR)) (.val (.int emR2)) (.val (.int las)) (.val (.int st1)) .unset .unset) [(.int (2 : Int32)), (.int kk)])) _
        refine XS.icmpNo X1259.here hx rfl (hb hby at_393) rfl (flt hc1294).1 ?_
        refine XS.lload X1259.here hx rfl (hb hby at_396) rfl ?_
        refine XS.lload X1259.here hx rfl (hb hby at_398) rfl ?_
        refine XS.lcmp X1259.here hx rfl (hb hby at_400) rfl ?_
        by_cases hc1295 : m2 < ss
        case pos =>
          show Steps p.tables e below (T1259.setTop (mkF m 401 (own_L_417 q1 q2 p3 p4 p5 p6 kk lk m1 m2 m3 old ss b59 emR gaR gsR (.val (.int f3)) (.val (.int b0)) (.val (.int bR)) (.val (.int emR2)) (.val (.int las)) (.val (.int st1)) .unset .unset) [(.int (lcmpW m2 ss))])) _
          refine XS.ifNo X1259.here hx rfl (hb hby at_401) rfl ((if0 _ _).trans (tlt ((lw_lt _ _).mpr hc1295)).2.1) ?_
          refine XS.iload X1259.here hx rfl (hb hby at_404) rfl ?_
          refine XS.istore X1259.here hx rfl (hb hby at_406) rfl (l' := (own_L_417 q1 q2 p3 p4 p5 p6 kk lk m1 m2 m3 old ss b59 emR gaR gsR (.val (.int f3)) (.val (.int b0)) (.val (.int bR)) (.val (.int emR2)) (.val (.int las)) (.val (.int p4)) .unset .unset)) rfl ?_
          rw [show st2 = p4 from (((hst2.trans (if_pos hc1293)).trans (if_neg hc1294)).trans (if_pos hc1295))] at kt
          exact kt
        case neg =>
          show Steps p.tables e below (T1259.setTop (mkF m 401 (own_L_417 q1 q2 p3 p4 p5 p6 kk lk m1 m2 m3 old ss b59 emR gaR gsR (.val (.int f3)) (.val (.int b0)) (.val (.int bR)) (.val (.int emR2)) (.val (.int las)) (.val (.int st1)) .unset .unset) [(.int (lcmpW m2 ss))])) _
          refine XS.ifYes X1259.here hx rfl (pc0 := 401) (pc' := 408) rfl (hb hby at_401) rfl ((if0 _ _).trans (flt (fun q => hc1295 ((lw_lt _ _).mp q))).2.1) (by decide) (by decide) ?_
          rw [show st2 = st1 from (((hst2.trans (if_pos hc1293)).trans (if_neg hc1294)).trans (if_neg hc1295))] at kt
          exact kt
    case neg =>
      show Steps p.tables e below (T1259.setTop (mkF m 387 (own_L_417 q1 q2 p3 p4 p5 p6 kk lk m1 m2 m3 old ss b59 emR gaR gsR (.val (.int f3)) (.val (.int b0)) (.val (.int bR)) (.val (.int emR2)) (.val (.int las)) (.val (.int st1)) .unset .unset) [(.int (2 : Int32)), (.int f3)])) _
      refine XS.icmpYes X1259.here hx rfl (pc0 := 387) (pc' := 408) rfl (hb hby at_387) rfl (flt hc1293).2.1 (by decide) (by decide) ?_
      rw [show st2 = st1 from (hst2.trans (if_neg hc1293))] at kt
      exact kt)
  have pre1297 : ∀ t, Steps p.tables e below (T1259.setTop (mkF m 411 (own_L_417 q1 q2 p3 p4 p5 p6 kk lk m1 m2 m3 old ss b59 emR gaR gsR (.val (.int f3)) (.val (.int b0)) (.val (.int bR)) (.val (.int emR2)) (.val (.int las)) (.val (.int st2)) .unset .unset) [(.int (3 : Int32)), (.int f3)])) t → Steps p.tables e below (s₁.setTop (entryFrame m #[(.long q1), (.long q2), (.int p3), (.int p4), (.int p5), (.int p6)] maxLocals)) t := fun t kt => pre1296 t (by
    show Steps p.tables e below (T1259.setTop (mkF m 408 (own_L_417 q1 q2 p3 p4 p5 p6 kk lk m1 m2 m3 old ss b59 emR gaR gsR (.val (.int f3)) (.val (.int b0)) (.val (.int bR)) (.val (.int emR2)) (.val (.int las)) (.val (.int st2)) .unset .unset) [])) _
    refine XS.iload X1259.here hx rfl (hb hby at_408) rfl ?_
    refine XS.iconst X1259.here hx rfl (hb hby at_410) ?_
    exact kt)
  have pre1301 : ∀ t, Steps p.tables e below (T1259.setTop (mkF m 432 (own_L_417 q1 q2 p3 p4 p5 p6 kk lk m1 m2 m3 old ss b59 emR gaR gsR (.val (.int f3)) (.val (.int b0)) (.val (.int bR)) (.val (.int emR2)) (.val (.int las)) (.val (.int st3)) .unset .unset) [])) t → Steps p.tables e below (s₁.setTop (entryFrame m #[(.long q1), (.long q2), (.int p3), (.int p4), (.int p5), (.int p6)] maxLocals)) t := fun t kt => pre1297 t (by
    by_cases hc1298 : f3 < (3 : Int32)
    case pos =>
      show Steps p.tables e below (T1259.setTop (mkF m 411 (own_L_417 q1 q2 p3 p4 p5 p6 kk lk m1 m2 m3 old ss b59 emR gaR gsR (.val (.int f3)) (.val (.int b0)) (.val (.int bR)) (.val (.int emR2)) (.val (.int las)) (.val (.int st2)) .unset .unset) [(.int (3 : Int32)), (.int f3)])) _
      refine XS.icmpNo X1259.here hx rfl (hb hby at_411) rfl (tlt hc1298).2.1 ?_
      refine XS.iload X1259.here hx rfl (hb hby at_414) rfl ?_
      refine XS.iconst X1259.here hx rfl (hb hby at_416) ?_
      by_cases hc1299 : kk < (3 : Int32)
      case pos =>
        show Steps p.tables e below (T1259.setTop (mkF m 417 (own_L_417 q1 q2 p3 p4 p5 p6 kk lk m1 m2 m3 old ss b59 emR gaR gsR (.val (.int f3)) (.val (.int b0)) (.val (.int bR)) (.val (.int emR2)) (.val (.int las)) (.val (.int st2)) .unset .unset) [(.int (3 : Int32)), (.int kk)])) _
        refine XS.icmpYes X1259.here hx rfl (pc0 := 417) (pc' := 432) rfl (hb hby at_417) rfl (tlt hc1299).1 (by decide) (by decide) ?_
        rw [show st3 = st2 from ((hst3.trans (if_pos hc1298)).trans (if_pos hc1299))] at kt
        exact kt
      case neg =>
        show Steps p.tables e below (T1259.setTop (mkF m 417 (own_L_417 q1 q2 p3 p4 p5 p6 kk lk m1 m2 m3 old ss b59 emR gaR gsR (.val (.int f3)) (.val (.int b0)) (.val (.int bR)) (.val (.int emR2)) (.val (.int las)) (.val (.int st2)) .unset .unset) [(.int (3 : Int32)), (.int kk)])) _
        refine XS.icmpNo X1259.here hx rfl (hb hby at_417) rfl (flt hc1299).1 ?_
        refine XS.lload X1259.here hx rfl (hb hby at_420) rfl ?_
        refine XS.lload X1259.here hx rfl (hb hby at_422) rfl ?_
        refine XS.lcmp X1259.here hx rfl (hb hby at_424) rfl ?_
        by_cases hc1300 : m3 < ss
        case pos =>
          show Steps p.tables e below (T1259.setTop (mkF m 425 (own_L_417 q1 q2 p3 p4 p5 p6 kk lk m1 m2 m3 old ss b59 emR gaR gsR (.val (.int f3)) (.val (.int b0)) (.val (.int bR)) (.val (.int emR2)) (.val (.int las)) (.val (.int st2)) .unset .unset) [(.int (lcmpW m3 ss))])) _
          refine XS.ifNo X1259.here hx rfl (hb hby at_425) rfl ((if0 _ _).trans (tlt ((lw_lt _ _).mpr hc1300)).2.1) ?_
          refine XS.iload X1259.here hx rfl (hb hby at_428) rfl ?_
          refine XS.istore X1259.here hx rfl (hb hby at_430) rfl (l' := (own_L_417 q1 q2 p3 p4 p5 p6 kk lk m1 m2 m3 old ss b59 emR gaR gsR (.val (.int f3)) (.val (.int b0)) (.val (.int bR)) (.val (.int emR2)) (.val (.int las)) (.val (.int p5)) .unset .unset)) rfl ?_
          rw [show st3 = p5 from (((hst3.trans (if_pos hc1298)).trans (if_neg hc1299)).trans (if_pos hc1300))] at kt
          exact kt
        case neg =>
          show Steps p.tables e below (T1259.setTop (mkF m 425 (own_L_417 q1 q2 p3 p4 p5 p6 kk lk m1 m2 m3 old ss b59 emR gaR gsR (.val (.int f3)) (.val (.int b0)) (.val (.int bR)) (.val (.int emR2)) (.val (.int las)) (.val (.int st2)) .unset .unset) [(.int (lcmpW m3 ss))])) _
          refine XS.ifYes X1259.here hx rfl (pc0 := 425) (pc' := 432) rfl (hb hby at_425) rfl ((if0 _ _).trans (flt (fun q => hc1300 ((lw_lt _ _).mp q))).2.1) (by decide) (by decide) ?_
          rw [show st3 = st2 from (((hst3.trans (if_pos hc1298)).trans (if_neg hc1299)).trans (if_neg hc1300))] at kt
          exact kt
    case neg =>
      show Steps p.tables e below (T1259.setTop (mkF m 411 (own_L_417 q1 q2 p3 p4 p5 p6 kk lk m1 m2 m3 old ss b59 emR gaR gsR (.val (.int f3)) (.val (.int b0)) (.val (.int bR)) (.val (.int emR2)) (.val (.int las)) (.val (.int st2)) .unset .unset) [(.int (3 : Int32)), (.int f3)])) _
      refine XS.icmpYes X1259.here hx rfl (pc0 := 411) (pc' := 432) rfl (hb hby at_411) rfl (flt hc1298).2.1 (by decide) (by decide) ?_
      rw [show st3 = st2 from (hst3.trans (if_neg hc1298))] at kt
      exact kt)
  have pre1302 : ∀ t, Steps p.tables e below (T1259.setTop (mkF m 434 (own_L_417 q1 q2 p3 p4 p5 p6 kk lk m1 m2 m3 old ss b59 emR gaR gsR (.val (.int f3)) (.val (.int b0)) (.val (.int bR)) (.val (.int emR2)) (.val (.int las)) (.val (.int st3)) .unset .unset) [(.int emR2)])) t → Steps p.tables e below (s₁.setTop (entryFrame m #[(.long q1), (.long q2), (.int p3), (.int p4), (.int p5), (.int p6)] maxLocals)) t := fun t kt => pre1301 t (by
    show Steps p.tables e below (T1259.setTop (mkF m 432 (own_L_417 q1 q2 p3 p4 p5 p6 kk lk m1 m2 m3 old ss b59 emR gaR gsR (.val (.int f3)) (.val (.int b0)) (.val (.int bR)) (.val (.int emR2)) (.val (.int las)) (.val (.int st3)) .unset .unset) [])) _
    refine XS.iload X1259.here hx rfl (hb hby at_432) rfl ?_
    exact kt)
  obtain ⟨gaR2, hgaR2⟩ : ∃ z : Int32, z = (if emR2 = (0 : Int32) then (las - bR) else (0 : Int32)) := ⟨_, rfl⟩
  have pre1304 : ∀ t, Steps p.tables e below (T1259.setTop (mkF m 446 (own_L_417 q1 q2 p3 p4 p5 p6 kk lk m1 m2 m3 old ss b59 emR gaR gsR (.val (.int f3)) (.val (.int b0)) (.val (.int bR)) (.val (.int emR2)) (.val (.int las)) (.val (.int st3)) .unset .unset) [(.int gaR2)])) t → Steps p.tables e below (s₁.setTop (entryFrame m #[(.long q1), (.long q2), (.int p3), (.int p4), (.int p5), (.int p6)] maxLocals)) t := fun t kt => pre1302 t (by
    by_cases hc1303 : emR2 = (0 : Int32)
    case pos =>
      show Steps p.tables e below (T1259.setTop (mkF m 434 (own_L_417 q1 q2 p3 p4 p5 p6 kk lk m1 m2 m3 old ss b59 emR gaR gsR (.val (.int f3)) (.val (.int b0)) (.val (.int bR)) (.val (.int emR2)) (.val (.int las)) (.val (.int st3)) .unset .unset) [(.int emR2)])) _
      refine XS.ifYes X1259.here hx rfl (pc0 := 434) (pc' := 441) rfl (hb hby at_434) rfl ((if0 _ _).trans (teq hc1303).1) (by decide) (by decide) ?_
      refine XS.iload X1259.here hx rfl (hb hby at_441) rfl ?_
      refine XS.iload X1259.here hx rfl (hb hby at_443) rfl ?_
      refine XS.isub X1259.here hx rfl (hb hby at_445) rfl ?_
      rw [show gaR2 = (las - bR) from (hgaR2.trans (if_pos hc1303))] at kt
      exact kt
    case neg =>
      show Steps p.tables e below (T1259.setTop (mkF m 434 (own_L_417 q1 q2 p3 p4 p5 p6 kk lk m1 m2 m3 old ss b59 emR gaR gsR (.val (.int f3)) (.val (.int b0)) (.val (.int bR)) (.val (.int emR2)) (.val (.int las)) (.val (.int st3)) .unset .unset) [(.int emR2)])) _
      refine XS.ifNo X1259.here hx rfl (hb hby at_434) rfl ((if0 _ _).trans (feq hc1303).1) ?_
      refine XS.iconst X1259.here hx rfl (hb hby at_437) ?_
      refine XS.goto X1259.here hx rfl (pc0 := 438) (pc' := 446) rfl (hb hby at_438) (by decide) (by decide) ?_
      rw [show gaR2 = (0 : Int32) from (hgaR2.trans (if_neg hc1303))] at kt
      exact kt)
  have pre1305 : ∀ t, Steps p.tables e below (T1259.setTop (mkF m 450 (own_L_417 q1 q2 p3 p4 p5 p6 kk lk m1 m2 m3 old ss b59 emR gaR gsR (.val (.int f3)) (.val (.int b0)) (.val (.int bR)) (.val (.int emR2)) (.val (.int las)) (.val (.int st3)) (.val (.int gaR2)) .unset) [(.int emR2)])) t → Steps p.tables e below (s₁.setTop (entryFrame m #[(.long q1), (.long q2), (.int p3), (.int p4), (.int p5), (.int p6)] maxLocals)) t := fun t kt => pre1304 t (by
    show Steps p.tables e below (T1259.setTop (mkF m 446 (own_L_417 q1 q2 p3 p4 p5 p6 kk lk m1 m2 m3 old ss b59 emR gaR gsR (.val (.int f3)) (.val (.int b0)) (.val (.int bR)) (.val (.int emR2)) (.val (.int las)) (.val (.int st3)) .unset .unset) [(.int gaR2)])) _
    refine XS.istore X1259.here hx rfl (hb hby at_446) rfl (l' := (own_L_417 q1 q2 p3 p4 p5 p6 kk lk m1 m2 m3 old ss b59 emR gaR gsR (.val (.int f3)) (.val (.int b0)) (.val (.int bR)) (.val (.int emR2)) (.val (.int las)) (.val (.int st3)) (.val (.int gaR2)) .unset)) rfl ?_
    refine XS.iload X1259.here hx rfl (hb hby at_448) rfl ?_
    exact kt)
  obtain ⟨gsR2, hgsR2⟩ : ∃ z : Int32, z = (if emR2 = (0 : Int32) then (las - st3) else (0 : Int32)) := ⟨_, rfl⟩
  have pre1307 : ∀ t, Steps p.tables e below (T1259.setTop (mkF m 462 (own_L_417 q1 q2 p3 p4 p5 p6 kk lk m1 m2 m3 old ss b59 emR gaR gsR (.val (.int f3)) (.val (.int b0)) (.val (.int bR)) (.val (.int emR2)) (.val (.int las)) (.val (.int st3)) (.val (.int gaR2)) .unset) [(.int gsR2)])) t → Steps p.tables e below (s₁.setTop (entryFrame m #[(.long q1), (.long q2), (.int p3), (.int p4), (.int p5), (.int p6)] maxLocals)) t := fun t kt => pre1305 t (by
    by_cases hc1306 : emR2 = (0 : Int32)
    case pos =>
      show Steps p.tables e below (T1259.setTop (mkF m 450 (own_L_417 q1 q2 p3 p4 p5 p6 kk lk m1 m2 m3 old ss b59 emR gaR gsR (.val (.int f3)) (.val (.int b0)) (.val (.int bR)) (.val (.int emR2)) (.val (.int las)) (.val (.int st3)) (.val (.int gaR2)) .unset) [(.int emR2)])) _
      refine XS.ifYes X1259.here hx rfl (pc0 := 450) (pc' := 457) rfl (hb hby at_450) rfl ((if0 _ _).trans (teq hc1306).1) (by decide) (by decide) ?_
      refine XS.iload X1259.here hx rfl (hb hby at_457) rfl ?_
      refine XS.iload X1259.here hx rfl (hb hby at_459) rfl ?_
      refine XS.isub X1259.here hx rfl (hb hby at_461) rfl ?_
      rw [show gsR2 = (las - st3) from (hgsR2.trans (if_pos hc1306))] at kt
      exact kt
    case neg =>
      show Steps p.tables e below (T1259.setTop (mkF m 450 (own_L_417 q1 q2 p3 p4 p5 p6 kk lk m1 m2 m3 old ss b59 emR gaR gsR (.val (.int f3)) (.val (.int b0)) (.val (.int bR)) (.val (.int emR2)) (.val (.int las)) (.val (.int st3)) (.val (.int gaR2)) .unset) [(.int emR2)])) _
      refine XS.ifNo X1259.here hx rfl (hb hby at_450) rfl ((if0 _ _).trans (feq hc1306).1) ?_
      refine XS.iconst X1259.here hx rfl (hb hby at_453) ?_
      refine XS.goto X1259.here hx rfl (pc0 := 454) (pc' := 462) rfl (hb hby at_454) (by decide) (by decide) ?_
      rw [show gsR2 = (0 : Int32) from (hgsR2.trans (if_neg hc1306))] at kt
      exact kt)
  have k1 : emR = emR2 := hemR.trans hemR2.symm
  have k2 : gaR = gaR2 := by rw [hgaR, hgaR2, k1]
  have k3 : gsR = gsR2 := by rw [hgsR, hgsR2, k1]
  have pre1308 : ∀ t, Steps p.tables e below (T1259.setTop (mkF m 490 (own_L_417 q1 q2 p3 p4 p5 p6 kk lk m1 m2 m3 old ss b59 emR gaR gsR (.val (.int f3)) (.val (.int b0)) (.val (.int bR)) (.val (.int emR2)) (.val (.int las)) (.val (.int st3)) (.val (.int gaR2)) (.val (.int gsR2))) [(.int (1 : Int32))])) t → Steps p.tables e below (s₁.setTop (entryFrame m #[(.long q1), (.long q2), (.int p3), (.int p4), (.int p5), (.int p6)] maxLocals)) t := fun t kt => pre1307 t (by
    show Steps p.tables e below (T1259.setTop (mkF m 462 (own_L_417 q1 q2 p3 p4 p5 p6 kk lk m1 m2 m3 old ss b59 emR gaR gsR (.val (.int f3)) (.val (.int b0)) (.val (.int bR)) (.val (.int emR2)) (.val (.int las)) (.val (.int st3)) (.val (.int gaR2)) .unset) [(.int gsR2)])) _
    refine XS.istore X1259.here hx rfl (hb hby at_462) rfl (l' := (own_L_417 q1 q2 p3 p4 p5 p6 kk lk m1 m2 m3 old ss b59 emR gaR gsR (.val (.int f3)) (.val (.int b0)) (.val (.int bR)) (.val (.int emR2)) (.val (.int las)) (.val (.int st3)) (.val (.int gaR2)) (.val (.int gsR2)))) rfl ?_
    refine XS.iload X1259.here hx rfl (hb hby at_464) rfl ?_
    refine XS.iload X1259.here hx rfl (hb hby at_466) rfl ?_
    refine XS.icmpNo X1259.here hx rfl (hb hby at_468) rfl (teq k1).2 ?_
    refine XS.iload X1259.here hx rfl (hb hby at_471) rfl ?_
    refine XS.iload X1259.here hx rfl (hb hby at_473) rfl ?_
    refine XS.icmpNo X1259.here hx rfl (hb hby at_475) rfl (teq k2).2 ?_
    refine XS.iload X1259.here hx rfl (hb hby at_478) rfl ?_
    refine XS.iload X1259.here hx rfl (hb hby at_480) rfl ?_
    refine XS.icmpNo X1259.here hx rfl (hb hby at_482) rfl (teq k3).2 ?_
    refine XS.iconst X1259.here hx rfl (hb hby at_485) ?_
    refine XS.goto X1259.here hx rfl (pc0 := 486) (pc' := 490) rfl (hb hby at_486) (by decide) (by decide) ?_
    exact kt)
  exact own_retN X1259 hx Bd.notSynchronized (t := .boolean) Bd.returns (by simp) (hb hby at_490) pre1308 (show Q0 h0 n0 _ _ _ from ⟨rfl, N1259⟩) (by decide) (by decide)
set_option maxRecDepth 65536 in
set_option maxHeartbeats 40000000 in
theorem comes_1 {Post : Tables → Env → Array Value → State → Outcome → State → Prop} (hpost : ∀ tb e args s v u, (limb_1_1.after args s (.returned v) u = true ∧ limb_1_2.after args s (.returned v) u = true ∧ True) → FrameEnd s (.returned v) u (Jvm.fieldLocs frame_1_writes args s ++ Jvm.arrayLocs frame_1_arrays args s ++ Jvm.staticLocs frame_1_statics s) 24 128 → Post tb e args s (.returned v) u) :
    ArmFor flags0 classFile x code maxLocals ret World_1 tables_1 room_1 Calls_1 rest_1 Pre_1 Post := by
  intro l hfl _ _ p e ha hc hk s m args below hf hA hF happ hP
  obtain ⟨hcalls, hrest, hpre⟩ := hP
  obtain ⟨-, -, -, hnamed, -, -, -, hat⟩ := (Spec.applies_iff hf).mp happ
  obtain ⟨hg, hn⟩ := and_e (Cond.before_iff.mp (show (Jvm.Cond.and given_1 narrow_1).before args s = true from hpre))
  obtain ⟨g1a, g1b⟩ := and_e hg
  obtain ⟨g2a, g2b⟩ := and_e g1b
  obtain ⟨g3a, g3b⟩ := and_e g2b
  obtain ⟨g4a, g4b⟩ := and_e g3b
  obtain ⟨g5a, g5b⟩ := and_e g4b
  obtain ⟨g6a, g6b⟩ := and_e g5b
  obtain ⟨w0, w1, w2, w3, w4, w5, rfl⟩ : ∃ w0 w1 w2 w3 w4 w5 : Value, args = #[w0, w1, w2, w3, w4, w5] := by
    have hs : args.size = 6 := by simpa [Cond.value, given_1] using g1a
    obtain ⟨L⟩ := args
    match L, hs with
    | [w0, w1, w2, w3, w4, w5], _ => exact ⟨w0, w1, w2, w3, w4, w5, rfl⟩
  have hw := fun d (hd : d ∈ tables_1) => atoms_spec (ws := Jvm.Cond.code x code maxLocals ret :: tables_1) hat d (List.mem_cons_of_mem _ hd)
  have hfit : Fit s := fun {y c} hc i hi => by
    obtain ⟨ha, rfl⟩ := Array.getElem?_eq_some_iff.mp hc
    have q := List.all_eq_true.mp ((Array.all_eq_true_iff_forall_mem.mp hF) _ (Array.getElem_mem ha)) i (List.mem_range.mpr hi)
    simpa [Array.getElem?_eq_getElem hi] using q
  obtain ⟨i0, ei0⟩ := isL_v g2a
  obtain rfl : w0 = (.long i0) := Option.some.inj ei0
  obtain ⟨i1, ei1⟩ := isL_v g3a
  obtain rfl : w1 = (.long i1) := Option.some.inj ei1
  obtain ⟨i2, ei2⟩ := is_v g4a
  obtain rfl : w2 = (.int i2) := Option.some.inj ei2
  obtain ⟨i3, ei3⟩ := is_v g5a
  obtain rfl : w3 = (.int i3) := Option.some.inj ei3
  obtain ⟨i4, ei4⟩ := is_v g6a
  obtain rfl : w4 = (.int i4) := Option.some.inj ei4
  obtain ⟨i5, ei5⟩ := is_v g6b
  obtain rfl : w5 = (.int i5) := Option.some.inj ei5
  obtain ⟨n, o, h1, h2, h3, _, L, rfl, ⟨rfl, N⟩, hq⟩ := rm0 l s _ hw tables_1 i0 i1 i2 i3 i4 i5 s.heap s.heap.size (Nat.le_refl _) p e ha hc hk s m _ below hf ((Spec.applies_iff_loose hf).mp happ).1 ⟨rfl, State.Warmed39.refl s, rfl⟩ trivial
  refine ⟨n, _, h1, h2, h3, hpost _ _ _ _ _ _ ⟨Cond.after_iff.mpr rfl, Cond.after_iff.mpr (eq_i res_at (Term.int_eval (1)) rfl), trivial⟩ ⟨hq.1, hq.2.1, (hq.2.2.sift fun y hy => Or.inr (N y hy)).mono (by decide) (by decide)⟩⟩
theorem main_1_1 : Claimed_1_1 := comes_1 fun _ _ _ _ _ _ h hF => ⟨h.1, hF⟩
theorem main_1_2 : Claimed_1_2 := comes_1 fun _ _ _ _ _ _ h hF => ⟨h.2.1, hF⟩
end Jvm.Pilot.@@N@@
namespace Jvm.Pilot.@@N@@
open Jvm Jvm.ClassFile Sem Op Lib Jvm.Free Jvm.Stand Jvm.Pilot.@@N@@.Jvm.D
/-! MADE BY PROGRAM (witnessworld.py) out of the Statement's table words and the real class files: 14 classes; the members and pool entries that the words name. The judged class is class 1, her method 1. -/
namespace start1
open Jvm.ClassFile
def u (s : String) : CpInfo := .utf8 (stringToUtf16 s)
/-- a pool by its gaps: so many unusable entries, then the entry; so many at the end -/
def gap : Nat → List CpInfo → List CpInfo
  | 0, r => r
  | n + 1, r => .unusable :: gap n r
def poolList (es : List (Nat × CpInfo)) (last : Nat) : List CpInfo := es.foldr (fun e r => gap e.1 (e.2 :: r)) (gap last [])
def pool (es : List (Nat × CpInfo)) (last : Nat) : Array CpInfo := ⟨poolList es last⟩
def fileOf (pool : Array CpInfo) (this : Nat) (attrs : Array Attribute := #[]) (ms : Array MethodInfo := #[]) (fl : Nat := 33) (sup : Nat := 0) (ifs : Array Nat := #[]) (fds : Array FieldInfo := #[]) : ClassFile where
  minorVersion := 0
  majorVersion := 65
  constantPool := pool
  accessFlags := fl
  thisClass := this
  superClass := sup
  interfaces := ifs
  fields := fds
  methods := ms
  attributes := attrs
def plain (name : String) (sup : Option ClassId) : Class where
  name := name
  kind := .ordinary
  loader := none
  accessFlags := 33
  super := sup
  interfaces := #[]
  cf := none
  fields := #[]
  methods := #[]
  instanceTypes := #[]
  staticTypes := #[]
  resolved := #[]
  callSites := []
  init := .initialized
  statics := none
  mirror := none

def pool0 : Array CpInfo := pool [(5, u "<init>"), (0, u "()V"), (1, .class_ 10), (1, u "java/lang/Object")] 113

def k0c0 : Code := { maxStack := 0, maxLocals := 1, code := object_method_1_code, exceptionTable := #[], attributes := #[] }
def k0m0 : Method := { name := "<init>", desc := "()V", sig := { parameters := [], returnType := none }, accessFlags := 1, code := some k0c0 }
/-- java/lang/Object -/
def k0 : Class := { plain "java/lang/Object" none with
  accessFlags := 33
  interfaces := #[]
  cf := some (fileOf pool0 8 #[] #[{ accessFlags := 1, nameIndex := 5, descriptorIndex := 6, attributes := #[] }] 33 0 #[] #[])
  fields := #[]
  methods := #[k0m0]
  instanceTypes := #[]
  staticTypes := #[]
  resolved := Array.replicate 124 none
  statics := none }

def pool1 : Array CpInfo := pool [(2, .class_ 4), (0, .nameAndType 5 6), (0, u "java/lang/Object"), (0, u "<init>"), (0, u "()V"), (2, .long 9223372036854775787), (1, .long 20), (1, .long 15), (1, .long 3), (1, .class_ 18), (0, u "com/example/viral_counter/viralcounter/PostTrend"), (0, .methodref 17 3), (0, .methodref 17 21), (0, .nameAndType 22 23), (0, u "counted"), (0, u "(JIZ)V"), (0, .methodref 17 25), (0, .nameAndType 26 27), (0, u "forgetBefore"), (0, u "(J)V"), (0, .methodref 17 29), (0, .nameAndType 30 31), (0, u "isEmpty"), (0, u "()Z"), (0, .long 9223372036854775808), (1, .methodref 17 35), (0, .nameAndType 36 37), (0, u "gainedSince"), (0, u "(J)I"), (0, .class_ 39), (0, u "com/example/viral_counter/viralcounter/PostTrendForgetBeforePinLaw"), (2, u "law"), (0, u "(JJIIII)Z")] 3

def k1m0 : Method := { name := "<init>", desc := "()V", sig := { parameters := [], returnType := none }, accessFlags := 1, code := none }
def k1c1 : Code := { maxStack := 6, maxLocals := 32, code := code, exceptionTable := #[], attributes := #[] }
def k1m1 : Method := { name := "law", desc := "(JJIIII)Z", sig := { parameters := [.long, .long, .int, .int, .int, .int], returnType := some .boolean }, accessFlags := 9, code := some k1c1 }
/-- com/example/viral_counter/viralcounter/PostTrendForgetBeforePinLaw -/
def k1 : Class := { plain "com/example/viral_counter/viralcounter/PostTrendForgetBeforePinLaw" (some 0) with
  accessFlags := 49
  interfaces := #[]
  cf := some (fileOf pool1 38 #[] #[{ accessFlags := 1, nameIndex := 5, descriptorIndex := 6, attributes := #[] }, { accessFlags := 9, nameIndex := 42, descriptorIndex := 43, attributes := #[] }] 49 2 #[] #[])
  fields := #[]
  methods := #[k1m0, k1m1]
  instanceTypes := #[]
  staticTypes := #[]
  resolved := Array.replicate 47 none
  statics := none }

def pool2 : Array CpInfo := pool [(1, .methodref 2 3), (0, .class_ 4), (0, .nameAndType 5 6), (0, u "java/lang/Object"), (0, u "<init>"), (0, u "()V"), (0, .class_ 8), (0, u "com/example/viral_counter/viralcounter/PostTrend"), (0, .fieldref 7 10), (0, .nameAndType 11 12), (0, u "minutes"), (0, u "[J"), (0, .fieldref 7 14), (0, .nameAndType 15 16), (0, u "counts"), (0, u "[I"), (0, .fieldref 7 18), (0, .nameAndType 19 20), (0, u "first"), (0, u "I"), (0, .fieldref 7 22), (0, .nameAndType 23 20), (0, u "end"), (0, .fieldref 7 25), (0, .nameAndType 26 20), (0, u "before"), (0, .methodref 7 28), (0, .nameAndType 29 6), (0, u "makeRoom"), (0, .methodref 31 32), (0, .class_ 33), (0, .nameAndType 34 35), (0, u "java/util/Arrays"), (0, u "binarySearch"), (0, u "([JIIJ)I"), (2, u "retired"), (0, u "Z"), (0, .methodref 31 41), (0, .nameAndType 42 43), (0, u "copyOfRange"), (0, u "([JII)[J"), (0, .methodref 31 45), (0, .nameAndType 42 46), (0, u "([III)[I"), (6, u "FIRST_ROOM"), (4, u "counted"), (0, u "(JIZ)V"), (1, u "gainedSince"), (0, u "(J)I"), (0, u "forgetBefore"), (0, u "(J)V"), (0, u "isEmpty"), (0, u "()Z")] 4

def k2c0 : Code := { maxStack := 2, maxLocals := 1, code := prog_25_method_1_code, exceptionTable := #[], attributes := #[] }
def k2m0 : Method := { name := "<init>", desc := "()V", sig := { parameters := [], returnType := none }, accessFlags := 0, code := some k2c0 }
def k2c1 : Code := { maxStack := 5, maxLocals := 5, code := prog_25_method_2_code, exceptionTable := #[], attributes := #[] }
def k2m1 : Method := { name := "counted", desc := "(JIZ)V", sig := { parameters := [.long, .int, .boolean], returnType := none }, accessFlags := 0, code := some k2c1 }
def k2c2 : Code := { maxStack := 5, maxLocals := 6, code := prog_25_method_3_code, exceptionTable := #[], attributes := #[] }
def k2m2 : Method := { name := "gainedSince", desc := "(J)I", sig := { parameters := [.long], returnType := some .int }, accessFlags := 0, code := some k2c2 }
def k2c3 : Code := { maxStack := 4, maxLocals := 3, code := prog_25_method_4_code, exceptionTable := #[], attributes := #[] }
def k2m3 : Method := { name := "forgetBefore", desc := "(J)V", sig := { parameters := [.long], returnType := none }, accessFlags := 0, code := some k2c3 }
def k2c4 : Code := { maxStack := 2, maxLocals := 1, code := prog_25_method_5_code, exceptionTable := #[], attributes := #[] }
def k2m4 : Method := { name := "isEmpty", desc := "()Z", sig := { parameters := [], returnType := some .boolean }, accessFlags := 0, code := some k2c4 }
def k2c5 : Code := { maxStack := 6, maxLocals := 2, code := prog_25_method_8_code, exceptionTable := #[], attributes := #[] }
def k2m5 : Method := { name := "makeRoom", desc := "()V", sig := { parameters := [], returnType := none }, accessFlags := 2, code := some k2c5 }
/-- com/example/viral_counter/viralcounter/PostTrend -/
def k2 : Class := { plain "com/example/viral_counter/viralcounter/PostTrend" (some 0) with
  accessFlags := 48
  interfaces := #[]
  cf := some (fileOf pool2 7 #[] #[{ accessFlags := 0, nameIndex := 5, descriptorIndex := 6, attributes := #[] }, { accessFlags := 0, nameIndex := 58, descriptorIndex := 59, attributes := #[] }, { accessFlags := 0, nameIndex := 61, descriptorIndex := 62, attributes := #[] }, { accessFlags := 0, nameIndex := 63, descriptorIndex := 64, attributes := #[] }, { accessFlags := 0, nameIndex := 65, descriptorIndex := 66, attributes := #[] }, { accessFlags := 2, nameIndex := 29, descriptorIndex := 6, attributes := #[] }] 48 2 #[] #[{ accessFlags := 26, nameIndex := 53, descriptorIndex := 20, attributes := #[] }, { accessFlags := 2, nameIndex := 11, descriptorIndex := 12, attributes := #[] }, { accessFlags := 2, nameIndex := 15, descriptorIndex := 16, attributes := #[] }, { accessFlags := 2, nameIndex := 19, descriptorIndex := 20, attributes := #[] }, { accessFlags := 2, nameIndex := 23, descriptorIndex := 20, attributes := #[] }, { accessFlags := 2, nameIndex := 26, descriptorIndex := 20, attributes := #[] }, { accessFlags := 2, nameIndex := 38, descriptorIndex := 39, attributes := #[] }])
  fields := #[{ name := "FIRST_ROOM", type := .int, accessFlags := 26, slot := 0, constantValue := 0 }, { name := "minutes", type := (.array .long), accessFlags := 2, slot := 0, constantValue := 0 }, { name := "counts", type := (.array .int), accessFlags := 2, slot := 1, constantValue := 0 }, { name := "first", type := .int, accessFlags := 2, slot := 2, constantValue := 0 }, { name := "end", type := .int, accessFlags := 2, slot := 3, constantValue := 0 }, { name := "before", type := .int, accessFlags := 2, slot := 4, constantValue := 0 }, { name := "retired", type := .boolean, accessFlags := 2, slot := 5, constantValue := 0 }]
  methods := #[k2m0, k2m1, k2m2, k2m3, k2m4, k2m5]
  instanceTypes := #[(.array .long), (.array .int), .int, .int, .int, .boolean]
  staticTypes := #[.int]
  resolved := Array.replicate 71 none
  statics := none }

def pool3 : Array CpInfo := pool [(2, .class_ 4), (1, u "java/lang/Object"), (0, u "<init>"), (0, u "()V"), (6, .methodref 14 15), (0, .class_ 16), (0, .nameAndType 17 18), (0, u "java/util/Arrays"), (0, u "rangeCheck"), (0, u "(III)V"), (55, .class_ 76), (1, u "java/util/Arrays$NaturalOrder"), (36, .class_ 115), (1, u "java/util/Arrays$LegacyMergeSort"), (1, u "Z"), (21, u "copyOfRange"), (10, .methodref 151 152), (0, .class_ 153), (0, .nameAndType 154 155), (0, u "java/lang/System"), (0, u "arraycopy"), (0, u "(Ljava/lang/Object;ILjava/lang/Object;II)V"), (49, .methodref 14 206), (0, .nameAndType 207 208), (0, u "binarySearch0"), (0, u "([JIIJ)I"), (95, .methodref 305 306), (0, .class_ 307), (0, .nameAndType 308 309), (0, u "java/lang/Math"), (0, u "min"), (0, u "(II)I"), (33, .methodref 14 344), (0, .nameAndType 345 346), (0, u "checkLength"), (0, u "(II)V"), (4, .methodref 14 352), (0, .nameAndType 353 354), (0, u "copyOfRangeInt"), (0, u "([III)[I"), (0, .methodref 14 356), (0, .nameAndType 357 358), (0, u "copyOfRangeLong"), (0, u "([JII)[J"), (16, .class_ 376), (0, u "java/util/Arrays$ArrayList"), (68, u "$assertionsDisabled"), (269, u "MIN_ARRAY_SORT_GRAN"), (0, u "I"), (2, u "INSERTIONSORT_THRESHOLD"), (74, u "binarySearch"), (180, .class_ 976), (0, u "java/util/Arrays$ArrayItr")] 52

def k3m0 : Method := { name := "<init>", desc := "()V", sig := { parameters := [], returnType := none }, accessFlags := 2, code := none }
def k3c1 : Code := { maxStack := 4, maxLocals := 3, code := jdk_65_method_30_code, exceptionTable := #[], attributes := #[] }
def k3m1 : Method := { name := "rangeCheck", desc := "(III)V", sig := { parameters := [.int, .int, .int], returnType := none }, accessFlags := 8, code := some k3c1 }
def k3c2 : Code := { maxStack := 5, maxLocals := 5, code := jdk_65_method_55_code, exceptionTable := #[], attributes := #[] }
def k3m2 : Method := { name := "binarySearch", desc := "([JIIJ)I", sig := { parameters := [(.array .long), .int, .int, .long], returnType := some .int }, accessFlags := 9, code := some k3c2 }
def k3c3 : Code := { maxStack := 4, maxLocals := 10, code := jdk_65_method_56_code, exceptionTable := #[], attributes := #[] }
def k3m3 : Method := { name := "binarySearch0", desc := "([JIIJ)I", sig := { parameters := [(.array .long), .int, .int, .long], returnType := some .int }, accessFlags := 10, code := some k3c3 }
def k3c4 : Code := { maxStack := 4, maxLocals := 2, code := jdk_65_method_131_code, exceptionTable := #[], attributes := #[] }
def k3m4 : Method := { name := "checkLength", desc := "(II)V", sig := { parameters := [.int, .int], returnType := none }, accessFlags := 10, code := some k3c4 }
def k3c5 : Code := { maxStack := 3, maxLocals := 3, code := jdk_65_method_136_code, exceptionTable := #[], attributes := #[] }
def k3m5 : Method := { name := "copyOfRange", desc := "([III)[I", sig := { parameters := [(.array .int), .int, .int], returnType := some (.array .int) }, accessFlags := 9, code := some k3c5 }
def k3c6 : Code := { maxStack := 6, maxLocals := 5, code := jdk_65_method_137_code, exceptionTable := #[], attributes := #[] }
def k3m6 : Method := { name := "copyOfRangeInt", desc := "([III)[I", sig := { parameters := [(.array .int), .int, .int], returnType := some (.array .int) }, accessFlags := 10, code := some k3c6 }
def k3c7 : Code := { maxStack := 3, maxLocals := 3, code := jdk_65_method_138_code, exceptionTable := #[], attributes := #[] }
def k3m7 : Method := { name := "copyOfRange", desc := "([JII)[J", sig := { parameters := [(.array .long), .int, .int], returnType := some (.array .long) }, accessFlags := 9, code := some k3c7 }
def k3c8 : Code := { maxStack := 6, maxLocals := 5, code := jdk_65_method_139_code, exceptionTable := #[], attributes := #[] }
def k3m8 : Method := { name := "copyOfRangeLong", desc := "([JII)[J", sig := { parameters := [(.array .long), .int, .int], returnType := some (.array .long) }, accessFlags := 10, code := some k3c8 }
/-- java/util/Arrays -/
def k3 : Class := { plain "java/util/Arrays" (some 0) with
  accessFlags := 49
  interfaces := #[]
  cf := some (fileOf pool3 14 #[.nestMembers #[975, 375, 113, 74]] #[{ accessFlags := 2, nameIndex := 5, descriptorIndex := 6, attributes := #[] }, { accessFlags := 8, nameIndex := 17, descriptorIndex := 18, attributes := #[] }, { accessFlags := 9, nameIndex := 794, descriptorIndex := 208, attributes := #[] }, { accessFlags := 10, nameIndex := 207, descriptorIndex := 208, attributes := #[] }, { accessFlags := 10, nameIndex := 345, descriptorIndex := 346, attributes := #[] }, { accessFlags := 9, nameIndex := 139, descriptorIndex := 354, attributes := #[] }, { accessFlags := 10, nameIndex := 353, descriptorIndex := 354, attributes := #[] }, { accessFlags := 9, nameIndex := 139, descriptorIndex := 358, attributes := #[] }, { accessFlags := 10, nameIndex := 357, descriptorIndex := 358, attributes := #[] }] 49 2 #[] #[{ accessFlags := 26, nameIndex := 715, descriptorIndex := 716, attributes := #[] }, { accessFlags := 26, nameIndex := 719, descriptorIndex := 716, attributes := #[] }, { accessFlags := 4120, nameIndex := 445, descriptorIndex := 117, attributes := #[] }])
  fields := #[{ name := "MIN_ARRAY_SORT_GRAN", type := .int, accessFlags := 26, slot := 0, constantValue := 0 }, { name := "INSERTIONSORT_THRESHOLD", type := .int, accessFlags := 26, slot := 1, constantValue := 0 }, { name := "$assertionsDisabled", type := .boolean, accessFlags := 4120, slot := 2, constantValue := 0 }]
  methods := #[k3m0, k3m1, k3m2, k3m3, k3m4, k3m5, k3m6, k3m7, k3m8]
  instanceTypes := #[]
  staticTypes := #[.int, .int, .boolean]
  resolved := Array.replicate 1029 none
  statics := none }

def pool4 : Array CpInfo := pool [(1, .class_ 2), (0, u "java/lang/Math"), (1, .class_ 6), (1, u "java/lang/Object"), (0, u "<init>"), (0, u "()V"), (89, .class_ 100), (1, u "java/lang/Math$RandomNumberGeneratorHolder"), (71, u "negativeZeroFloatBits"), (0, u "J"), (2, u "negativeZeroDoubleBits"), (24, u "min"), (43, u "$assertionsDisabled"), (0, u "Z"), (88, u "(II)I"), (2, u "twoToTheDoubleScaleDown"), (0, u "D"), (4, u "twoToTheDoubleScaleUp"), (9, u "E"), (3, u "PI"), (2, u "TAU"), (2, u "DEGREES_TO_RADIANS"), (0, u "RADIANS_TO_DEGREES")] 94

def k4m0 : Method := { name := "<init>", desc := "()V", sig := { parameters := [], returnType := none }, accessFlags := 2, code := none }
def k4c1 : Code := { maxStack := 2, maxLocals := 2, code := jdk_29_method_69_code, exceptionTable := #[], attributes := #[] }
def k4m1 : Method := { name := "min", desc := "(II)I", sig := { parameters := [.int, .int], returnType := some .int }, accessFlags := 9, code := some k4c1 }
/-- java/lang/Math -/
def k4 : Class := { plain "java/lang/Math" (some 0) with
  accessFlags := 49
  interfaces := #[]
  cf := some (fileOf pool4 1 #[.nestMembers #[98]] #[{ accessFlags := 2, nameIndex := 7, descriptorIndex := 8, attributes := #[] }, { accessFlags := 9, nameIndex := 201, descriptorIndex := 335, attributes := #[] }] 49 4 #[] #[{ accessFlags := 25, nameIndex := 354, descriptorIndex := 339, attributes := #[] }, { accessFlags := 25, nameIndex := 358, descriptorIndex := 339, attributes := #[] }, { accessFlags := 25, nameIndex := 361, descriptorIndex := 339, attributes := #[] }, { accessFlags := 26, nameIndex := 364, descriptorIndex := 339, attributes := #[] }, { accessFlags := 26, nameIndex := 365, descriptorIndex := 339, attributes := #[] }, { accessFlags := 26, nameIndex := 172, descriptorIndex := 173, attributes := #[] }, { accessFlags := 26, nameIndex := 176, descriptorIndex := 173, attributes := #[] }, { accessFlags := 8, nameIndex := 344, descriptorIndex := 339, attributes := #[] }, { accessFlags := 8, nameIndex := 338, descriptorIndex := 339, attributes := #[] }, { accessFlags := 4120, nameIndex := 245, descriptorIndex := 246, attributes := #[] }])
  fields := #[{ name := "E", type := .double, accessFlags := 25, slot := 0, constantValue := 0 }, { name := "PI", type := .double, accessFlags := 25, slot := 1, constantValue := 0 }, { name := "TAU", type := .double, accessFlags := 25, slot := 2, constantValue := 0 }, { name := "DEGREES_TO_RADIANS", type := .double, accessFlags := 26, slot := 3, constantValue := 0 }, { name := "RADIANS_TO_DEGREES", type := .double, accessFlags := 26, slot := 4, constantValue := 0 }, { name := "negativeZeroFloatBits", type := .long, accessFlags := 26, slot := 5, constantValue := 0 }, { name := "negativeZeroDoubleBits", type := .long, accessFlags := 26, slot := 6, constantValue := 0 }, { name := "twoToTheDoubleScaleUp", type := .double, accessFlags := 8, slot := 7, constantValue := 0 }, { name := "twoToTheDoubleScaleDown", type := .double, accessFlags := 8, slot := 8, constantValue := 0 }, { name := "$assertionsDisabled", type := .boolean, accessFlags := 4120, slot := 9, constantValue := 0 }]
  methods := #[k4m0, k4m1]
  instanceTypes := #[]
  staticTypes := #[.double, .double, .double, .double, .double, .long, .long, .double, .double, .boolean]
  resolved := Array.replicate 460 none
  statics := none }

def pool5 : Array CpInfo := pool [(2, .class_ 4), (1, u "java/lang/Object"), (0, u "<init>"), (0, u "()V"), (1, .class_ 10), (1, u "java/lang/System"), (0, u "allowSecurityManager"), (0, u "I"), (16, u "cons"), (0, u "Ljava/io/Console;"), (77, .class_ 110), (1, u "java/lang/System$CallersHolder"), (43, u "initialErrStream"), (0, u "Ljava/io/PrintStream;"), (19, u "security"), (0, u "Ljava/lang/SecurityManager;"), (31, .class_ 209), (0, u "java/lang/System$1"), (7, u "props"), (0, u "Ljava/util/Properties;"), (2, u "lineSeparator"), (0, u "Ljava/lang/String;"), (96, .class_ 321), (1, u "java/lang/System$LoggerFinder"), (5, .class_ 328), (0, u "java/lang/System$Logger"), (67, u "err"), (2, u "out"), (91, u "notSupportedJnuEncoding"), (15, u "in"), (17, u "initialIn"), (0, u "Ljava/io/InputStream;"), (35, u "bootLayer"), (0, u "Ljava/lang/ModuleLayer;"), (99, .class_ 664), (0, u "java/lang/System$2"), (9, u "NEVER"), (2, u "MAYBE"), (49, u "arraycopy"), (0, u "(Ljava/lang/Object;ILjava/lang/Object;II)V"), (72, .class_ 802), (0, u "java/lang/System$Logger$Level")] 31

def k5m0 : Method := { name := "<init>", desc := "()V", sig := { parameters := [], returnType := none }, accessFlags := 2, code := none }
def k5m1 : Method := { name := "arraycopy", desc := "(Ljava/lang/Object;ILjava/lang/Object;II)V", sig := { parameters := [(.object "java/lang/Object"), .int, (.object "java/lang/Object"), .int, .int], returnType := none }, accessFlags := 265, code := none }
/-- java/lang/System -/
def k5 : Class := { plain "java/lang/System" (some 0) with
  accessFlags := 49
  interfaces := #[]
  cf := some (fileOf pool5 8 #[.nestMembers #[319, 327, 801, 108, 663, 208]] #[{ accessFlags := 2, nameIndex := 5, descriptorIndex := 6, attributes := #[] }, { accessFlags := 265, nameIndex := 727, descriptorIndex := 728, attributes := #[] }] 49 2 #[] #[{ accessFlags := 25, nameIndex := 507, descriptorIndex := 526, attributes := #[] }, { accessFlags := 25, nameIndex := 399, descriptorIndex := 155, attributes := #[] }, { accessFlags := 25, nameIndex := 396, descriptorIndex := 155, attributes := #[] }, { accessFlags := 10, nameIndex := 525, descriptorIndex := 526, attributes := #[] }, { accessFlags := 26, nameIndex := 674, descriptorIndex := 12, attributes := #[] }, { accessFlags := 26, nameIndex := 677, descriptorIndex := 12, attributes := #[] }, { accessFlags := 10, nameIndex := 11, descriptorIndex := 12, attributes := #[] }, { accessFlags := 74, nameIndex := 175, descriptorIndex := 176, attributes := #[] }, { accessFlags := 10, nameIndex := 491, descriptorIndex := 222, attributes := #[] }, { accessFlags := 74, nameIndex := 29, descriptorIndex := 30, attributes := #[] }, { accessFlags := 74, nameIndex := 154, descriptorIndex := 155, attributes := #[] }, { accessFlags := 10, nameIndex := 217, descriptorIndex := 218, attributes := #[] }, { accessFlags := 10, nameIndex := 221, descriptorIndex := 222, attributes := #[] }, { accessFlags := 8, nameIndex := 562, descriptorIndex := 563, attributes := #[] }])
  fields := #[{ name := "in", type := (.object "java/io/InputStream"), accessFlags := 25, slot := 0, constantValue := 0 }, { name := "out", type := (.object "java/io/PrintStream"), accessFlags := 25, slot := 1, constantValue := 0 }, { name := "err", type := (.object "java/io/PrintStream"), accessFlags := 25, slot := 2, constantValue := 0 }, { name := "initialIn", type := (.object "java/io/InputStream"), accessFlags := 10, slot := 3, constantValue := 0 }, { name := "NEVER", type := .int, accessFlags := 26, slot := 4, constantValue := 0 }, { name := "MAYBE", type := .int, accessFlags := 26, slot := 5, constantValue := 0 }, { name := "allowSecurityManager", type := .int, accessFlags := 10, slot := 6, constantValue := 0 }, { name := "security", type := (.object "java/lang/SecurityManager"), accessFlags := 74, slot := 7, constantValue := 0 }, { name := "notSupportedJnuEncoding", type := (.object "java/lang/String"), accessFlags := 10, slot := 8, constantValue := 0 }, { name := "cons", type := (.object "java/io/Console"), accessFlags := 74, slot := 9, constantValue := 0 }, { name := "initialErrStream", type := (.object "java/io/PrintStream"), accessFlags := 74, slot := 10, constantValue := 0 }, { name := "props", type := (.object "java/util/Properties"), accessFlags := 10, slot := 11, constantValue := 0 }, { name := "lineSeparator", type := (.object "java/lang/String"), accessFlags := 10, slot := 12, constantValue := 0 }, { name := "bootLayer", type := (.object "java/lang/ModuleLayer"), accessFlags := 8, slot := 13, constantValue := 0 }]
  methods := #[k5m0, k5m1]
  instanceTypes := #[]
  staticTypes := #[(.object "java/io/InputStream"), (.object "java/io/PrintStream"), (.object "java/io/PrintStream"), (.object "java/io/InputStream"), .int, .int, .int, (.object "java/lang/SecurityManager"), (.object "java/lang/String"), (.object "java/io/Console"), (.object "java/io/PrintStream"), (.object "java/util/Properties"), (.object "java/lang/String"), (.object "java/lang/ModuleLayer")]
  resolved := Array.replicate 834 none
  statics := none }

def pool6 : Array CpInfo := pool [(1, u "java/lang/Cloneable"), (0, .class_ 1), (0, u "java/lang/Object"), (0, .class_ 3)] 3

/-- java/lang/Cloneable -/
def k6 : Class := { plain "java/lang/Cloneable" (some 0) with
  accessFlags := 1537
  interfaces := #[]
  cf := some (fileOf pool6 2 #[] #[] 1537 4 #[] #[])
  fields := #[]
  methods := #[]
  instanceTypes := #[]
  staticTypes := #[]
  resolved := Array.replicate 8 none
  statics := none }

def pool7 : Array CpInfo := pool [(1, u "java/io/Serializable"), (0, .class_ 1), (0, u "java/lang/Object"), (0, .class_ 3)] 3

/-- java/io/Serializable -/
def k7 : Class := { plain "java/io/Serializable" (some 0) with
  accessFlags := 1537
  interfaces := #[]
  cf := some (fileOf pool7 2 #[] #[] 1537 4 #[] #[])
  fields := #[]
  methods := #[]
  instanceTypes := #[]
  staticTypes := #[]
  resolved := Array.replicate 8 none
  statics := none }

/-- the primitive byte -/
def k8 : Class := { plain "byte" none with kind := .primitive 'B', accessFlags := 0x411 }
/-- [B -/
def k9 : Class := { plain "[B" (some 0) with kind := .array 8 .byte, interfaces := #[6, 7], accessFlags := 1041 }

/-- the primitive int -/
def k10 : Class := { plain "int" none with kind := .primitive 'I', accessFlags := 0x411 }
/-- [I -/
def k11 : Class := { plain "[I" (some 0) with kind := .array 10 .int, interfaces := #[6, 7], accessFlags := 1041 }

/-- the primitive long -/
def k12 : Class := { plain "long" none with kind := .primitive 'J', accessFlags := 0x411 }
/-- [J -/
def k13 : Class := { plain "[J" (some 0) with kind := .array 12 .long, interfaces := #[6, 7], accessFlags := 1041 }

def heap : Heap := #[]
def classes : Array Class := #[k0, k1, k2, k3, k4, k5, k6, k7, k8, k9, k10, k11, k12, k13]
def interned : List (Array UInt16 × Addr) := []
def slotsUsed : Nat := 0
def theMethod : MethodId := ⟨1, 1⟩
def args0 : Array Value := #[.long 5, .long 1, .int 2, .int 3, .int 7, .int 2]
def aboutOver (below : List Frame) : State where
  vm := { classes := classes, interned := interned.toArray }
  heap := heap
  slotsUsed := slotsUsed
  threads := #[{ frames := .invoking theMethod args0 :: below }]
def below0 : List Frame := [.native { method := ⟨0, 0⟩, args := #[] }]
def about1 : State := aboutOver below0
def p0 : Program := .bare "" "" ""
def e0 : Env := launch0.env 0 0 0
theorem w_frames : about1.frames = Frame.invoking theMethod args0 :: below0 := rfl
set_option maxRecDepth 65536 in
theorem w_args : argsFit about1.vm theMethod args0 = true := by decide +kernel
set_option maxRecDepth 65536 in
theorem w_heap : heapFits about1 = true := by decide +kernel
set_option maxRecDepth 65536 in
theorem w_runnable : about1.curStatus? = some .runnable := by decide +kernel
set_option maxRecDepth 65536 in
theorem w_alone : about1.alone = true := by decide +kernel
set_option maxRecDepth 65536 in
theorem w_named : about1.methodNamed? x = some theMethod := by decide +kernel
set_option maxRecDepth 65536 in
theorem w_hears : about1.hears theMethod below0 = true := by decide +kernel
set_option maxRecDepth 65536 in
theorem w_ripe : about1.ripe theMethod args0 below0 = true := by decide +kernel
theorem w_running : about1.status = .running := rfl
set_option maxRecDepth 65536 in
theorem w_room : about1.hasRoom e0.platform room_1 = true :=
  launch0.hasRoom_least _ room_1 (by decide +kernel) (by decide +kernel) (by decide +kernel) (by decide +kernel) (by decide +kernel) (by decide +kernel)
theorem allAtoms_all (ts : List Jvm.Cond) (a : Array Jvm.Value) (st : Jvm.State) : (allAtoms ts).before a st = ts.all (fun c => c.before a st) := by
  induction ts with
  | nil => rfl
  | cons c t ih =>
    show (Jvm.Cond.and c (allAtoms t)).before a st = _
    rw [Jvm.Cond.before_and, ih, List.all_cons]
def words1 : List Jvm.Cond := Jvm.Cond.code x code maxLocals ret :: tables_1
/-- a 'code' word, met by the world's own term for the bytes: nothing is compared byte by byte -/
theorem code_word {y : MethodName} {bytes : ByteArray} {mx : Nat} {rt : Option FieldType} {a : Array Value} {s : State} {m : MethodId} {meth : Method} {c : Code} (h1 : s.methodNamed? y = some m) (h2 : s.vm.method? m = some meth) (h3 : meth.code = some c) (h4 : c.code = bytes)
    (h5 : (c.maxLocals == mx && c.exceptionTable.isEmpty && decide (c.maxStack ≤ mostOperands) && decide (meth.sig.returnType = rt) && !meth.locks && decide (parseMethodDescriptor y.desc = some meth.sig)) = true) : (Jvm.Cond.code y bytes mx rt).before a s = true := by
  simp only [Bool.and_eq_true, beq_iff_eq, Bool.not_eq_true', decide_eq_true_eq] at h5
  obtain ⟨⟨⟨⟨⟨g1, g2⟩, g3⟩, g4⟩, g5⟩, g6⟩ := h5
  simp [Cond.before, Cond.holds, Cond.value, h1, h2, h3, h4, g1, g2, g3, g4, g5, g6]
def isCode : Jvm.Cond → Bool
  | .code _ _ _ _ => true
  | _ => false
theorem all_split {L : List Jvm.Cond} {P : Jvm.Cond → Bool} (h1 : L.all (fun c => isCode c || P c) = true) (h2 : ∀ c ∈ L.filter isCode, P c = true) : L.all P = true := by
  refine List.all_eq_true.mpr fun c hc => ?_
  have h := List.all_eq_true.mp h1 c hc
  rcases Bool.eq_false_or_eq_true (isCode c) with hi | hi
  · exact h2 c (List.mem_filter.mpr ⟨hc, hi⟩)
  · simpa [hi] using h
set_option maxRecDepth 65536 in
theorem w_c0 : (Jvm.Cond.code x code maxLocals ret).before args0 about1 = true := code_word (m := ⟨1, 1⟩) (meth := k1m1) (c := k1c1) (by decide +kernel) rfl rfl rfl (by decide +kernel)
set_option maxRecDepth 65536 in
theorem w_c1 : (Jvm.Cond.code ({ cls := "com/example/viral_counter/viralcounter/PostTrend", name := "<init>", desc := "()V" } : Jvm.MethodName) prog_25_method_1_code (1 : Nat) (Option.none : Option Jvm.ClassFile.FieldType)).before args0 about1 = true := code_word (m := ⟨2, 0⟩) (meth := k2m0) (c := k2c0) (by decide +kernel) rfl rfl rfl (by decide +kernel)
set_option maxRecDepth 65536 in
theorem w_c2 : (Jvm.Cond.code ({ cls := "java/lang/Object", name := "<init>", desc := "()V" } : Jvm.MethodName) object_method_1_code (1 : Nat) (Option.none : Option Jvm.ClassFile.FieldType)).before args0 about1 = true := code_word (m := ⟨0, 0⟩) (meth := k0m0) (c := k0c0) (by decide +kernel) rfl rfl rfl (by decide +kernel)
set_option maxRecDepth 65536 in
theorem w_c3 : (Jvm.Cond.code ({ cls := "com/example/viral_counter/viralcounter/PostTrend", name := "counted", desc := "(JIZ)V" } : Jvm.MethodName) prog_25_method_2_code (5 : Nat) (Option.none : Option Jvm.ClassFile.FieldType)).before args0 about1 = true := code_word (m := ⟨2, 1⟩) (meth := k2m1) (c := k2c1) (by decide +kernel) rfl rfl rfl (by decide +kernel)
set_option maxRecDepth 65536 in
theorem w_c4 : (Jvm.Cond.code ({ cls := "com/example/viral_counter/viralcounter/PostTrend", name := "forgetBefore", desc := "(J)V" } : Jvm.MethodName) prog_25_method_4_code (3 : Nat) (Option.none : Option Jvm.ClassFile.FieldType)).before args0 about1 = true := code_word (m := ⟨2, 3⟩) (meth := k2m3) (c := k2c3) (by decide +kernel) rfl rfl rfl (by decide +kernel)
set_option maxRecDepth 65536 in
theorem w_c5 : (Jvm.Cond.code ({ cls := "com/example/viral_counter/viralcounter/PostTrend", name := "isEmpty", desc := "()Z" } : Jvm.MethodName) prog_25_method_5_code (1 : Nat) (Option.some Jvm.ClassFile.FieldType.boolean)).before args0 about1 = true := code_word (m := ⟨2, 4⟩) (meth := k2m4) (c := k2c4) (by decide +kernel) rfl rfl rfl (by decide +kernel)
set_option maxRecDepth 65536 in
theorem w_c6 : (Jvm.Cond.code ({ cls := "com/example/viral_counter/viralcounter/PostTrend", name := "gainedSince", desc := "(J)I" } : Jvm.MethodName) prog_25_method_3_code (6 : Nat) (Option.some Jvm.ClassFile.FieldType.int)).before args0 about1 = true := code_word (m := ⟨2, 2⟩) (meth := k2m2) (c := k2c2) (by decide +kernel) rfl rfl rfl (by decide +kernel)
set_option maxRecDepth 65536 in
theorem w_c7 : (Jvm.Cond.code ({ cls := "java/util/Arrays", name := "binarySearch", desc := "([JIIJ)I" } : Jvm.MethodName) jdk_65_method_55_code (5 : Nat) (Option.some Jvm.ClassFile.FieldType.int)).before args0 about1 = true := code_word (m := ⟨3, 2⟩) (meth := k3m2) (c := k3c2) (by decide +kernel) rfl rfl rfl (by decide +kernel)
set_option maxRecDepth 65536 in
theorem w_c8 : (Jvm.Cond.code ({ cls := "java/util/Arrays", name := "rangeCheck", desc := "(III)V" } : Jvm.MethodName) jdk_65_method_30_code (3 : Nat) (Option.none : Option Jvm.ClassFile.FieldType)).before args0 about1 = true := code_word (m := ⟨3, 1⟩) (meth := k3m1) (c := k3c1) (by decide +kernel) rfl rfl rfl (by decide +kernel)
set_option maxRecDepth 65536 in
theorem w_c9 : (Jvm.Cond.code ({ cls := "java/util/Arrays", name := "binarySearch0", desc := "([JIIJ)I" } : Jvm.MethodName) jdk_65_method_56_code (10 : Nat) (Option.some Jvm.ClassFile.FieldType.int)).before args0 about1 = true := code_word (m := ⟨3, 3⟩) (meth := k3m3) (c := k3c3) (by decide +kernel) rfl rfl rfl (by decide +kernel)
set_option maxRecDepth 65536 in
theorem w_c10 : (Jvm.Cond.code ({ cls := "com/example/viral_counter/viralcounter/PostTrend", name := "makeRoom", desc := "()V" } : Jvm.MethodName) prog_25_method_8_code (2 : Nat) (Option.none : Option Jvm.ClassFile.FieldType)).before args0 about1 = true := code_word (m := ⟨2, 5⟩) (meth := k2m5) (c := k2c5) (by decide +kernel) rfl rfl rfl (by decide +kernel)
set_option maxRecDepth 65536 in
theorem w_c11 : (Jvm.Cond.code ({ cls := "java/util/Arrays", name := "copyOfRange", desc := "([JII)[J" } : Jvm.MethodName) jdk_65_method_138_code (3 : Nat) (Option.some (Jvm.ClassFile.FieldType.array Jvm.ClassFile.FieldType.long))).before args0 about1 = true := code_word (m := ⟨3, 7⟩) (meth := k3m7) (c := k3c7) (by decide +kernel) rfl rfl rfl (by decide +kernel)
set_option maxRecDepth 65536 in
theorem w_c12 : (Jvm.Cond.code ({ cls := "java/util/Arrays", name := "copyOfRangeLong", desc := "([JII)[J" } : Jvm.MethodName) jdk_65_method_139_code (5 : Nat) (Option.some (Jvm.ClassFile.FieldType.array Jvm.ClassFile.FieldType.long))).before args0 about1 = true := code_word (m := ⟨3, 8⟩) (meth := k3m8) (c := k3c8) (by decide +kernel) rfl rfl rfl (by decide +kernel)
set_option maxRecDepth 65536 in
theorem w_c13 : (Jvm.Cond.code ({ cls := "java/util/Arrays", name := "checkLength", desc := "(II)V" } : Jvm.MethodName) jdk_65_method_131_code (2 : Nat) (Option.none : Option Jvm.ClassFile.FieldType)).before args0 about1 = true := code_word (m := ⟨3, 4⟩) (meth := k3m4) (c := k3c4) (by decide +kernel) rfl rfl rfl (by decide +kernel)
set_option maxRecDepth 65536 in
theorem w_c14 : (Jvm.Cond.code ({ cls := "java/lang/Math", name := "min", desc := "(II)I" } : Jvm.MethodName) jdk_29_method_69_code (2 : Nat) (Option.some Jvm.ClassFile.FieldType.int)).before args0 about1 = true := code_word (m := ⟨4, 1⟩) (meth := k4m1) (c := k4c1) (by decide +kernel) rfl rfl rfl (by decide +kernel)
set_option maxRecDepth 65536 in
theorem w_c15 : (Jvm.Cond.code ({ cls := "java/util/Arrays", name := "copyOfRange", desc := "([III)[I" } : Jvm.MethodName) jdk_65_method_136_code (3 : Nat) (Option.some (Jvm.ClassFile.FieldType.array Jvm.ClassFile.FieldType.int))).before args0 about1 = true := code_word (m := ⟨3, 5⟩) (meth := k3m5) (c := k3c5) (by decide +kernel) rfl rfl rfl (by decide +kernel)
set_option maxRecDepth 65536 in
theorem w_c16 : (Jvm.Cond.code ({ cls := "java/util/Arrays", name := "copyOfRangeInt", desc := "([III)[I" } : Jvm.MethodName) jdk_65_method_137_code (5 : Nat) (Option.some (Jvm.ClassFile.FieldType.array Jvm.ClassFile.FieldType.int))).before args0 about1 = true := code_word (m := ⟨3, 6⟩) (meth := k3m6) (c := k3c6) (by decide +kernel) rfl rfl rfl (by decide +kernel)
def codes1 : List Jvm.Cond := [Jvm.Cond.code x code maxLocals ret, Jvm.Cond.code ({ cls := "com/example/viral_counter/viralcounter/PostTrend", name := "<init>", desc := "()V" } : Jvm.MethodName) prog_25_method_1_code (1 : Nat) (Option.none : Option Jvm.ClassFile.FieldType), Jvm.Cond.code ({ cls := "java/lang/Object", name := "<init>", desc := "()V" } : Jvm.MethodName) object_method_1_code (1 : Nat) (Option.none : Option Jvm.ClassFile.FieldType), Jvm.Cond.code ({ cls := "com/example/viral_counter/viralcounter/PostTrend", name := "counted", desc := "(JIZ)V" } : Jvm.MethodName) prog_25_method_2_code (5 : Nat) (Option.none : Option Jvm.ClassFile.FieldType), Jvm.Cond.code ({ cls := "com/example/viral_counter/viralcounter/PostTrend", name := "forgetBefore", desc := "(J)V" } : Jvm.MethodName) prog_25_method_4_code (3 : Nat) (Option.none : Option Jvm.ClassFile.FieldType), Jvm.Cond.code ({ cls := "com/example/viral_counter/viralcounter/PostTrend", name := "isEmpty", desc := "()Z" } : Jvm.MethodName) prog_25_method_5_code (1 : Nat) (Option.some Jvm.ClassFile.FieldType.boolean), Jvm.Cond.code ({ cls := "com/example/viral_counter/viralcounter/PostTrend", name := "gainedSince", desc := "(J)I" } : Jvm.MethodName) prog_25_method_3_code (6 : Nat) (Option.some Jvm.ClassFile.FieldType.int), Jvm.Cond.code ({ cls := "java/util/Arrays", name := "binarySearch", desc := "([JIIJ)I" } : Jvm.MethodName) jdk_65_method_55_code (5 : Nat) (Option.some Jvm.ClassFile.FieldType.int), Jvm.Cond.code ({ cls := "java/util/Arrays", name := "rangeCheck", desc := "(III)V" } : Jvm.MethodName) jdk_65_method_30_code (3 : Nat) (Option.none : Option Jvm.ClassFile.FieldType), Jvm.Cond.code ({ cls := "java/util/Arrays", name := "binarySearch0", desc := "([JIIJ)I" } : Jvm.MethodName) jdk_65_method_56_code (10 : Nat) (Option.some Jvm.ClassFile.FieldType.int), Jvm.Cond.code ({ cls := "com/example/viral_counter/viralcounter/PostTrend", name := "makeRoom", desc := "()V" } : Jvm.MethodName) prog_25_method_8_code (2 : Nat) (Option.none : Option Jvm.ClassFile.FieldType), Jvm.Cond.code ({ cls := "java/util/Arrays", name := "copyOfRange", desc := "([JII)[J" } : Jvm.MethodName) jdk_65_method_138_code (3 : Nat) (Option.some (Jvm.ClassFile.FieldType.array Jvm.ClassFile.FieldType.long)), Jvm.Cond.code ({ cls := "java/util/Arrays", name := "copyOfRangeLong", desc := "([JII)[J" } : Jvm.MethodName) jdk_65_method_139_code (5 : Nat) (Option.some (Jvm.ClassFile.FieldType.array Jvm.ClassFile.FieldType.long)), Jvm.Cond.code ({ cls := "java/util/Arrays", name := "checkLength", desc := "(II)V" } : Jvm.MethodName) jdk_65_method_131_code (2 : Nat) (Option.none : Option Jvm.ClassFile.FieldType), Jvm.Cond.code ({ cls := "java/lang/Math", name := "min", desc := "(II)I" } : Jvm.MethodName) jdk_29_method_69_code (2 : Nat) (Option.some Jvm.ClassFile.FieldType.int), Jvm.Cond.code ({ cls := "java/util/Arrays", name := "copyOfRange", desc := "([III)[I" } : Jvm.MethodName) jdk_65_method_136_code (3 : Nat) (Option.some (Jvm.ClassFile.FieldType.array Jvm.ClassFile.FieldType.int)), Jvm.Cond.code ({ cls := "java/util/Arrays", name := "copyOfRangeInt", desc := "([III)[I" } : Jvm.MethodName) jdk_65_method_137_code (5 : Nat) (Option.some (Jvm.ClassFile.FieldType.array Jvm.ClassFile.FieldType.int))]
set_option maxRecDepth 65536 in
theorem codes_eq : words1.filter isCode = codes1 := rfl
theorem w_codes : ∀ c ∈ words1.filter isCode, c.before args0 about1 = true := by
  rw [codes_eq]
  intro c hc
  simp only [codes1, List.mem_cons, List.not_mem_nil, or_false] at hc
  rcases hc with rfl | rfl | rfl | rfl | rfl | rfl | rfl | rfl | rfl | rfl | rfl | rfl | rfl | rfl | rfl | rfl | rfl
  · exact w_c0
  · exact w_c1
  · exact w_c2
  · exact w_c3
  · exact w_c4
  · exact w_c5
  · exact w_c6
  · exact w_c7
  · exact w_c8
  · exact w_c9
  · exact w_c10
  · exact w_c11
  · exact w_c12
  · exact w_c13
  · exact w_c14
  · exact w_c15
  · exact w_c16
set_option maxRecDepth 65536 in
theorem w_t1 : (words1.take 24).all (fun c => isCode c || c.before args0 about1) = true := by decide +kernel
set_option maxRecDepth 65536 in
theorem w_t2 : ((words1.drop 24).take 24).all (fun c => isCode c || c.before args0 about1) = true := by decide +kernel
set_option maxRecDepth 65536 in
theorem w_t3 : (((words1.drop 24).drop 24).take 24).all (fun c => isCode c || c.before args0 about1) = true := by decide +kernel
set_option maxRecDepth 65536 in
theorem w_t4 : (((words1.drop 24).drop 24).drop 24).all (fun c => isCode c || c.before args0 about1) = true := by decide +kernel
theorem w_tables : (allAtoms (Jvm.Cond.code x code maxLocals ret :: tables_1)).before args0 about1 = true := by
  rw [allAtoms_all]
  show words1.all (fun c => c.before args0 about1) = true
  refine all_split ?_ w_codes
  rw [← List.take_append_drop 24 words1, List.all_append, w_t1, ← List.take_append_drop 24 (words1.drop 24), List.all_append, w_t2, ← List.take_append_drop 24 ((words1.drop 24).drop 24), List.all_append, w_t3, w_t4]
  rfl
set_option maxRecDepth 65536 in
theorem w_case : (Jvm.Cond.and given_1 narrow_1).before args0 about1 = true := by decide +kernel
theorem w_applies : (headSpec (Jvm.Cond.code x code maxLocals ret :: tables_1) room_1).applies x e0.platform about1 = true :=
  (Spec.applies_iff w_frames).mpr ⟨w_running, w_runnable, w_alone, w_named, w_hears, w_ripe, w_room, w_tables⟩
theorem atStart : AtStart classFile x code maxLocals ret World_1 tables_1 room_1 Calls_1 rest_1 Pre_1 launch0 p0 e0 about1 theMethod args0 below0 :=
  ⟨lists_1, trivial, launch0.admits_env _ _ _, launch0.least_env, fairChoices_fair.cas, fairChoices_fair.clock, w_frames, w_args, w_heap, w_applies, trivial, trivial, w_case⟩
end start1
theorem witness_1 : WitnessClaimed_1 := ⟨start1.p0, start1.e0, start1.about1, start1.theMethod, start1.args0, start1.below0, start1.atStart⟩
end Jvm.Pilot.@@N@@
