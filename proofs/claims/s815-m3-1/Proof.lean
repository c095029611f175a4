import JvmDerived
import JvmDerived.Pilot.@@N@@Statement
import JvmDerived.Pilot.@@N@@Code
set_option linter.unusedVariables false
set_option linter.unusedSimpArgs false
@@BLOCK:NumsL.lean.txt@@
namespace Jvm.Pilot.@@N@@
open Jvm Jvm.ClassFile Sem Op Lib Jvm.Free Jvm.Stand Jvm.LawKit Jvm.RoadKit Bundle Jvm.Pilot.@@N@@.Jvm.D
section Own
variable {p : Program} {l : Launch} {e : Env} {R : Room} {s : State} {m : MethodId} {args : Array Value} {below : List Frame} {meth : Method} {c : Code} {T : State} {locs : List Loc} {cells slots : Nat}
theorem own_ireturn (X : Stand p l e R s m args below meth c T locs cells slots) (hx : p.tables.exec = Jvm.exec) {pc : Nat} {Ls : Array Slot} {z : Int32} {rest : List Value} (hret : meth.sig.returnType = some .int) (hd : decode c.code pc = .ok (.ireturn, 1)) {fs : List Frame}
    (hl : ∀ (f : JFrame) (acts : List Action), f.method = m → f.locked = none → f.entered = [] → (doReturn e (T.setTop f) acts (some (.int z))).1 = T.setFrames fs) : Steps p.tables e below (T.setTop (mkF m pc Ls (.int z :: rest))) (T.setFrames fs) := by
  have hm' : T.vm.method? m = some meth := X.method'
  have hn : narrow .int (.int z) = .int z := rfl
  show Steps p.tables e below (T.setTop { method := m, pc := pc, locals := Ls, stack := _ :: rest, locked := none }) _
  jvm_step X.here [X.here.top, hx, hd, hm', hret, hn]
  first | (intro acts; rw [hl _ acts rfl rfl rfl]) | rw [hl _ _ rfl rfl rfl]
  exact Steps.refl _
theorem own_more (X : Stand p l e R s m args below meth c T locs cells slots) {k n : Nat} (h1 : cells ≤ k) (h2 : slots ≤ n) : Stand p l e R s m args below meth c T locs k n := { X with same := X.same.mono h1 h2 }
theorem own_retV (X : Stand p l e R s m args below meth c T locs cells slots) (hx : p.tables.exec = Jvm.exec) (hlk : meth.locks = false) (hret : meth.sig.returnType = none) {pc : Nat} {Ls : Array Slot} (hd : decode c.code pc = .ok (.return_, 1)) {base : State}
    (pre : ∀ t, Steps p.tables e below (T.setTop (mkF m pc Ls [])) t → Steps p.tables e below base t) {Q : Option Value → Heap → List Loc → Prop} (hQ : Q none T.heap locs) {k n : Nat} (h1 : cells ≤ k) (h2 : slots ≤ n) :
    ∃ s₂ o, Steps p.tables e below base s₂ ∧ s₂.status = .running ∧ Ended s₂ below o ∧ ∃ v L, o = .returned v ∧ Q v s₂.heap L ∧ FrameEnd s o s₂ L k n := by
  obtain ⟨fs, hr, hrun, hended, hW, hsame⟩ := X.leave (v := none) (fun _ => rfl)
  exact ⟨_, _, pre _ (X.returnOut hx hret hd hr), hrun, hended, _, _, rfl, hQ, ⟨_, rfl⟩, hW, hsame.mono h1 h2⟩
theorem own_retI (X : Stand p l e R s m args below meth c T locs cells slots) (hx : p.tables.exec = Jvm.exec) (hlk : meth.locks = false) (hret : meth.sig.returnType = some .int) {pc : Nat} {Ls : Array Slot} {z : Int32} {rest : List Value} (hd : decode c.code pc = .ok (.ireturn, 1)) {base : State}
    (pre : ∀ t, Steps p.tables e below (T.setTop (mkF m pc Ls (.int z :: rest))) t → Steps p.tables e below base t) {Q : Option Value → Heap → List Loc → Prop} (hQ : Q (some (.int z)) T.heap locs) {k n : Nat} (h1 : cells ≤ k) (h2 : slots ≤ n) :
    ∃ s₂ o, Steps p.tables e below base s₂ ∧ s₂.status = .running ∧ Ended s₂ below o ∧ ∃ v L, o = .returned v ∧ Q v s₂.heap L ∧ FrameEnd s o s₂ L k n := by
  obtain ⟨fs, hr, hrun, hended, hW, hsame⟩ := X.leave (v := some (.int z)) (fun h => by rw [hret] at h; cases h)
  exact ⟨_, _, pre _ (own_ireturn X hx hret hd hr), hrun, hended, _, _, rfl, hQ, ⟨_, rfl⟩, hW, hsame.mono h1 h2⟩
theorem own_retN (X : Stand p l e R s m args below meth c T locs cells slots) (hx : p.tables.exec = Jvm.exec) (hlk : meth.locks = false) {t : FieldType} (hret : meth.sig.returnType = some t) (ht : t = .boolean ∨ t = .byte ∨ t = .char ∨ t = .short) {pc : Nat} {Ls : Array Slot} {z : Int32} {rest : List Value} (hd : decode c.code pc = .ok (.ireturn, 1)) {base : State}
    (pre : ∀ t, Steps p.tables e below (T.setTop (mkF m pc Ls (.int z :: rest))) t → Steps p.tables e below base t) {Q : Option Value → Heap → List Loc → Prop} (hQ : Q (some (.int (nar t z))) T.heap locs) {k n : Nat} (h1 : cells ≤ k) (h2 : slots ≤ n) :
    ∃ s₂ o, Steps p.tables e below base s₂ ∧ s₂.status = .running ∧ Ended s₂ below o ∧ ∃ v L, o = .returned v ∧ Q v s₂.heap L ∧ FrameEnd s o s₂ L k n := by
  obtain ⟨fs, hr, hrun, hended, hW, hsame⟩ := X.leave (v := some (.int (nar t z))) (fun h => by rw [hret] at h; cases h)
  exact ⟨_, _, pre _ (retN X hx hret ht hd hr), hrun, hended, _, _, rfl, hQ, ⟨_, rfl⟩, hW, hsame.mono h1 h2⟩
theorem own_retJ (X : Stand p l e R s m args below meth c T locs cells slots) (hx : p.tables.exec = Jvm.exec) (hlk : meth.locks = false) (hret : meth.sig.returnType = some .long) {pc : Nat} {Ls : Array Slot} {z : Int64} (hd : decode c.code pc = .ok (.lreturn, 1)) {base : State}
    (pre : ∀ t, Steps p.tables e below (T.setTop (mkF m pc Ls [.long z])) t → Steps p.tables e below base t) {Q : Option Value → Heap → List Loc → Prop} (hQ : Q (some (.long z)) T.heap locs) {k n : Nat} (h1 : cells ≤ k) (h2 : slots ≤ n) :
    ∃ s₂ o, Steps p.tables e below base s₂ ∧ s₂.status = .running ∧ Ended s₂ below o ∧ ∃ v L, o = .returned v ∧ Q v s₂.heap L ∧ FrameEnd s o s₂ L k n := by
  obtain ⟨fs, hr, hrun, hended, hW, hsame⟩ := X.leave (v := some (.long z)) (fun h => by rw [hret] at h; cases h)
  exact ⟨_, _, pre _ (X.lreturnOut hx hret hd hr), hrun, hended, _, _, rfl, hQ, ⟨_, rfl⟩, hW, hsame.mono h1 h2⟩
theorem own_retA (X : Stand p l e R s m args below meth c T locs cells slots) (hx : p.tables.exec = Jvm.exec) (hlk : meth.locks = false) {w : Value} {t : FieldType} (hw : w.isRef = true) (hret : meth.sig.returnType = some t) (ht : t.isReference = true) {pc : Nat} {Ls : Array Slot} (hd : decode c.code pc = .ok (.areturn, 1)) {base : State}
    (pre : ∀ t, Steps p.tables e below (T.setTop (mkF m pc Ls [w])) t → Steps p.tables e below base t) {Q : Option Value → Heap → List Loc → Prop} (hQ : Q (some w) T.heap locs) {k n : Nat} (h1 : cells ≤ k) (h2 : slots ≤ n) :
    ∃ s₂ o, Steps p.tables e below base s₂ ∧ s₂.status = .running ∧ Ended s₂ below o ∧ ∃ v L, o = .returned v ∧ Q v s₂.heap L ∧ FrameEnd s o s₂ L k n := by
  obtain ⟨fs, hr, hrun, hended, hW, hsame⟩ := X.leave (v := some w) (fun h => by rw [hret] at h; cases h)
  exact ⟨_, _, pre _ (X.areturnOut hx hw hret ht hd hr), hrun, hended, _, _, rfl, hQ, ⟨_, rfl⟩, hW, hsame.mono h1 h2⟩
end Own
theorem own_bool {z : Int32} (h : z = 0 ∨ z = 1) : nar .boolean z = z := by rcases h with rfl | rfl <;> rfl

theorem own_rem {x y : Int32} (hx : 0 ≤ x.toInt) (hy : 0 < y.toInt) : (x - x / y * y).toInt = x.toInt % y.toInt := by
  have hq : (x / y).toInt = x.toInt / y.toInt := by
    rw [Jvm.Kit.i32_div (by omega), Int.tdiv_eq_ediv_of_nonneg hx]
  have h1 : 0 ≤ x.toInt / y.toInt := Int.ediv_nonneg hx (by omega)
  have h2 : x.toInt / y.toInt * y.toInt ≤ x.toInt := Int.ediv_mul_le _ (by omega)
  have h3 : 0 ≤ x.toInt / y.toInt * y.toInt := Int.mul_nonneg h1 (by omega)
  have h4 := Int32.toInt_lt x
  have hm : (x / y * y).toInt = x.toInt / y.toInt * y.toInt := by
    rw [Jvm.Kit.i32_mul (by rw [hq]; omega) (by rw [hq]; omega), hq]
  rw [Jvm.Kit.i32_sub (by rw [hm]; omega) (by rw [hm]; omega), hm, Int.emod_def, Int.mul_comm]

def own_names : List (Int32 × String) := [((0 : Int32), "OBJECT_START"), ((1 : Int32), "OBJECT_END"), ((2 : Int32), "ARRAY_START"), ((3 : Int32), "ARRAY_END"), ((4 : Int32), "NAME"), ((5 : Int32), "STRING"), ((6 : Int32), "NUMBER"), ((7 : Int32), "TRUE"), ((8 : Int32), "FALSE"), ((9 : Int32), "NULL"), ((10 : Int32), "END_OF_TEXT")]
def Tok (Z : State) (h : Heap) (pk : Int32 → Addr) : Prop := (∀ q ∈ own_names, Sta Z h "com/example/rorqual/rorqual/reader/JsonToken" q.2 "Lcom/example/rorqual/rorqual/reader/JsonToken;" (.ref (pk q.1))) ∧ (∀ q ∈ own_names, Exa Z h (pk q.1) "com/example/rorqual/rorqual/reader/JsonToken")
theorem Tok.ext {Z : State} {h h' : Heap} {pk : Int32 → Addr} (F : Tok Z h pk) (E : Ext h h') : Tok Z h' pk := ⟨fun q hq => (F.1 q hq).ext E, fun q hq => (F.2 q hq).ext E⟩
theorem Tok.wr {Z : State} {h h' : Heap} {pk : Int32 → Addr} {a : Addr} {sl : Nat} {v : Value} (F : Tok Z h pk) (W : Wr h h' a sl v) : Tok Z h' pk := ⟨fun q hq => (F.1 q hq).wr W, fun q hq => (F.2 q hq).wr W⟩
theorem own_ord {args : Array Value} {s : State} {t : Term} {r : Addr} {C n d : String} {k : Int32} (ev : t.eval args s none [] s = some (.ref r)) (h : (Jvm.Cond.eq (.field t C n d) (.int k)).value args s none s [] = some true) : Fld s s.heap r C n d (.int k) := by
  have e1 : (Term.field t C n d).eval args s none [] s = s.fieldOf? r C n d := fld_at ev
  have e2 : (Term.int k).eval args s none [] s = some (.int k) := Term.int_eval k
  apply Fld.start
  cases hf : s.fieldOf? r C n d with
  | none => rw [hf] at e1; simp [Cond.value, e1] at h
  | some v => rw [hf] at e1; cases v <;> simp [Cond.value, e1, e2] at h ⊢; exact h
theorem own_k (x : Int32) : ∀ k : Int32, k = ((x &&& (2147483647 : Int32)) - (x &&& (2147483647 : Int32)) / (11 : Int32) * (11 : Int32)) → (k = (0 : Int32) ∨ k = (1 : Int32) ∨ k = (2 : Int32) ∨ k = (3 : Int32) ∨ k = (4 : Int32) ∨ k = (5 : Int32) ∨ k = (6 : Int32) ∨ k = (7 : Int32) ∨ k = (8 : Int32) ∨ k = (9 : Int32) ∨ k = (10 : Int32)) := by
  intro k hk
  have e1 : (x &&& (2147483647 : Int32)).toInt = x.toInt % 2 ^ 31 := Jvm.Kit.i32_mask x _ (k := 31) (by decide) (by decide)
  have e2 : k.toInt = (x &&& (2147483647 : Int32)).toInt % 11 := by rw [hk]; exact own_rem (by omega) (by decide)
  have e3 : k.toInt = 0 ∨ k.toInt = 1 ∨ k.toInt = 2 ∨ k.toInt = 3 ∨ k.toInt = 4 ∨ k.toInt = 5 ∨ k.toInt = 6 ∨ k.toInt = 7 ∨ k.toInt = 8 ∨ k.toInt = 9 ∨ k.toInt = 10 := by omega
  rcases e3 with h | h | h | h | h | h | h | h | h | h | h <;> simp only [← Int32.toInt_inj, h] <;> decide
def own_b (k : Int32) : Int32 := [(1 : Int32), (0 : Int32), (1 : Int32), (0 : Int32), (0 : Int32), (1 : Int32), (1 : Int32), (1 : Int32), (1 : Int32), (1 : Int32), (0 : Int32)].getD k.toNatClampNeg 0
theorem ef_0 (m : MethodId) (x0 : Int32) : entryFrame m #[(.int x0)] 1 = mkF m 0 #[.val (.int x0)] [] := by first | (simp [entryFrame, mkF, argsToLocals, Value.category]; done) | rfl
theorem pn_1 : plainName "com/example/rorqual/rorqual/reader/JsonTokenBeginsValuePinLaw" = true := by first | (simp [plainName, overriddenIn]; done) | decide +kernel
theorem d1_0 : decode method_3_code 0 = .ok (.iload_n 0, 1) := by decide +kernel
theorem d1_1 : decode method_3_code 1 = .ok (.ifCond .ne 7, 3) := by decide +kernel
theorem d1_4 : decode method_3_code 4 = .ok (.getstatic 20, 3) := by decide +kernel
theorem d1_7 : decode method_3_code 7 = .ok (.areturn, 1) := by decide +kernel
theorem d1_8 : decode method_3_code 8 = .ok (.iload_n 0, 1) := by decide +kernel
theorem d1_9 : decode method_3_code 9 = .ok (.iconst 1, 1) := by decide +kernel
theorem d1_10 : decode method_3_code 10 = .ok (.if_icmp .ne 7, 3) := by decide +kernel
theorem d1_13 : decode method_3_code 13 = .ok (.getstatic 24, 3) := by decide +kernel
theorem d1_16 : decode method_3_code 16 = .ok (.areturn, 1) := by decide +kernel
theorem d1_17 : decode method_3_code 17 = .ok (.iload_n 0, 1) := by decide +kernel
theorem d1_18 : decode method_3_code 18 = .ok (.iconst 2, 1) := by decide +kernel
theorem d1_19 : decode method_3_code 19 = .ok (.if_icmp .ne 7, 3) := by decide +kernel
theorem d1_22 : decode method_3_code 22 = .ok (.getstatic 27, 3) := by decide +kernel
theorem d1_25 : decode method_3_code 25 = .ok (.areturn, 1) := by decide +kernel
theorem d1_26 : decode method_3_code 26 = .ok (.iload_n 0, 1) := by decide +kernel
theorem d1_27 : decode method_3_code 27 = .ok (.iconst 3, 1) := by decide +kernel
theorem d1_28 : decode method_3_code 28 = .ok (.if_icmp .ne 7, 3) := by decide +kernel
theorem d1_31 : decode method_3_code 31 = .ok (.getstatic 30, 3) := by decide +kernel
theorem d1_34 : decode method_3_code 34 = .ok (.areturn, 1) := by decide +kernel
theorem d1_35 : decode method_3_code 35 = .ok (.iload_n 0, 1) := by decide +kernel
theorem d1_36 : decode method_3_code 36 = .ok (.iconst 4, 1) := by decide +kernel
theorem d1_37 : decode method_3_code 37 = .ok (.if_icmp .ne 7, 3) := by decide +kernel
theorem d1_40 : decode method_3_code 40 = .ok (.getstatic 33, 3) := by decide +kernel
theorem d1_43 : decode method_3_code 43 = .ok (.areturn, 1) := by decide +kernel
theorem d1_44 : decode method_3_code 44 = .ok (.iload_n 0, 1) := by decide +kernel
theorem d1_45 : decode method_3_code 45 = .ok (.iconst 5, 1) := by decide +kernel
theorem d1_46 : decode method_3_code 46 = .ok (.if_icmp .ne 7, 3) := by decide +kernel
theorem d1_49 : decode method_3_code 49 = .ok (.getstatic 36, 3) := by decide +kernel
theorem d1_52 : decode method_3_code 52 = .ok (.areturn, 1) := by decide +kernel
theorem d1_53 : decode method_3_code 53 = .ok (.iload_n 0, 1) := by decide +kernel
theorem d1_54 : decode method_3_code 54 = .ok (.bipush 6, 2) := by decide +kernel
theorem d1_56 : decode method_3_code 56 = .ok (.if_icmp .ne 7, 3) := by decide +kernel
theorem d1_59 : decode method_3_code 59 = .ok (.getstatic 39, 3) := by decide +kernel
theorem d1_62 : decode method_3_code 62 = .ok (.areturn, 1) := by decide +kernel
theorem d1_63 : decode method_3_code 63 = .ok (.iload_n 0, 1) := by decide +kernel
theorem d1_64 : decode method_3_code 64 = .ok (.bipush 7, 2) := by decide +kernel
theorem d1_66 : decode method_3_code 66 = .ok (.if_icmp .ne 7, 3) := by decide +kernel
theorem d1_69 : decode method_3_code 69 = .ok (.getstatic 42, 3) := by decide +kernel
theorem d1_72 : decode method_3_code 72 = .ok (.areturn, 1) := by decide +kernel
theorem d1_73 : decode method_3_code 73 = .ok (.iload_n 0, 1) := by decide +kernel
theorem d1_74 : decode method_3_code 74 = .ok (.bipush 8, 2) := by decide +kernel
theorem d1_76 : decode method_3_code 76 = .ok (.if_icmp .ne 7, 3) := by decide +kernel
theorem d1_79 : decode method_3_code 79 = .ok (.getstatic 45, 3) := by decide +kernel
theorem d1_82 : decode method_3_code 82 = .ok (.areturn, 1) := by decide +kernel
theorem d1_83 : decode method_3_code 83 = .ok (.iload_n 0, 1) := by decide +kernel
theorem d1_84 : decode method_3_code 84 = .ok (.bipush 9, 2) := by decide +kernel
theorem d1_86 : decode method_3_code 86 = .ok (.if_icmp .ne 7, 3) := by decide +kernel
theorem d1_89 : decode method_3_code 89 = .ok (.getstatic 48, 3) := by decide +kernel
theorem d1_92 : decode method_3_code 92 = .ok (.areturn, 1) := by decide +kernel
theorem d1_93 : decode method_3_code 93 = .ok (.getstatic 51, 3) := by decide +kernel
theorem d1_96 : decode method_3_code 96 = .ok (.areturn, 1) := by decide +kernel
def Q1 (p1 : Int32) (pk : Int32 → Addr) (h0 : Heap) (n0 : Nat) (v : Option Value) (h : Heap) (L : List Loc) : Prop := v = some (.ref (pk p1)) ∧ Fr n0 L ∧ h = h0
set_option maxRecDepth 65536 in
set_option maxHeartbeats 40000000 in
theorem rm1 (l : Launch) (Z : State) (a0 : Array Value) (hw : ∀ d ∈ tables_1, d.before a0 Z = true) (ws : List Jvm.Cond) (p1 : Int32) (pk : Int32 → Addr) (h0 : Heap) (n0 : Nat) (Z0 : n0 ≤ h0.size) (tok : Tok Z h0 pk) (hk : p1 = (0 : Int32) ∨ p1 = (1 : Int32) ∨ p1 = (2 : Int32) ∨ p1 = (3 : Int32) ∨ p1 = (4 : Int32) ∨ p1 = (5 : Int32) ∨ p1 = (6 : Int32) ∨ p1 = (7 : Int32) ∨ p1 = (8 : Int32) ∨ p1 = (9 : Int32) ∨ p1 = (10 : Int32)) :
    MetFree l (⟨"com/example/rorqual/rorqual/reader/JsonTokenBeginsValuePinLaw", "pick", "(I)Lcom/example/rorqual/rorqual/reader/JsonToken;"⟩ : MethodName) (head1 (Jvm.Cond.code (⟨"com/example/rorqual/rorqual/reader/JsonTokenBeginsValuePinLaw", "pick", "(I)Lcom/example/rorqual/rorqual/reader/JsonToken;"⟩ : MethodName) method_3_code 1 (some (.object "com/example/rorqual/rorqual/reader/JsonToken")) :: ws) ({ frames := 0, cells := 0, slots := 0, locals := 0 } : Room)) (fun a U => a = #[(.int p1)] ∧ Z.Warmed39 U.vm ∧ U.heap = h0) (fun _ _ _ _ _ => True) (fun _ U o U' => ∃ v L, o = .returned v ∧ Q1 p1 pk h0 n0 v U'.heap L ∧ FrameEnd U o U' L ({ frames := 0, cells := 0, slots := 0, locals := 0 } : Room).cells ({ frames := 0, cells := 0, slots := 0, locals := 0 } : Room).slots) := by
  refine MetFree.of_bodySF (plainFor_of_name pn_1) hisR ?_
  intro p e s m args below meth c s₁ Bd hml0 hP hK
  obtain ⟨rfl, hZ, hh⟩ := hP
  have hx := Bd.exec
  have hby := Bd.bytes
  have hml : c.maxLocals = 1 := hml0
  have hown : s.vm.findClass "com/example/rorqual/rorqual/reader/JsonTokenBeginsValuePinLaw" = some m.cls := findClass_of_methodNamed Bd.named
  have hnm := (name_of_methodNamed Bd.named Bd.method).1
  have X0 : Stand p l e ({ frames := 0, cells := 0, slots := 0, locals := 0 } : Room) s m #[(.int p1)] below meth c s₁ [] 0 0 := Stand.of_body Bd
  have e0 : s₁.heap = h0 := by rw [← hh, Bd.state]; rfl
  have N0 := Fr.nil n0
  have pre0 : ∀ t, Steps p.tables e below (s₁.setTop (mkF m 0 #[.val (.int p1)] [])) t → Steps p.tables e below (s₁.setTop (entryFrame m #[(.int p1)] 1)) t := fun t k => castTop (ef_0 m p1) k
  have pre1 : ∀ t, Steps p.tables e below (s₁.setTop (mkF m 1 #[.val (.int p1)] [(.int p1)])) t → Steps p.tables e below (s₁.setTop (entryFrame m #[(.int p1)] 1)) t := fun t kt => pre0 t (by
    show Steps p.tables e below (s₁.setTop (mkF m 0 #[.val (.int p1)] [])) _
    refine XS.iloadN X0.here hx rfl (hb hby d1_0) rfl ?_
    exact kt)
  by_cases hc2 : p1 = (0 : Int32)
  case pos =>
    obtain ⟨T3, X3, e3, st3⟩ := getS2 X0 hx hZ hown (host := "") (Or.inl (hw _ (List.mem_of_getElem? (i := 6) rfl))) Via.refl e0 (tok.1 _ (List.mem_of_getElem? (i := 0) rfl) : Sta Z h0 "com/example/rorqual/rorqual/reader/JsonToken" "OBJECT_START" "Lcom/example/rorqual/rorqual/reader/JsonToken;" (.ref (pk (0 : Int32)))) (g := (mkF m 4 #[.val (.int p1)] [])) rfl (hb hby d1_4)
    have pre4 : ∀ t, Steps p.tables e below (T3.setTop (mkF m 7 #[.val (.int p1)] [(.ref (pk (0 : Int32)))])) t → Steps p.tables e below (s₁.setTop (entryFrame m #[(.int p1)] 1)) t := fun t kt => pre1 t (by
      show Steps p.tables e below (s₁.setTop (mkF m 1 #[.val (.int p1)] [(.int p1)])) _
      refine XS.ifNo X0.here hx rfl (hb hby d1_1) rfl ((if0 _ _).trans (teq hc2).2) ?_
      show Steps p.tables e below (s₁.setTop (mkF m 4 #[.val (.int p1)] [])) _
      refine st3 _ ?_
      exact kt)
    exact own_retA X3 hx Bd.notSynchronized rfl Bd.returns rfl (hb hby d1_7) pre4 (show Q1 p1 pk h0 n0 _ _ _ from ⟨by rw [hc2], N0, e3⟩) (by decide) (by decide)
  case neg =>
    have pre5 : ∀ t, Steps p.tables e below (s₁.setTop (mkF m 10 #[.val (.int p1)] [(.int (1 : Int32)), (.int p1)])) t → Steps p.tables e below (s₁.setTop (entryFrame m #[(.int p1)] 1)) t := fun t kt => pre1 t (by
      show Steps p.tables e below (s₁.setTop (mkF m 1 #[.val (.int p1)] [(.int p1)])) _
      refine XS.ifYes X0.here hx rfl (pc0 := 1) (pc' := 8) rfl (hb hby d1_1) rfl ((if0 _ _).trans (feq hc2).2) (by decide) (by decide) ?_
      show Steps p.tables e below (s₁.setTop (mkF m 8 #[.val (.int p1)] [])) _
      refine XS.iloadN X0.here hx rfl (hb hby d1_8) rfl ?_
      show Steps p.tables e below (s₁.setTop (mkF m 9 #[.val (.int p1)] [(.int p1)])) _
      refine XS.iconst X0.here hx rfl (hb hby d1_9) ?_
      exact kt)
    by_cases hc6 : p1 = (1 : Int32)
    case pos =>
      obtain ⟨T7, X7, e7, st7⟩ := getS2 X0 hx hZ hown (host := "") (Or.inl (hw _ (List.mem_of_getElem? (i := 30) rfl))) Via.refl e0 (tok.1 _ (List.mem_of_getElem? (i := 1) rfl) : Sta Z h0 "com/example/rorqual/rorqual/reader/JsonToken" "OBJECT_END" "Lcom/example/rorqual/rorqual/reader/JsonToken;" (.ref (pk (1 : Int32)))) (g := (mkF m 13 #[.val (.int p1)] [])) rfl (hb hby d1_13)
      have pre8 : ∀ t, Steps p.tables e below (T7.setTop (mkF m 16 #[.val (.int p1)] [(.ref (pk (1 : Int32)))])) t → Steps p.tables e below (s₁.setTop (entryFrame m #[(.int p1)] 1)) t := fun t kt => pre5 t (by
        show Steps p.tables e below (s₁.setTop (mkF m 10 #[.val (.int p1)] [(.int (1 : Int32)), (.int p1)])) _
        refine XS.icmpNo X0.here hx rfl (hb hby d1_10) rfl (teq hc6).2 ?_
        show Steps p.tables e below (s₁.setTop (mkF m 13 #[.val (.int p1)] [])) _
        refine st7 _ ?_
        exact kt)
      exact own_retA X7 hx Bd.notSynchronized rfl Bd.returns rfl (hb hby d1_16) pre8 (show Q1 p1 pk h0 n0 _ _ _ from ⟨by rw [hc6], N0, e7⟩) (by decide) (by decide)
    case neg =>
      have pre9 : ∀ t, Steps p.tables e below (s₁.setTop (mkF m 19 #[.val (.int p1)] [(.int (2 : Int32)), (.int p1)])) t → Steps p.tables e below (s₁.setTop (entryFrame m #[(.int p1)] 1)) t := fun t kt => pre5 t (by
        show Steps p.tables e below (s₁.setTop (mkF m 10 #[.val (.int p1)] [(.int (1 : Int32)), (.int p1)])) _
        refine XS.icmpYes X0.here hx rfl (pc0 := 10) (pc' := 17) rfl (hb hby d1_10) rfl (feq hc6).2 (by decide) (by decide) ?_
        show Steps p.tables e below (s₁.setTop (mkF m 17 #[.val (.int p1)] [])) _
        refine XS.iloadN X0.here hx rfl (hb hby d1_17) rfl ?_
        show Steps p.tables e below (s₁.setTop (mkF m 18 #[.val (.int p1)] [(.int p1)])) _
        refine XS.iconst X0.here hx rfl (hb hby d1_18) ?_
        exact kt)
      by_cases hc10 : p1 = (2 : Int32)
      case pos =>
        obtain ⟨T11, X11, e11, st11⟩ := getS2 X0 hx hZ hown (host := "") (Or.inl (hw _ (List.mem_of_getElem? (i := 27) rfl))) Via.refl e0 (tok.1 _ (List.mem_of_getElem? (i := 2) rfl) : Sta Z h0 "com/example/rorqual/rorqual/reader/JsonToken" "ARRAY_START" "Lcom/example/rorqual/rorqual/reader/JsonToken;" (.ref (pk (2 : Int32)))) (g := (mkF m 22 #[.val (.int p1)] [])) rfl (hb hby d1_22)
        have pre12 : ∀ t, Steps p.tables e below (T11.setTop (mkF m 25 #[.val (.int p1)] [(.ref (pk (2 : Int32)))])) t → Steps p.tables e below (s₁.setTop (entryFrame m #[(.int p1)] 1)) t := fun t kt => pre9 t (by
          show Steps p.tables e below (s₁.setTop (mkF m 19 #[.val (.int p1)] [(.int (2 : Int32)), (.int p1)])) _
          refine XS.icmpNo X0.here hx rfl (hb hby d1_19) rfl (teq hc10).2 ?_
          show Steps p.tables e below (s₁.setTop (mkF m 22 #[.val (.int p1)] [])) _
          refine st11 _ ?_
          exact kt)
        exact own_retA X11 hx Bd.notSynchronized rfl Bd.returns rfl (hb hby d1_25) pre12 (show Q1 p1 pk h0 n0 _ _ _ from ⟨by rw [hc10], N0, e11⟩) (by decide) (by decide)
      case neg =>
        have pre13 : ∀ t, Steps p.tables e below (s₁.setTop (mkF m 28 #[.val (.int p1)] [(.int (3 : Int32)), (.int p1)])) t → Steps p.tables e below (s₁.setTop (entryFrame m #[(.int p1)] 1)) t := fun t kt => pre9 t (by
          show Steps p.tables e below (s₁.setTop (mkF m 19 #[.val (.int p1)] [(.int (2 : Int32)), (.int p1)])) _
          refine XS.icmpYes X0.here hx rfl (pc0 := 19) (pc' := 26) rfl (hb hby d1_19) rfl (feq hc10).2 (by decide) (by decide) ?_
          show Steps p.tables e below (s₁.setTop (mkF m 26 #[.val (.int p1)] [])) _
          refine XS.iloadN X0.here hx rfl (hb hby d1_26) rfl ?_
          show Steps p.tables e below (s₁.setTop (mkF m 27 #[.val (.int p1)] [(.int p1)])) _
          refine XS.iconst X0.here hx rfl (hb hby d1_27) ?_
          exact kt)
        by_cases hc14 : p1 = (3 : Int32)
        case pos =>
          obtain ⟨T15, X15, e15, st15⟩ := getS2 X0 hx hZ hown (host := "") (Or.inl (hw _ (List.mem_of_getElem? (i := 22) rfl))) Via.refl e0 (tok.1 _ (List.mem_of_getElem? (i := 3) rfl) : Sta Z h0 "com/example/rorqual/rorqual/reader/JsonToken" "ARRAY_END" "Lcom/example/rorqual/rorqual/reader/JsonToken;" (.ref (pk (3 : Int32)))) (g := (mkF m 31 #[.val (.int p1)] [])) rfl (hb hby d1_31)
          have pre16 : ∀ t, Steps p.tables e below (T15.setTop (mkF m 34 #[.val (.int p1)] [(.ref (pk (3 : Int32)))])) t → Steps p.tables e below (s₁.setTop (entryFrame m #[(.int p1)] 1)) t := fun t kt => pre13 t (by
            show Steps p.tables e below (s₁.setTop (mkF m 28 #[.val (.int p1)] [(.int (3 : Int32)), (.int p1)])) _
            refine XS.icmpNo X0.here hx rfl (hb hby d1_28) rfl (teq hc14).2 ?_
            show Steps p.tables e below (s₁.setTop (mkF m 31 #[.val (.int p1)] [])) _
            refine st15 _ ?_
            exact kt)
          exact own_retA X15 hx Bd.notSynchronized rfl Bd.returns rfl (hb hby d1_34) pre16 (show Q1 p1 pk h0 n0 _ _ _ from ⟨by rw [hc14], N0, e15⟩) (by decide) (by decide)
        case neg =>
          have pre17 : ∀ t, Steps p.tables e below (s₁.setTop (mkF m 37 #[.val (.int p1)] [(.int (4 : Int32)), (.int p1)])) t → Steps p.tables e below (s₁.setTop (entryFrame m #[(.int p1)] 1)) t := fun t kt => pre13 t (by
            show Steps p.tables e below (s₁.setTop (mkF m 28 #[.val (.int p1)] [(.int (3 : Int32)), (.int p1)])) _
            refine XS.icmpYes X0.here hx rfl (pc0 := 28) (pc' := 35) rfl (hb hby d1_28) rfl (feq hc14).2 (by decide) (by decide) ?_
            show Steps p.tables e below (s₁.setTop (mkF m 35 #[.val (.int p1)] [])) _
            refine XS.iloadN X0.here hx rfl (hb hby d1_35) rfl ?_
            show Steps p.tables e below (s₁.setTop (mkF m 36 #[.val (.int p1)] [(.int p1)])) _
            refine XS.iconst X0.here hx rfl (hb hby d1_36) ?_
            exact kt)
          by_cases hc18 : p1 = (4 : Int32)
          case pos =>
            obtain ⟨T19, X19, e19, st19⟩ := getS2 X0 hx hZ hown (host := "") (Or.inl (hw _ (List.mem_of_getElem? (i := 37) rfl))) Via.refl e0 (tok.1 _ (List.mem_of_getElem? (i := 4) rfl) : Sta Z h0 "com/example/rorqual/rorqual/reader/JsonToken" "NAME" "Lcom/example/rorqual/rorqual/reader/JsonToken;" (.ref (pk (4 : Int32)))) (g := (mkF m 40 #[.val (.int p1)] [])) rfl (hb hby d1_40)
            have pre20 : ∀ t, Steps p.tables e below (T19.setTop (mkF m 43 #[.val (.int p1)] [(.ref (pk (4 : Int32)))])) t → Steps p.tables e below (s₁.setTop (entryFrame m #[(.int p1)] 1)) t := fun t kt => pre17 t (by
              show Steps p.tables e below (s₁.setTop (mkF m 37 #[.val (.int p1)] [(.int (4 : Int32)), (.int p1)])) _
              refine XS.icmpNo X0.here hx rfl (hb hby d1_37) rfl (teq hc18).2 ?_
              show Steps p.tables e below (s₁.setTop (mkF m 40 #[.val (.int p1)] [])) _
              refine st19 _ ?_
              exact kt)
            exact own_retA X19 hx Bd.notSynchronized rfl Bd.returns rfl (hb hby d1_43) pre20 (show Q1 p1 pk h0 n0 _ _ _ from ⟨by rw [hc18], N0, e19⟩) (by decide) (by decide)
          case neg =>
            have pre21 : ∀ t, Steps p.tables e below (s₁.setTop (mkF m 46 #[.val (.int p1)] [(.int (5 : Int32)), (.int p1)])) t → Steps p.tables e below (s₁.setTop (entryFrame m #[(.int p1)] 1)) t := fun t kt => pre17 t (by
              show Steps p.tables e below (s₁.setTop (mkF m 37 #[.val (.int p1)] [(.int (4 : Int32)), (.int p1)])) _
              refine XS.icmpYes X0.here hx rfl (pc0 := 37) (pc' := 44) rfl (hb hby d1_37) rfl (feq hc18).2 (by decide) (by decide) ?_
              show Steps p.tables e below (s₁.setTop (mkF m 44 #[.val (.int p1)] [])) _
              refine XS.iloadN X0.here hx rfl (hb hby d1_44) rfl ?_
              show Steps p.tables e below (s₁.setTop (mkF m 45 #[.val (.int p1)] [(.int p1)])) _
              refine XS.iconst X0.here hx rfl (hb hby d1_45) ?_
              exact kt)
            by_cases hc22 : p1 = (5 : Int32)
            case pos =>
              obtain ⟨T23, X23, e23, st23⟩ := getS2 X0 hx hZ hown (host := "") (Or.inl (hw _ (List.mem_of_getElem? (i := 33) rfl))) Via.refl e0 (tok.1 _ (List.mem_of_getElem? (i := 5) rfl) : Sta Z h0 "com/example/rorqual/rorqual/reader/JsonToken" "STRING" "Lcom/example/rorqual/rorqual/reader/JsonToken;" (.ref (pk (5 : Int32)))) (g := (mkF m 49 #[.val (.int p1)] [])) rfl (hb hby d1_49)
              have pre24 : ∀ t, Steps p.tables e below (T23.setTop (mkF m 52 #[.val (.int p1)] [(.ref (pk (5 : Int32)))])) t → Steps p.tables e below (s₁.setTop (entryFrame m #[(.int p1)] 1)) t := fun t kt => pre21 t (by
                show Steps p.tables e below (s₁.setTop (mkF m 46 #[.val (.int p1)] [(.int (5 : Int32)), (.int p1)])) _
                refine XS.icmpNo X0.here hx rfl (hb hby d1_46) rfl (teq hc22).2 ?_
                show Steps p.tables e below (s₁.setTop (mkF m 49 #[.val (.int p1)] [])) _
                refine st23 _ ?_
                exact kt)
              exact own_retA X23 hx Bd.notSynchronized rfl Bd.returns rfl (hb hby d1_52) pre24 (show Q1 p1 pk h0 n0 _ _ _ from ⟨by rw [hc22], N0, e23⟩) (by decide) (by decide)
            case neg =>
              have pre25 : ∀ t, Steps p.tables e below (s₁.setTop (mkF m 56 #[.val (.int p1)] [(.int (6 : Int32)), (.int p1)])) t → Steps p.tables e below (s₁.setTop (entryFrame m #[(.int p1)] 1)) t := fun t kt => pre21 t (by
                show Steps p.tables e below (s₁.setTop (mkF m 46 #[.val (.int p1)] [(.int (5 : Int32)), (.int p1)])) _
                refine XS.icmpYes X0.here hx rfl (pc0 := 46) (pc' := 53) rfl (hb hby d1_46) rfl (feq hc22).2 (by decide) (by decide) ?_
                show Steps p.tables e below (s₁.setTop (mkF m 53 #[.val (.int p1)] [])) _
                refine XS.iloadN X0.here hx rfl (hb hby d1_53) rfl ?_
                show Steps p.tables e below (s₁.setTop (mkF m 54 #[.val (.int p1)] [(.int p1)])) _
                refine XS.bipush X0.here hx rfl (hb hby d1_54) ?_
                exact kt)
              by_cases hc26 : p1 = (6 : Int32)
              case pos =>
                obtain ⟨T27, X27, e27, st27⟩ := getS2 X0 hx hZ hown (host := "") (Or.inl (hw _ (List.mem_of_getElem? (i := 35) rfl))) Via.refl e0 (tok.1 _ (List.mem_of_getElem? (i := 6) rfl) : Sta Z h0 "com/example/rorqual/rorqual/reader/JsonToken" "NUMBER" "Lcom/example/rorqual/rorqual/reader/JsonToken;" (.ref (pk (6 : Int32)))) (g := (mkF m 59 #[.val (.int p1)] [])) rfl (hb hby d1_59)
                have pre28 : ∀ t, Steps p.tables e below (T27.setTop (mkF m 62 #[.val (.int p1)] [(.ref (pk (6 : Int32)))])) t → Steps p.tables e below (s₁.setTop (entryFrame m #[(.int p1)] 1)) t := fun t kt => pre25 t (by
                  show Steps p.tables e below (s₁.setTop (mkF m 56 #[.val (.int p1)] [(.int (6 : Int32)), (.int p1)])) _
                  refine XS.icmpNo X0.here hx rfl (hb hby d1_56) rfl (teq hc26).2 ?_
                  show Steps p.tables e below (s₁.setTop (mkF m 59 #[.val (.int p1)] [])) _
                  refine st27 _ ?_
                  exact kt)
                exact own_retA X27 hx Bd.notSynchronized rfl Bd.returns rfl (hb hby d1_62) pre28 (show Q1 p1 pk h0 n0 _ _ _ from ⟨by rw [hc26], N0, e27⟩) (by decide) (by decide)
              case neg =>
                have pre29 : ∀ t, Steps p.tables e below (s₁.setTop (mkF m 66 #[.val (.int p1)] [(.int (7 : Int32)), (.int p1)])) t → Steps p.tables e below (s₁.setTop (entryFrame m #[(.int p1)] 1)) t := fun t kt => pre25 t (by
                  show Steps p.tables e below (s₁.setTop (mkF m 56 #[.val (.int p1)] [(.int (6 : Int32)), (.int p1)])) _
                  refine XS.icmpYes X0.here hx rfl (pc0 := 56) (pc' := 63) rfl (hb hby d1_56) rfl (feq hc26).2 (by decide) (by decide) ?_
                  show Steps p.tables e below (s₁.setTop (mkF m 63 #[.val (.int p1)] [])) _
                  refine XS.iloadN X0.here hx rfl (hb hby d1_63) rfl ?_
                  show Steps p.tables e below (s₁.setTop (mkF m 64 #[.val (.int p1)] [(.int p1)])) _
                  refine XS.bipush X0.here hx rfl (hb hby d1_64) ?_
                  exact kt)
                by_cases hc30 : p1 = (7 : Int32)
                case pos =>
                  obtain ⟨T31, X31, e31, st31⟩ := getS2 X0 hx hZ hown (host := "") (Or.inl (hw _ (List.mem_of_getElem? (i := 23) rfl))) Via.refl e0 (tok.1 _ (List.mem_of_getElem? (i := 7) rfl) : Sta Z h0 "com/example/rorqual/rorqual/reader/JsonToken" "TRUE" "Lcom/example/rorqual/rorqual/reader/JsonToken;" (.ref (pk (7 : Int32)))) (g := (mkF m 69 #[.val (.int p1)] [])) rfl (hb hby d1_69)
                  have pre32 : ∀ t, Steps p.tables e below (T31.setTop (mkF m 72 #[.val (.int p1)] [(.ref (pk (7 : Int32)))])) t → Steps p.tables e below (s₁.setTop (entryFrame m #[(.int p1)] 1)) t := fun t kt => pre29 t (by
                    show Steps p.tables e below (s₁.setTop (mkF m 66 #[.val (.int p1)] [(.int (7 : Int32)), (.int p1)])) _
                    refine XS.icmpNo X0.here hx rfl (hb hby d1_66) rfl (teq hc30).2 ?_
                    show Steps p.tables e below (s₁.setTop (mkF m 69 #[.val (.int p1)] [])) _
                    refine st31 _ ?_
                    exact kt)
                  exact own_retA X31 hx Bd.notSynchronized rfl Bd.returns rfl (hb hby d1_72) pre32 (show Q1 p1 pk h0 n0 _ _ _ from ⟨by rw [hc30], N0, e31⟩) (by decide) (by decide)
                case neg =>
                  have pre33 : ∀ t, Steps p.tables e below (s₁.setTop (mkF m 76 #[.val (.int p1)] [(.int (8 : Int32)), (.int p1)])) t → Steps p.tables e below (s₁.setTop (entryFrame m #[(.int p1)] 1)) t := fun t kt => pre29 t (by
                    show Steps p.tables e below (s₁.setTop (mkF m 66 #[.val (.int p1)] [(.int (7 : Int32)), (.int p1)])) _
                    refine XS.icmpYes X0.here hx rfl (pc0 := 66) (pc' := 73) rfl (hb hby d1_66) rfl (feq hc30).2 (by decide) (by decide) ?_
                    show Steps p.tables e below (s₁.setTop (mkF m 73 #[.val (.int p1)] [])) _
                    refine XS.iloadN X0.here hx rfl (hb hby d1_73) rfl ?_
                    show Steps p.tables e below (s₁.setTop (mkF m 74 #[.val (.int p1)] [(.int p1)])) _
                    refine XS.bipush X0.here hx rfl (hb hby d1_74) ?_
                    exact kt)
                  by_cases hc34 : p1 = (8 : Int32)
                  case pos =>
                    obtain ⟨T35, X35, e35, st35⟩ := getS2 X0 hx hZ hown (host := "") (Or.inl (hw _ (List.mem_of_getElem? (i := 25) rfl))) Via.refl e0 (tok.1 _ (List.mem_of_getElem? (i := 8) rfl) : Sta Z h0 "com/example/rorqual/rorqual/reader/JsonToken" "FALSE" "Lcom/example/rorqual/rorqual/reader/JsonToken;" (.ref (pk (8 : Int32)))) (g := (mkF m 79 #[.val (.int p1)] [])) rfl (hb hby d1_79)
                    have pre36 : ∀ t, Steps p.tables e below (T35.setTop (mkF m 82 #[.val (.int p1)] [(.ref (pk (8 : Int32)))])) t → Steps p.tables e below (s₁.setTop (entryFrame m #[(.int p1)] 1)) t := fun t kt => pre33 t (by
                      show Steps p.tables e below (s₁.setTop (mkF m 76 #[.val (.int p1)] [(.int (8 : Int32)), (.int p1)])) _
                      refine XS.icmpNo X0.here hx rfl (hb hby d1_76) rfl (teq hc34).2 ?_
                      show Steps p.tables e below (s₁.setTop (mkF m 79 #[.val (.int p1)] [])) _
                      refine st35 _ ?_
                      exact kt)
                    exact own_retA X35 hx Bd.notSynchronized rfl Bd.returns rfl (hb hby d1_82) pre36 (show Q1 p1 pk h0 n0 _ _ _ from ⟨by rw [hc34], N0, e35⟩) (by decide) (by decide)
                  case neg =>
                    have pre37 : ∀ t, Steps p.tables e below (s₁.setTop (mkF m 86 #[.val (.int p1)] [(.int (9 : Int32)), (.int p1)])) t → Steps p.tables e below (s₁.setTop (entryFrame m #[(.int p1)] 1)) t := fun t kt => pre33 t (by
                      show Steps p.tables e below (s₁.setTop (mkF m 76 #[.val (.int p1)] [(.int (8 : Int32)), (.int p1)])) _
                      refine XS.icmpYes X0.here hx rfl (pc0 := 76) (pc' := 83) rfl (hb hby d1_76) rfl (feq hc34).2 (by decide) (by decide) ?_
                      show Steps p.tables e below (s₁.setTop (mkF m 83 #[.val (.int p1)] [])) _
                      refine XS.iloadN X0.here hx rfl (hb hby d1_83) rfl ?_
                      show Steps p.tables e below (s₁.setTop (mkF m 84 #[.val (.int p1)] [(.int p1)])) _
                      refine XS.bipush X0.here hx rfl (hb hby d1_84) ?_
                      exact kt)
                    by_cases hc38 : p1 = (9 : Int32)
                    case pos =>
                      obtain ⟨T39, X39, e39, st39⟩ := getS2 X0 hx hZ hown (host := "") (Or.inl (hw _ (List.mem_of_getElem? (i := 31) rfl))) Via.refl e0 (tok.1 _ (List.mem_of_getElem? (i := 9) rfl) : Sta Z h0 "com/example/rorqual/rorqual/reader/JsonToken" "NULL" "Lcom/example/rorqual/rorqual/reader/JsonToken;" (.ref (pk (9 : Int32)))) (g := (mkF m 89 #[.val (.int p1)] [])) rfl (hb hby d1_89)
                      have pre40 : ∀ t, Steps p.tables e below (T39.setTop (mkF m 92 #[.val (.int p1)] [(.ref (pk (9 : Int32)))])) t → Steps p.tables e below (s₁.setTop (entryFrame m #[(.int p1)] 1)) t := fun t kt => pre37 t (by
                        show Steps p.tables e below (s₁.setTop (mkF m 86 #[.val (.int p1)] [(.int (9 : Int32)), (.int p1)])) _
                        refine XS.icmpNo X0.here hx rfl (hb hby d1_86) rfl (teq hc38).2 ?_
                        show Steps p.tables e below (s₁.setTop (mkF m 89 #[.val (.int p1)] [])) _
                        refine st39 _ ?_
                        exact kt)
                      exact own_retA X39 hx Bd.notSynchronized rfl Bd.returns rfl (hb hby d1_92) pre40 (show Q1 p1 pk h0 n0 _ _ _ from ⟨by rw [hc38], N0, e39⟩) (by decide) (by decide)
                    case neg =>
                      obtain ⟨T41, X41, e41, st41⟩ := getS2 X0 hx hZ hown (host := "") (Or.inl (hw _ (List.mem_of_getElem? (i := 29) rfl))) Via.refl e0 (tok.1 _ (List.mem_of_getElem? (i := 10) rfl) : Sta Z h0 "com/example/rorqual/rorqual/reader/JsonToken" "END_OF_TEXT" "Lcom/example/rorqual/rorqual/reader/JsonToken;" (.ref (pk (10 : Int32)))) (g := (mkF m 93 #[.val (.int p1)] [])) rfl (hb hby d1_93)
                      have h10 : p1 = (10 : Int32) := by
                        rcases hk with h | h | h | h | h | h | h | h | h | h | h
                        · exact absurd h hc2
                        · exact absurd h hc6
                        · exact absurd h hc10
                        · exact absurd h hc14
                        · exact absurd h hc18
                        · exact absurd h hc22
                        · exact absurd h hc26
                        · exact absurd h hc30
                        · exact absurd h hc34
                        · exact absurd h hc38
                        · exact h
                      have pre42 : ∀ t, Steps p.tables e below (T41.setTop (mkF m 96 #[.val (.int p1)] [(.ref (pk (10 : Int32)))])) t → Steps p.tables e below (s₁.setTop (entryFrame m #[(.int p1)] 1)) t := fun t kt => pre37 t (by
                        show Steps p.tables e below (s₁.setTop (mkF m 86 #[.val (.int p1)] [(.int (9 : Int32)), (.int p1)])) _
                        refine XS.icmpYes X0.here hx rfl (pc0 := 86) (pc' := 93) rfl (hb hby d1_86) rfl (feq hc38).2 (by decide) (by decide) ?_
                        show Steps p.tables e below (s₁.setTop (mkF m 93 #[.val (.int p1)] [])) _
                        refine st41 _ ?_
                        exact kt)
                      exact own_retA X41 hx Bd.notSynchronized rfl Bd.returns rfl (hb hby d1_96) pre42 (show Q1 p1 pk h0 n0 _ _ _ from ⟨by rw [h10], N0, e41⟩) (by decide) (by decide)
theorem ef_53 (m : MethodId) (x0 : Addr) : entryFrame m #[(.ref x0)] 1 = mkF m 0 #[.val (.ref x0)] [] := by first | (simp [entryFrame, mkF, argsToLocals, Value.category]; done) | rfl
theorem pn_54 : plainName "com/example/rorqual/rorqual/reader/JsonToken" = true := by first | (simp [plainName, overriddenIn]; done) | decide +kernel
theorem d2_0 : decode prog_48_method_4_code 0 = .ok (.aload_n 0, 1) := by decide +kernel
theorem d2_1 : decode prog_48_method_4_code 1 = .ok (.getstatic 16, 3) := by decide +kernel
theorem d2_4 : decode prog_48_method_4_code 4 = .ok (.if_acmp .eq 28, 3) := by decide +kernel
theorem d2_32 : decode prog_48_method_4_code 32 = .ok (.iconst 0, 1) := by decide +kernel
theorem d2_33 : decode prog_48_method_4_code 33 = .ok (.ireturn, 1) := by decide +kernel
theorem d2_7 : decode prog_48_method_4_code 7 = .ok (.aload_n 0, 1) := by decide +kernel
theorem d2_8 : decode prog_48_method_4_code 8 = .ok (.getstatic 7, 3) := by decide +kernel
theorem d2_11 : decode prog_48_method_4_code 11 = .ok (.if_acmp .eq 21, 3) := by decide +kernel
theorem d2_14 : decode prog_48_method_4_code 14 = .ok (.aload_n 0, 1) := by decide +kernel
theorem d2_15 : decode prog_48_method_4_code 15 = .ok (.getstatic 13, 3) := by decide +kernel
theorem d2_18 : decode prog_48_method_4_code 18 = .ok (.if_acmp .eq 14, 3) := by decide +kernel
theorem d2_21 : decode prog_48_method_4_code 21 = .ok (.aload_n 0, 1) := by decide +kernel
theorem d2_22 : decode prog_48_method_4_code 22 = .ok (.getstatic 34, 3) := by decide +kernel
theorem d2_25 : decode prog_48_method_4_code 25 = .ok (.if_acmp .eq 7, 3) := by decide +kernel
theorem d2_28 : decode prog_48_method_4_code 28 = .ok (.iconst 1, 1) := by decide +kernel
theorem d2_29 : decode prog_48_method_4_code 29 = .ok (.goto 4, 3) := by decide +kernel
def Q2 (a1 : Addr) (pk : Int32 → Addr) (h0 : Heap) (n0 : Nat) (v : Option Value) (h : Heap) (L : List Loc) : Prop := v = some (.int (if a1 = pk (4 : Int32) then (0 : Int32) else (if a1 = pk (1 : Int32) then (0 : Int32) else (if a1 = pk (3 : Int32) then (0 : Int32) else (if a1 = pk (10 : Int32) then (0 : Int32) else (1 : Int32)))))) ∧ Fr n0 L ∧ h = h0
set_option maxRecDepth 65536 in
set_option maxHeartbeats 40000000 in
theorem rm2 (l : Launch) (Z : State) (a0 : Array Value) (hw : ∀ d ∈ tables_1, d.before a0 Z = true) (ws : List Jvm.Cond) (a1 : Addr) (pk : Int32 → Addr) (h0 : Heap) (n0 : Nat) (Z0 : n0 ≤ h0.size) (tok : Tok Z h0 pk) :
    MetFree l (⟨"com/example/rorqual/rorqual/reader/JsonToken", "beginsValue", "()Z"⟩ : MethodName) (head1 (Jvm.Cond.code (⟨"com/example/rorqual/rorqual/reader/JsonToken", "beginsValue", "()Z"⟩ : MethodName) prog_48_method_4_code 1 (some .boolean) :: ws) ({ frames := 0, cells := 0, slots := 0, locals := 0 } : Room)) (fun a U => a = #[(.ref a1)] ∧ Z.Warmed39 U.vm ∧ U.heap = h0) (fun _ _ _ _ _ => True) (fun _ U o U' => ∃ v L, o = .returned v ∧ Q2 a1 pk h0 n0 v U'.heap L ∧ FrameEnd U o U' L ({ frames := 0, cells := 0, slots := 0, locals := 0 } : Room).cells ({ frames := 0, cells := 0, slots := 0, locals := 0 } : Room).slots) := by
  refine MetFree.of_bodySF (plainFor_of_name pn_54) hisR ?_
  intro p e s m args below meth c s₁ Bd hml0 hP hK
  obtain ⟨rfl, hZ, hh⟩ := hP
  have hx := Bd.exec
  have hby := Bd.bytes
  have hml : c.maxLocals = 1 := hml0
  have hown : s.vm.findClass "com/example/rorqual/rorqual/reader/JsonToken" = some m.cls := findClass_of_methodNamed Bd.named
  have hnm := (name_of_methodNamed Bd.named Bd.method).1
  have X0 : Stand p l e ({ frames := 0, cells := 0, slots := 0, locals := 0 } : Room) s m #[(.ref a1)] below meth c s₁ [] 0 0 := Stand.of_body Bd
  have e0 : s₁.heap = h0 := by rw [← hh, Bd.state]; rfl
  have N0 := Fr.nil n0
  have pre0 : ∀ t, Steps p.tables e below (s₁.setTop (mkF m 0 #[.val (.ref a1)] [])) t → Steps p.tables e below (s₁.setTop (entryFrame m #[(.ref a1)] 1)) t := fun t k => castTop (ef_53 m a1) k
  obtain ⟨T43, X43, e43, st43⟩ := getS2 X0 hx hZ hown (host := "") (Or.inl (hw _ (List.mem_of_getElem? (i := 14) rfl))) Via.refl e0 (tok.1 _ (List.mem_of_getElem? (i := 4) rfl) : Sta Z h0 "com/example/rorqual/rorqual/reader/JsonToken" "NAME" "Lcom/example/rorqual/rorqual/reader/JsonToken;" (.ref (pk (4 : Int32)))) (g := (mkF m 1 #[.val (.ref a1)] [(.ref a1)])) rfl (hb hby d2_1)
  have pre44 : ∀ t, Steps p.tables e below (T43.setTop (mkF m 4 #[.val (.ref a1)] [(.ref (pk (4 : Int32))), (.ref a1)])) t → Steps p.tables e below (s₁.setTop (entryFrame m #[(.ref a1)] 1)) t := fun t kt => pre0 t (by
    show Steps p.tables e below (s₁.setTop (mkF m 0 #[.val (.ref a1)] [])) _
    refine XS.aloadN X0.here hx rfl (hb hby d2_0) rfl rfl ?_
    show Steps p.tables e below (s₁.setTop (mkF m 1 #[.val (.ref a1)] [(.ref a1)])) _
    refine st43 _ ?_
    exact kt)
  by_cases hc45 : a1 = pk (4 : Int32)
  case pos =>
    have pre46 : ∀ t, Steps p.tables e below (T43.setTop (mkF m 33 #[.val (.ref a1)] [(.int (0 : Int32))])) t → Steps p.tables e below (s₁.setTop (entryFrame m #[(.ref a1)] 1)) t := fun t kt => pre44 t (by
      show Steps p.tables e below (T43.setTop (mkF m 4 #[.val (.ref a1)] [(.ref (pk (4 : Int32))), (.ref a1)])) _
      refine Jvm.RoadKit.acmp (g := (mkF m 4 #[.val (.ref a1)] [(.ref (pk (4 : Int32))), (.ref a1)])) X43 hx rfl rfl rfl (pc0 := 4) (pc' := 32) (same := true) rfl (hb hby d2_4) rfl (decide_eq_true (congrArg Value.ref hc45)) (by decide) (by decide) ?_
      show Steps p.tables e below (T43.setTop (mkF m 32 #[.val (.ref a1)] [])) _
      refine XS.iconst X43.here hx rfl (hb hby d2_32) ?_
      exact kt)
    exact own_retN X43 hx Bd.notSynchronized (t := .boolean) Bd.returns (by simp) (hb hby d2_33) pre46 (show Q2 a1 pk h0 n0 _ _ _ from ⟨congrArg (fun z => some (Value.int z)) (show _ = (if a1 = pk (4 : Int32) then (0 : Int32) else (if a1 = pk (1 : Int32) then (0 : Int32) else (if a1 = pk (3 : Int32) then (0 : Int32) else (if a1 = pk (10 : Int32) then (0 : Int32) else (1 : Int32))))) from ((if_pos hc45)).symm), N0, e43⟩) (by decide) (by decide)
  case neg =>
    obtain ⟨T47, X47, e47, st47⟩ := getS2 X43 hx hZ hown (host := "") (Or.inl (hw _ (List.mem_of_getElem? (i := 16) rfl))) Via.refl e43 (tok.1 _ (List.mem_of_getElem? (i := 1) rfl) : Sta Z h0 "com/example/rorqual/rorqual/reader/JsonToken" "OBJECT_END" "Lcom/example/rorqual/rorqual/reader/JsonToken;" (.ref (pk (1 : Int32)))) (g := (mkF m 8 #[.val (.ref a1)] [(.ref a1)])) rfl (hb hby d2_8)
    have pre48 : ∀ t, Steps p.tables e below (T47.setTop (mkF m 11 #[.val (.ref a1)] [(.ref (pk (1 : Int32))), (.ref a1)])) t → Steps p.tables e below (s₁.setTop (entryFrame m #[(.ref a1)] 1)) t := fun t kt => pre44 t (by
      show Steps p.tables e below (T43.setTop (mkF m 4 #[.val (.ref a1)] [(.ref (pk (4 : Int32))), (.ref a1)])) _
      refine Jvm.RoadKit.acmp (g := (mkF m 4 #[.val (.ref a1)] [(.ref (pk (4 : Int32))), (.ref a1)])) X43 hx rfl rfl rfl (pc0 := 4) (pc' := 7) (same := false) rfl (hb hby d2_4) rfl (decide_eq_false fun q => hc45 (Value.ref.inj q)) (by decide) (by decide) ?_
      show Steps p.tables e below (T43.setTop (mkF m 7 #[.val (.ref a1)] [])) _
      refine XS.aloadN X43.here hx rfl (hb hby d2_7) rfl rfl ?_
      show Steps p.tables e below (T43.setTop (mkF m 8 #[.val (.ref a1)] [(.ref a1)])) _
      refine st47 _ ?_
      exact kt)
    by_cases hc49 : a1 = pk (1 : Int32)
    case pos =>
      have pre50 : ∀ t, Steps p.tables e below (T47.setTop (mkF m 33 #[.val (.ref a1)] [(.int (0 : Int32))])) t → Steps p.tables e below (s₁.setTop (entryFrame m #[(.ref a1)] 1)) t := fun t kt => pre48 t (by
        show Steps p.tables e below (T47.setTop (mkF m 11 #[.val (.ref a1)] [(.ref (pk (1 : Int32))), (.ref a1)])) _
        refine Jvm.RoadKit.acmp (g := (mkF m 11 #[.val (.ref a1)] [(.ref (pk (1 : Int32))), (.ref a1)])) X47 hx rfl rfl rfl (pc0 := 11) (pc' := 32) (same := true) rfl (hb hby d2_11) rfl (decide_eq_true (congrArg Value.ref hc49)) (by decide) (by decide) ?_
        show Steps p.tables e below (T47.setTop (mkF m 32 #[.val (.ref a1)] [])) _
        refine XS.iconst X47.here hx rfl (hb hby d2_32) ?_
        exact kt)
      exact own_retN X47 hx Bd.notSynchronized (t := .boolean) Bd.returns (by simp) (hb hby d2_33) pre50 (show Q2 a1 pk h0 n0 _ _ _ from ⟨congrArg (fun z => some (Value.int z)) (show _ = (if a1 = pk (4 : Int32) then (0 : Int32) else (if a1 = pk (1 : Int32) then (0 : Int32) else (if a1 = pk (3 : Int32) then (0 : Int32) else (if a1 = pk (10 : Int32) then (0 : Int32) else (1 : Int32))))) from (((if_neg hc45).trans (if_pos hc49))).symm), N0, e47⟩) (by decide) (by decide)
    case neg =>
      obtain ⟨T51, X51, e51, st51⟩ := getS2 X47 hx hZ hown (host := "") (Or.inl (hw _ (List.mem_of_getElem? (i := 18) rfl))) Via.refl e47 (tok.1 _ (List.mem_of_getElem? (i := 3) rfl) : Sta Z h0 "com/example/rorqual/rorqual/reader/JsonToken" "ARRAY_END" "Lcom/example/rorqual/rorqual/reader/JsonToken;" (.ref (pk (3 : Int32)))) (g := (mkF m 15 #[.val (.ref a1)] [(.ref a1)])) rfl (hb hby d2_15)
      have pre52 : ∀ t, Steps p.tables e below (T51.setTop (mkF m 18 #[.val (.ref a1)] [(.ref (pk (3 : Int32))), (.ref a1)])) t → Steps p.tables e below (s₁.setTop (entryFrame m #[(.ref a1)] 1)) t := fun t kt => pre48 t (by
        show Steps p.tables e below (T47.setTop (mkF m 11 #[.val (.ref a1)] [(.ref (pk (1 : Int32))), (.ref a1)])) _
        refine Jvm.RoadKit.acmp (g := (mkF m 11 #[.val (.ref a1)] [(.ref (pk (1 : Int32))), (.ref a1)])) X47 hx rfl rfl rfl (pc0 := 11) (pc' := 14) (same := false) rfl (hb hby d2_11) rfl (decide_eq_false fun q => hc49 (Value.ref.inj q)) (by decide) (by decide) ?_
        show Steps p.tables e below (T47.setTop (mkF m 14 #[.val (.ref a1)] [])) _
        refine XS.aloadN X47.here hx rfl (hb hby d2_14) rfl rfl ?_
        show Steps p.tables e below (T47.setTop (mkF m 15 #[.val (.ref a1)] [(.ref a1)])) _
        refine st51 _ ?_
        exact kt)
      by_cases hc53 : a1 = pk (3 : Int32)
      case pos =>
        have pre54 : ∀ t, Steps p.tables e below (T51.setTop (mkF m 33 #[.val (.ref a1)] [(.int (0 : Int32))])) t → Steps p.tables e below (s₁.setTop (entryFrame m #[(.ref a1)] 1)) t := fun t kt => pre52 t (by
          show Steps p.tables e below (T51.setTop (mkF m 18 #[.val (.ref a1)] [(.ref (pk (3 : Int32))), (.ref a1)])) _
          refine Jvm.RoadKit.acmp (g := (mkF m 18 #[.val (.ref a1)] [(.ref (pk (3 : Int32))), (.ref a1)])) X51 hx rfl rfl rfl (pc0 := 18) (pc' := 32) (same := true) rfl (hb hby d2_18) rfl (decide_eq_true (congrArg Value.ref hc53)) (by decide) (by decide) ?_
          show Steps p.tables e below (T51.setTop (mkF m 32 #[.val (.ref a1)] [])) _
          refine XS.iconst X51.here hx rfl (hb hby d2_32) ?_
          exact kt)
        exact own_retN X51 hx Bd.notSynchronized (t := .boolean) Bd.returns (by simp) (hb hby d2_33) pre54 (show Q2 a1 pk h0 n0 _ _ _ from ⟨congrArg (fun z => some (Value.int z)) (show _ = (if a1 = pk (4 : Int32) then (0 : Int32) else (if a1 = pk (1 : Int32) then (0 : Int32) else (if a1 = pk (3 : Int32) then (0 : Int32) else (if a1 = pk (10 : Int32) then (0 : Int32) else (1 : Int32))))) from ((((if_neg hc45).trans (if_neg hc49)).trans (if_pos hc53))).symm), N0, e51⟩) (by decide) (by decide)
      case neg =>
        obtain ⟨T55, X55, e55, st55⟩ := getS2 X51 hx hZ hown (host := "") (Or.inl (hw _ (List.mem_of_getElem? (i := 20) rfl))) Via.refl e51 (tok.1 _ (List.mem_of_getElem? (i := 10) rfl) : Sta Z h0 "com/example/rorqual/rorqual/reader/JsonToken" "END_OF_TEXT" "Lcom/example/rorqual/rorqual/reader/JsonToken;" (.ref (pk (10 : Int32)))) (g := (mkF m 22 #[.val (.ref a1)] [(.ref a1)])) rfl (hb hby d2_22)
        have pre56 : ∀ t, Steps p.tables e below (T55.setTop (mkF m 25 #[.val (.ref a1)] [(.ref (pk (10 : Int32))), (.ref a1)])) t → Steps p.tables e below (s₁.setTop (entryFrame m #[(.ref a1)] 1)) t := fun t kt => pre52 t (by
          show Steps p.tables e below (T51.setTop (mkF m 18 #[.val (.ref a1)] [(.ref (pk (3 : Int32))), (.ref a1)])) _
          refine Jvm.RoadKit.acmp (g := (mkF m 18 #[.val (.ref a1)] [(.ref (pk (3 : Int32))), (.ref a1)])) X51 hx rfl rfl rfl (pc0 := 18) (pc' := 21) (same := false) rfl (hb hby d2_18) rfl (decide_eq_false fun q => hc53 (Value.ref.inj q)) (by decide) (by decide) ?_
          show Steps p.tables e below (T51.setTop (mkF m 21 #[.val (.ref a1)] [])) _
          refine XS.aloadN X51.here hx rfl (hb hby d2_21) rfl rfl ?_
          show Steps p.tables e below (T51.setTop (mkF m 22 #[.val (.ref a1)] [(.ref a1)])) _
          refine st55 _ ?_
          exact kt)
        by_cases hc57 : a1 = pk (10 : Int32)
        case pos =>
          have pre58 : ∀ t, Steps p.tables e below (T55.setTop (mkF m 33 #[.val (.ref a1)] [(.int (0 : Int32))])) t → Steps p.tables e below (s₁.setTop (entryFrame m #[(.ref a1)] 1)) t := fun t kt => pre56 t (by
            show Steps p.tables e below (T55.setTop (mkF m 25 #[.val (.ref a1)] [(.ref (pk (10 : Int32))), (.ref a1)])) _
            refine Jvm.RoadKit.acmp (g := (mkF m 25 #[.val (.ref a1)] [(.ref (pk (10 : Int32))), (.ref a1)])) X55 hx rfl rfl rfl (pc0 := 25) (pc' := 32) (same := true) rfl (hb hby d2_25) rfl (decide_eq_true (congrArg Value.ref hc57)) (by decide) (by decide) ?_
            show Steps p.tables e below (T55.setTop (mkF m 32 #[.val (.ref a1)] [])) _
            refine XS.iconst X55.here hx rfl (hb hby d2_32) ?_
            exact kt)
          exact own_retN X55 hx Bd.notSynchronized (t := .boolean) Bd.returns (by simp) (hb hby d2_33) pre58 (show Q2 a1 pk h0 n0 _ _ _ from ⟨congrArg (fun z => some (Value.int z)) (show _ = (if a1 = pk (4 : Int32) then (0 : Int32) else (if a1 = pk (1 : Int32) then (0 : Int32) else (if a1 = pk (3 : Int32) then (0 : Int32) else (if a1 = pk (10 : Int32) then (0 : Int32) else (1 : Int32))))) from (((((if_neg hc45).trans (if_neg hc49)).trans (if_neg hc53)).trans (if_pos hc57))).symm), N0, e55⟩) (by decide) (by decide)
        case neg =>
          have pre59 : ∀ t, Steps p.tables e below (T55.setTop (mkF m 33 #[.val (.ref a1)] [(.int (1 : Int32))])) t → Steps p.tables e below (s₁.setTop (entryFrame m #[(.ref a1)] 1)) t := fun t kt => pre56 t (by
            show Steps p.tables e below (T55.setTop (mkF m 25 #[.val (.ref a1)] [(.ref (pk (10 : Int32))), (.ref a1)])) _
            refine Jvm.RoadKit.acmp (g := (mkF m 25 #[.val (.ref a1)] [(.ref (pk (10 : Int32))), (.ref a1)])) X55 hx rfl rfl rfl (pc0 := 25) (pc' := 28) (same := false) rfl (hb hby d2_25) rfl (decide_eq_false fun q => hc57 (Value.ref.inj q)) (by decide) (by decide) ?_
            show Steps p.tables e below (T55.setTop (mkF m 28 #[.val (.ref a1)] [])) _
            refine XS.iconst X55.here hx rfl (hb hby d2_28) ?_
            show Steps p.tables e below (T55.setTop (mkF m 29 #[.val (.ref a1)] [(.int (1 : Int32))])) _
            refine XS.goto X55.here hx rfl (pc0 := 29) (pc' := 33) rfl (hb hby d2_29) (by decide) (by decide) ?_
            exact kt)
          exact own_retN X55 hx Bd.notSynchronized (t := .boolean) Bd.returns (by simp) (hb hby d2_33) pre59 (show Q2 a1 pk h0 n0 _ _ _ from ⟨congrArg (fun z => some (Value.int z)) (show _ = (if a1 = pk (4 : Int32) then (0 : Int32) else (if a1 = pk (1 : Int32) then (0 : Int32) else (if a1 = pk (3 : Int32) then (0 : Int32) else (if a1 = pk (10 : Int32) then (0 : Int32) else (1 : Int32))))) from (((((if_neg hc45).trans (if_neg hc49)).trans (if_neg hc53)).trans (if_neg hc57))).symm), N0, e55⟩) (by decide) (by decide)
theorem ef_71 (m : MethodId) (x0 : Int32) : entryFrame m #[(.int x0)] maxLocals = mkF m 0 #[.val (.int x0), .unset, .unset, .unset] [] := by first | (simp [entryFrame, mkF, argsToLocals, Value.category, maxLocals]; done) | rfl
theorem pd_72 : parseMethodDescriptor "(I)Lcom/example/rorqual/rorqual/reader/JsonToken;" = some ⟨[.int], some (.object "com/example/rorqual/rorqual/reader/JsonToken")⟩ := by decide +kernel
theorem pd_73 : parseMethodDescriptor "()Z" = some ⟨[], some .boolean⟩ := by decide +kernel
def Q0 (h0 : Heap) (n0 : Nat) (v : Option Value) (h : Heap) (L : List Loc) : Prop := v = some (.int (1 : Int32)) ∧ Fr n0 L
set_option maxRecDepth 65536 in
set_option maxHeartbeats 40000000 in
theorem rm0 (l : Launch) (Z : State) (a0 : Array Value) (hw : ∀ d ∈ tables_1, d.before a0 Z = true) (ws : List Jvm.Cond) (p1 : Int32) (pk : Int32 → Addr) (h0 : Heap) (n0 : Nat) (Z0 : n0 ≤ h0.size) (tok : Tok Z h0 pk) (hinj : ∀ i ∈ own_names, ∀ j ∈ own_names, pk i.1 = pk j.1 → i.1 = j.1) :
    MetFree l x (head1 (Jvm.Cond.code x code maxLocals ret :: ws) room_1) (fun a U => a = #[(.int p1)] ∧ Z.Warmed39 U.vm ∧ U.heap = h0) (fun _ _ _ _ _ => True) (fun _ U o U' => ∃ v L, o = .returned v ∧ Q0 h0 n0 v U'.heap L ∧ FrameEnd U o U' L room_1.cells room_1.slots) := by
  refine MetFree.of_bodySF (plainFor_of_name pn_1) hisR ?_
  intro p e s m args below meth c s₁ Bd hml0 hP hK
  obtain ⟨rfl, hZ, hh⟩ := hP
  have hx := Bd.exec
  have hby := Bd.bytes
  have hml : c.maxLocals = 4 := hml0
  have hown : s.vm.findClass "com/example/rorqual/rorqual/reader/JsonTokenBeginsValuePinLaw" = some m.cls := findClass_of_methodNamed Bd.named
  have hnm := (name_of_methodNamed Bd.named Bd.method).1
  have X0 : Stand p l e room_1 s m #[(.int p1)] below meth c s₁ [] 0 0 := Stand.of_body Bd
  have e0 : s₁.heap = h0 := by rw [← hh, Bd.state]; rfl
  have N0 := Fr.nil n0
  have pre0 : ∀ t, Steps p.tables e below (s₁.setTop (mkF m 0 #[.val (.int p1), .unset, .unset, .unset] [])) t → Steps p.tables e below (s₁.setTop (entryFrame m #[(.int p1)] maxLocals)) t := fun t k => castTop (ef_71 m p1) k
  have pre60 : ∀ t, Steps p.tables e below (s₁.setTop (mkF m 7 #[.val (.int p1), .unset, .unset, .unset] [(.int ((p1 &&& (2147483647 : Int32)) - (p1 &&& (2147483647 : Int32)) / (11 : Int32) * (11 : Int32)))])) t → Steps p.tables e below (s₁.setTop (entryFrame m #[(.int p1)] maxLocals)) t := fun t kt => pre0 t (by
    show Steps p.tables e below (s₁.setTop (mkF m 0 #[.val (.int p1), .unset, .unset, .unset] [])) _
    refine XS.iloadN X0.here hx rfl (hb hby at_0) rfl ?_
    show Steps p.tables e below (s₁.setTop (mkF m 1 #[.val (.int p1), .unset, .unset, .unset] [(.int p1)])) _
    refine X0.ldcInt hx hown (mvT hZ (hw _ (List.mem_of_getElem? (i := 0) rfl))) (g := (mkF m 1 #[.val (.int p1), .unset, .unset, .unset] [(.int p1)])) rfl (hb hby at_1) _ ?_
    show Steps p.tables e below (s₁.setTop (mkF m 3 #[.val (.int p1), .unset, .unset, .unset] [(.int (2147483647 : Int32)), (.int p1)])) _
    refine XS.iand X0.here hx rfl (hb hby at_3) rfl ?_
    show Steps p.tables e below (s₁.setTop (mkF m 4 #[.val (.int p1), .unset, .unset, .unset] [(.int (p1 &&& (2147483647 : Int32)))])) _
    refine XS.bipush X0.here hx rfl (hb hby at_4) ?_
    show Steps p.tables e below (s₁.setTop (mkF m 6 #[.val (.int p1), .unset, .unset, .unset] [(.int (11 : Int32)), (.int (p1 &&& (2147483647 : Int32)))])) _
    refine XS.irem X0.here hx rfl (hb hby at_6) rfl (by decide) ?_
    exact kt)
  obtain ⟨kk, hkk⟩ : ∃ z : Int32, z = ((p1 &&& (2147483647 : Int32)) - (p1 &&& (2147483647 : Int32)) / (11 : Int32) * (11 : Int32)) := ⟨_, rfl⟩
  have pre61 : ∀ t, Steps p.tables e below (s₁.setTop (mkF m 7 #[.val (.int p1), .unset, .unset, .unset] [(.int kk)])) t → Steps p.tables e below (s₁.setTop (entryFrame m #[(.int p1)] maxLocals)) t := by rw [hkk]; exact pre60
  have hk := own_k p1 kk hkk
  obtain ⟨T62, h62, k62, X62, e62, E62, A62, st62⟩ := newP X0 hx hZ (hw _ (List.mem_of_getElem? (i := 1) rfl)) e0 (g := (mkF m 10 #[.val (.int p1), .val (.int kk), .unset, .unset] [(.int (11 : Int32))])) rfl (hb hby at_10) rfl (by decide) (cap := 11) (by decide) (by decide) (by decide) (by decide)
  obtain ⟨b62, g62⟩ : ∃ z, z = h0.size := ⟨_, rfl⟩
  rw [← g62] at A62 st62
  have G62 : n0 ≤ b62 := Nat.le_trans Z0 (Nat.le_of_eq g62.symm)
  have c63 := tok.ext E62
  have z64 : n0 ≤ h62.size := Nat.le_trans Z0 E62.1
  have V62 : Arv Z h62 b62 k62 .boolean (11 : Int32) [(.int (0 : Int32)), (.int (0 : Int32)), (.int (0 : Int32)), (.int (0 : Int32)), (.int (0 : Int32)), (.int (0 : Int32)), (.int (0 : Int32)), (.int (0 : Int32)), (.int (0 : Int32)), (.int (0 : Int32)), (.int (0 : Int32))] (.int (0 : Int32)) := (Arv.new A62 (by decide)).pad (pad_rep [] (.int (0 : Int32)) 11)
  obtain ⟨cl65, Ar65, q65, S65, M65, H65, J65⟩ := id V62
  have hin65 : ¬ ((0 : Int32) < 0 ∨ cl65.slots.size ≤ ((0 : Int32)).toNatClampNeg) := inb_of S65 ⟨by decide, by decide⟩
  obtain ⟨T66, h66, X66, e66, W66, st66⟩ := stZ X62 hx hZ e62 Ar65 (j := (0 : Int32)) hin65 (g := (mkF m 15 #[.val (.int p1), .val (.int kk), .unset, .unset] [(.int (1 : Int32)), (.int (0 : Int32)), (.ref b62), (.ref b62)])) rfl rfl (hb hby at_15)
  have V66 : Arv Z h66 b62 k62 .boolean (11 : Int32) [(.int (1 : Int32)), (.int (0 : Int32)), (.int (0 : Int32)), (.int (0 : Int32)), (.int (0 : Int32)), (.int (0 : Int32)), (.int (0 : Int32)), (.int (0 : Int32)), (.int (0 : Int32)), (.int (0 : Int32)), (.int (0 : Int32))] (.int (0 : Int32)) := Arv.set Ar65 q65 S65 M65 H65 J65 (fits_nar_bool _) W66 0 rfl (Nat.le_of_ble_eq_true rfl)
  have N66 := Fr.snoc X66 N0 G62
  have z67 : n0 ≤ h66.size := Nat.le_trans z64 (Keep.of_wr W66).1
  have c68 := c63.wr W66
  obtain ⟨cl70, Ar70, q70, S70, M70, H70, J70⟩ := id V66
  have hin70 : ¬ ((1 : Int32) < 0 ∨ cl70.slots.size ≤ ((1 : Int32)).toNatClampNeg) := inb_of S70 ⟨by decide, by decide⟩
  obtain ⟨T71, h71, X71, e71, W71, st71⟩ := stZ X66 hx hZ e66 Ar70 (j := (1 : Int32)) hin70 (g := (mkF m 19 #[.val (.int p1), .val (.int kk), .unset, .unset] [(.int (0 : Int32)), (.int (1 : Int32)), (.ref b62), (.ref b62)])) rfl rfl (hb hby at_19)
  have V71 : Arv Z h71 b62 k62 .boolean (11 : Int32) [(.int (1 : Int32)), (.int (0 : Int32)), (.int (0 : Int32)), (.int (0 : Int32)), (.int (0 : Int32)), (.int (0 : Int32)), (.int (0 : Int32)), (.int (0 : Int32)), (.int (0 : Int32)), (.int (0 : Int32)), (.int (0 : Int32))] (.int (0 : Int32)) := Arv.set Ar70 q70 S70 M70 H70 J70 (fits_nar_bool _) W71 1 rfl (Nat.le_of_ble_eq_true rfl)
  have N71 := Fr.snoc X71 N66 G62
  have z72 : n0 ≤ h71.size := Nat.le_trans z67 (Keep.of_wr W71).1
  have c73 := c68.wr W71
  obtain ⟨cl75, Ar75, q75, S75, M75, H75, J75⟩ := id V71
  have hin75 : ¬ ((2 : Int32) < 0 ∨ cl75.slots.size ≤ ((2 : Int32)).toNatClampNeg) := inb_of S75 ⟨by decide, by decide⟩
  obtain ⟨T76, h76, X76, e76, W76, st76⟩ := stZ X71 hx hZ e71 Ar75 (j := (2 : Int32)) hin75 (g := (mkF m 23 #[.val (.int p1), .val (.int kk), .unset, .unset] [(.int (1 : Int32)), (.int (2 : Int32)), (.ref b62), (.ref b62)])) rfl rfl (hb hby at_23)
  have V76 : Arv Z h76 b62 k62 .boolean (11 : Int32) [(.int (1 : Int32)), (.int (0 : Int32)), (.int (1 : Int32)), (.int (0 : Int32)), (.int (0 : Int32)), (.int (0 : Int32)), (.int (0 : Int32)), (.int (0 : Int32)), (.int (0 : Int32)), (.int (0 : Int32)), (.int (0 : Int32))] (.int (0 : Int32)) := Arv.set Ar75 q75 S75 M75 H75 J75 (fits_nar_bool _) W76 2 rfl (Nat.le_of_ble_eq_true rfl)
  have N76 := Fr.snoc X76 N71 G62
  have z77 : n0 ≤ h76.size := Nat.le_trans z72 (Keep.of_wr W76).1
  have c78 := c73.wr W76
  obtain ⟨cl80, Ar80, q80, S80, M80, H80, J80⟩ := id V76
  have hin80 : ¬ ((3 : Int32) < 0 ∨ cl80.slots.size ≤ ((3 : Int32)).toNatClampNeg) := inb_of S80 ⟨by decide, by decide⟩
  obtain ⟨T81, h81, X81, e81, W81, st81⟩ := stZ X76 hx hZ e76 Ar80 (j := (3 : Int32)) hin80 (g := (mkF m 27 #[.val (.int p1), .val (.int kk), .unset, .unset] [(.int (0 : Int32)), (.int (3 : Int32)), (.ref b62), (.ref b62)])) rfl rfl (hb hby at_27)
  have V81 : Arv Z h81 b62 k62 .boolean (11 : Int32) [(.int (1 : Int32)), (.int (0 : Int32)), (.int (1 : Int32)), (.int (0 : Int32)), (.int (0 : Int32)), (.int (0 : Int32)), (.int (0 : Int32)), (.int (0 : Int32)), (.int (0 : Int32)), (.int (0 : Int32)), (.int (0 : Int32))] (.int (0 : Int32)) := Arv.set Ar80 q80 S80 M80 H80 J80 (fits_nar_bool _) W81 3 rfl (Nat.le_of_ble_eq_true rfl)
  have N81 := Fr.snoc X81 N76 G62
  have z82 : n0 ≤ h81.size := Nat.le_trans z77 (Keep.of_wr W81).1
  have c83 := c78.wr W81
  obtain ⟨cl85, Ar85, q85, S85, M85, H85, J85⟩ := id V81
  have hin85 : ¬ ((4 : Int32) < 0 ∨ cl85.slots.size ≤ ((4 : Int32)).toNatClampNeg) := inb_of S85 ⟨by decide, by decide⟩
  obtain ⟨T86, h86, X86, e86, W86, st86⟩ := stZ X81 hx hZ e81 Ar85 (j := (4 : Int32)) hin85 (g := (mkF m 31 #[.val (.int p1), .val (.int kk), .unset, .unset] [(.int (0 : Int32)), (.int (4 : Int32)), (.ref b62), (.ref b62)])) rfl rfl (hb hby at_31)
  have V86 : Arv Z h86 b62 k62 .boolean (11 : Int32) [(.int (1 : Int32)), (.int (0 : Int32)), (.int (1 : Int32)), (.int (0 : Int32)), (.int (0 : Int32)), (.int (0 : Int32)), (.int (0 : Int32)), (.int (0 : Int32)), (.int (0 : Int32)), (.int (0 : Int32)), (.int (0 : Int32))] (.int (0 : Int32)) := Arv.set Ar85 q85 S85 M85 H85 J85 (fits_nar_bool _) W86 4 rfl (Nat.le_of_ble_eq_true rfl)
  have N86 := Fr.snoc X86 N81 G62
  have z87 : n0 ≤ h86.size := Nat.le_trans z82 (Keep.of_wr W86).1
  have c88 := c83.wr W86
  obtain ⟨cl90, Ar90, q90, S90, M90, H90, J90⟩ := id V86
  have hin90 : ¬ ((5 : Int32) < 0 ∨ cl90.slots.size ≤ ((5 : Int32)).toNatClampNeg) := inb_of S90 ⟨by decide, by decide⟩
  obtain ⟨T91, h91, X91, e91, W91, st91⟩ := stZ X86 hx hZ e86 Ar90 (j := (5 : Int32)) hin90 (g := (mkF m 35 #[.val (.int p1), .val (.int kk), .unset, .unset] [(.int (1 : Int32)), (.int (5 : Int32)), (.ref b62), (.ref b62)])) rfl rfl (hb hby at_35)
  have V91 : Arv Z h91 b62 k62 .boolean (11 : Int32) [(.int (1 : Int32)), (.int (0 : Int32)), (.int (1 : Int32)), (.int (0 : Int32)), (.int (0 : Int32)), (.int (1 : Int32)), (.int (0 : Int32)), (.int (0 : Int32)), (.int (0 : Int32)), (.int (0 : Int32)), (.int (0 : Int32))] (.int (0 : Int32)) := Arv.set Ar90 q90 S90 M90 H90 J90 (fits_nar_bool _) W91 5 rfl (Nat.le_of_ble_eq_true rfl)
  have N91 := Fr.snoc X91 N86 G62
  have z92 : n0 ≤ h91.size := Nat.le_trans z87 (Keep.of_wr W91).1
  have c93 := c88.wr W91
  obtain ⟨cl95, Ar95, q95, S95, M95, H95, J95⟩ := id V91
  have hin95 : ¬ ((6 : Int32) < 0 ∨ cl95.slots.size ≤ ((6 : Int32)).toNatClampNeg) := inb_of S95 ⟨by decide, by decide⟩
  obtain ⟨T96, h96, X96, e96, W96, st96⟩ := stZ X91 hx hZ e91 Ar95 (j := (6 : Int32)) hin95 (g := (mkF m 40 #[.val (.int p1), .val (.int kk), .unset, .unset] [(.int (1 : Int32)), (.int (6 : Int32)), (.ref b62), (.ref b62)])) rfl rfl (hb hby at_40)
  have V96 : Arv Z h96 b62 k62 .boolean (11 : Int32) [(.int (1 : Int32)), (.int (0 : Int32)), (.int (1 : Int32)), (.int (0 : Int32)), (.int (0 : Int32)), (.int (1 : Int32)), (.int (1 : Int32)), (.int (0 : Int32)), (.int (0 : Int32)), (.int (0 : Int32)), (.int (0 : Int32))] (.int (0 : Int32)) := Arv.set Ar95 q95 S95 M95 H95 J95 (fits_nar_bool _) W96 6 rfl (Nat.le_of_ble_eq_true rfl)
  have N96 := Fr.snoc X96 N91 G62
  have z97 : n0 ≤ h96.size := Nat.le_trans z92 (Keep.of_wr W96).1
  have c98 := c93.wr W96
  obtain ⟨cl100, Ar100, q100, S100, M100, H100, J100⟩ := id V96
  have hin100 : ¬ ((7 : Int32) < 0 ∨ cl100.slots.size ≤ ((7 : Int32)).toNatClampNeg) := inb_of S100 ⟨by decide, by decide⟩
  obtain ⟨T101, h101, X101, e101, W101, st101⟩ := stZ X96 hx hZ e96 Ar100 (j := (7 : Int32)) hin100 (g := (mkF m 45 #[.val (.int p1), .val (.int kk), .unset, .unset] [(.int (1 : Int32)), (.int (7 : Int32)), (.ref b62), (.ref b62)])) rfl rfl (hb hby at_45)
  have V101 : Arv Z h101 b62 k62 .boolean (11 : Int32) [(.int (1 : Int32)), (.int (0 : Int32)), (.int (1 : Int32)), (.int (0 : Int32)), (.int (0 : Int32)), (.int (1 : Int32)), (.int (1 : Int32)), (.int (1 : Int32)), (.int (0 : Int32)), (.int (0 : Int32)), (.int (0 : Int32))] (.int (0 : Int32)) := Arv.set Ar100 q100 S100 M100 H100 J100 (fits_nar_bool _) W101 7 rfl (Nat.le_of_ble_eq_true rfl)
  have N101 := Fr.snoc X101 N96 G62
  have z102 : n0 ≤ h101.size := Nat.le_trans z97 (Keep.of_wr W101).1
  have c103 := c98.wr W101
  obtain ⟨cl105, Ar105, q105, S105, M105, H105, J105⟩ := id V101
  have hin105 : ¬ ((8 : Int32) < 0 ∨ cl105.slots.size ≤ ((8 : Int32)).toNatClampNeg) := inb_of S105 ⟨by decide, by decide⟩
  obtain ⟨T106, h106, X106, e106, W106, st106⟩ := stZ X101 hx hZ e101 Ar105 (j := (8 : Int32)) hin105 (g := (mkF m 50 #[.val (.int p1), .val (.int kk), .unset, .unset] [(.int (1 : Int32)), (.int (8 : Int32)), (.ref b62), (.ref b62)])) rfl rfl (hb hby at_50)
  have V106 : Arv Z h106 b62 k62 .boolean (11 : Int32) [(.int (1 : Int32)), (.int (0 : Int32)), (.int (1 : Int32)), (.int (0 : Int32)), (.int (0 : Int32)), (.int (1 : Int32)), (.int (1 : Int32)), (.int (1 : Int32)), (.int (1 : Int32)), (.int (0 : Int32)), (.int (0 : Int32))] (.int (0 : Int32)) := Arv.set Ar105 q105 S105 M105 H105 J105 (fits_nar_bool _) W106 8 rfl (Nat.le_of_ble_eq_true rfl)
  have N106 := Fr.snoc X106 N101 G62
  have z107 : n0 ≤ h106.size := Nat.le_trans z102 (Keep.of_wr W106).1
  have c108 := c103.wr W106
  obtain ⟨cl110, Ar110, q110, S110, M110, H110, J110⟩ := id V106
  have hin110 : ¬ ((9 : Int32) < 0 ∨ cl110.slots.size ≤ ((9 : Int32)).toNatClampNeg) := inb_of S110 ⟨by decide, by decide⟩
  obtain ⟨T111, h111, X111, e111, W111, st111⟩ := stZ X106 hx hZ e106 Ar110 (j := (9 : Int32)) hin110 (g := (mkF m 55 #[.val (.int p1), .val (.int kk), .unset, .unset] [(.int (1 : Int32)), (.int (9 : Int32)), (.ref b62), (.ref b62)])) rfl rfl (hb hby at_55)
  have V111 : Arv Z h111 b62 k62 .boolean (11 : Int32) [(.int (1 : Int32)), (.int (0 : Int32)), (.int (1 : Int32)), (.int (0 : Int32)), (.int (0 : Int32)), (.int (1 : Int32)), (.int (1 : Int32)), (.int (1 : Int32)), (.int (1 : Int32)), (.int (1 : Int32)), (.int (0 : Int32))] (.int (0 : Int32)) := Arv.set Ar110 q110 S110 M110 H110 J110 (fits_nar_bool _) W111 9 rfl (Nat.le_of_ble_eq_true rfl)
  have N111 := Fr.snoc X111 N106 G62
  have z112 : n0 ≤ h111.size := Nat.le_trans z107 (Keep.of_wr W111).1
  have c113 := c108.wr W111
  obtain ⟨cl115, Ar115, q115, S115, M115, H115, J115⟩ := id V111
  have hin115 : ¬ ((10 : Int32) < 0 ∨ cl115.slots.size ≤ ((10 : Int32)).toNatClampNeg) := inb_of S115 ⟨by decide, by decide⟩
  obtain ⟨T116, h116, X116, e116, W116, st116⟩ := stZ X111 hx hZ e111 Ar115 (j := (10 : Int32)) hin115 (g := (mkF m 60 #[.val (.int p1), .val (.int kk), .unset, .unset] [(.int (0 : Int32)), (.int (10 : Int32)), (.ref b62), (.ref b62)])) rfl rfl (hb hby at_60)
  have V116 : Arv Z h116 b62 k62 .boolean (11 : Int32) [(.int (1 : Int32)), (.int (0 : Int32)), (.int (1 : Int32)), (.int (0 : Int32)), (.int (0 : Int32)), (.int (1 : Int32)), (.int (1 : Int32)), (.int (1 : Int32)), (.int (1 : Int32)), (.int (1 : Int32)), (.int (0 : Int32))] (.int (0 : Int32)) := Arv.set Ar115 q115 S115 M115 H115 J115 (fits_nar_bool _) W116 10 rfl (Nat.le_of_ble_eq_true rfl)
  have N116 := Fr.snoc X116 N111 G62
  have z117 : n0 ≤ h116.size := Nat.le_trans z112 (Keep.of_wr W116).1
  have c118 := c113.wr W116
  obtain ⟨_, _, ⟨T120, L120, k120, n120⟩, -, X120, ⟨Lc120, hQ120, l120, y120, z120⟩, st120⟩ := Jvm.LawKit.callS X116 hx (y := (⟨"com/example/rorqual/rorqual/reader/JsonTokenBeginsValuePinLaw", "pick", "(I)Lcom/example/rorqual/rorqual/reader/JsonToken;"⟩ : MethodName)) hown (mvT hZ (hw _ (List.mem_of_getElem? (i := 2) rfl))) (mvT hZ (hw _ (List.mem_of_getElem? (i := 3) rfl))) (mvT hZ (hw _ (List.mem_of_getElem? (i := 4) rfl))) (mvT hZ (hw _ (List.mem_of_getElem? (i := 5) rfl))) (by decide) (backOf (W := 0) (rm1 l Z a0 hw [] kk pk h116 n0 z117 c118 hk) hZ (hw _ (List.mem_of_getElem? (i := 5) rfl)) (hw _ (List.mem_of_getElem? (i := 4) rfl)) (by decide) (by decide)) (g := (mkF m 63 #[.val (.int p1), .val (.int kk), .val (.ref b62), .unset] [(.int kk)])) rfl (by rw [hml]; rfl) (argsL := [(.int kk)]) (rest := []) (lenOf pd_72 rfl) rfl (by show 2 * 0 + _ ≤ _; exact Nat.le_of_eq rfl) (hb hby at_63) (fun _ _ => ⟨rfl, e116, (by decide : 1 + 0 ≤ _), (by decide : 11 + 0 ≤ _)⟩)
  dsimp only [Pt.U, Pt.locs, Pt.cells, Pt.slots] at X120 l120 y120 z120 st120 hQ120
  subst l120 y120 z120
  obtain ⟨rfl, Nq120, e120⟩ := hQ120
  have N120 := Fr.app N116 Nq120
  have Ek : Exa Z h116 (pk kk) "com/example/rorqual/rorqual/reader/JsonToken" := by
    rcases hk with h | h | h | h | h | h | h | h | h | h | h <;> rw [h]
    · exact c118.2 _ (List.mem_of_getElem? (i := 0) rfl)
    · exact c118.2 _ (List.mem_of_getElem? (i := 1) rfl)
    · exact c118.2 _ (List.mem_of_getElem? (i := 2) rfl)
    · exact c118.2 _ (List.mem_of_getElem? (i := 3) rfl)
    · exact c118.2 _ (List.mem_of_getElem? (i := 4) rfl)
    · exact c118.2 _ (List.mem_of_getElem? (i := 5) rfl)
    · exact c118.2 _ (List.mem_of_getElem? (i := 6) rfl)
    · exact c118.2 _ (List.mem_of_getElem? (i := 7) rfl)
    · exact c118.2 _ (List.mem_of_getElem? (i := 8) rfl)
    · exact c118.2 _ (List.mem_of_getElem? (i := 9) rfl)
    · exact c118.2 _ (List.mem_of_getElem? (i := 10) rfl)
  obtain ⟨cq121, kq121, q121a, q121b, q121c⟩ := isOf hZ e120 Ek
  obtain ⟨_, _, ⟨T121, L121, k121, n121⟩, -, X121, ⟨Lc121, hQ121, l121, y121, z121⟩, st121⟩ := X120.virtualBack hx (y := (⟨"com/example/rorqual/rorqual/reader/JsonToken", "beginsValue", "()Z"⟩ : MethodName)) (z := (⟨"com/example/rorqual/rorqual/reader/JsonToken", "beginsValue", "()Z"⟩ : MethodName)) hown (mvT hZ (hw _ (List.mem_of_getElem? (i := 9) rfl))) (mvT hZ (hw _ (List.mem_of_getElem? (i := 10) rfl))) (notFace_of_selects (args := #[]) (mvT hZ (hw _ (List.mem_of_getElem? (i := 12) rfl)))) (mvT hZ (hw _ (List.mem_of_getElem? (i := 12) rfl))) (mvT hZ (hw _ (List.mem_of_getElem? (i := 11) rfl))) (by decide) (backOf (W := 0) (rm2 l Z a0 hw [] (pk kk) pk h116 n0 z117 c118) hZ (hw _ (List.mem_of_getElem? (i := 13) rfl)) (hw _ (List.mem_of_getElem? (i := 7) rfl)) (by decide) (by decide)) q121a q121c (g := (mkF m 68 #[.val (.int p1), .val (.int kk), .val (.ref b62), .val (.ref (pk kk))] [(.ref (pk kk))])) rfl (by rw [hml]; rfl) (Steps.refl _) (argsL := []) (rest := []) (lenOf pd_73 rfl) rfl (by show 2 * 0 + _ ≤ _; exact Nat.le_of_eq rfl) (hb hby at_68) (fun _ _ => ⟨rfl, e120, (by decide : 1 + 0 ≤ _), (by decide : 11 + 0 ≤ _)⟩)
  dsimp only [Pt.U, Pt.locs, Pt.cells, Pt.slots] at X121 l121 y121 z121 st121 hQ121
  subst l121 y121 z121
  obtain ⟨rfl, Nq121, e121⟩ := hQ121
  have N121 := Fr.app N120 Nq121
  obtain ⟨cl, Ar, qc, Sc, Mc, Hc, Jc⟩ := V116
  have hin : ¬ (kk < 0 ∨ cl.slots.size ≤ (kk).toNatClampNeg) := inb_of Sc (by rcases hk with h | h | h | h | h | h | h | h | h | h | h <;> rw [h] <;> decide)
  have hat : cl.slots[(kk).toNatClampNeg]? = some (.int (own_b kk)) := Hc.at hin (by rcases hk with h | h | h | h | h | h | h | h | h | h | h <;> rw [h] <;> rfl)
  have hmem : ∃ q ∈ own_names, q.1 = kk := by
    rcases hk with h | h | h | h | h | h | h | h | h | h | h <;> rw [h]
    · exact ⟨_, List.mem_of_getElem? (i := 0) rfl, rfl⟩
    · exact ⟨_, List.mem_of_getElem? (i := 1) rfl, rfl⟩
    · exact ⟨_, List.mem_of_getElem? (i := 2) rfl, rfl⟩
    · exact ⟨_, List.mem_of_getElem? (i := 3) rfl, rfl⟩
    · exact ⟨_, List.mem_of_getElem? (i := 4) rfl, rfl⟩
    · exact ⟨_, List.mem_of_getElem? (i := 5) rfl, rfl⟩
    · exact ⟨_, List.mem_of_getElem? (i := 6) rfl, rfl⟩
    · exact ⟨_, List.mem_of_getElem? (i := 7) rfl, rfl⟩
    · exact ⟨_, List.mem_of_getElem? (i := 8) rfl, rfl⟩
    · exact ⟨_, List.mem_of_getElem? (i := 9) rfl, rfl⟩
    · exact ⟨_, List.mem_of_getElem? (i := 10) rfl, rfl⟩
  obtain ⟨qk, hqk, eqk⟩ := hmem
  have j4 : (pk kk = pk (4 : Int32)) ↔ kk = (4 : Int32) := ⟨fun q => eqk ▸ hinj qk hqk (_, _) (List.mem_of_getElem? (i := 4) rfl) (by rw [eqk]; exact q), fun q => by rw [q]⟩
  have j1 : (pk kk = pk (1 : Int32)) ↔ kk = (1 : Int32) := ⟨fun q => eqk ▸ hinj qk hqk (_, _) (List.mem_of_getElem? (i := 1) rfl) (by rw [eqk]; exact q), fun q => by rw [q]⟩
  have j3 : (pk kk = pk (3 : Int32)) ↔ kk = (3 : Int32) := ⟨fun q => eqk ▸ hinj qk hqk (_, _) (List.mem_of_getElem? (i := 3) rfl) (by rw [eqk]; exact q), fun q => by rw [q]⟩
  have j10 : (pk kk = pk (10 : Int32)) ↔ kk = (10 : Int32) := ⟨fun q => eqk ▸ hinj qk hqk (_, _) (List.mem_of_getElem? (i := 10) rfl) (by rw [eqk]; exact q), fun q => by rw [q]⟩
  have hfin : (if pk kk = pk (4 : Int32) then (0 : Int32) else (if pk kk = pk (1 : Int32) then (0 : Int32) else (if pk kk = pk (3 : Int32) then (0 : Int32) else (if pk kk = pk (10 : Int32) then (0 : Int32) else (1 : Int32))))) = (own_b kk) := by
    simp only [j4, j1, j3, j10]
    rcases hk with h | h | h | h | h | h | h | h | h | h | h <;> rw [h] <;> decide
  have pre122 : ∀ t, Steps p.tables e below (T121.setTop (mkF m 82 #[.val (.int p1), .val (.int kk), .val (.ref b62), .val (.ref (pk kk))] [(.int (1 : Int32))])) t → Steps p.tables e below (s₁.setTop (entryFrame m #[(.int p1)] maxLocals)) t := fun t kt => pre61 t (by
    show Steps p.tables e below (s₁.setTop (mkF m 7 #[.val (.int p1), .unset, .unset, .unset] [(.int kk)])) _
    refine XS.istoreN X0.here hx rfl (hb hby at_7) rfl (l' := #[.val (.int p1), .val (.int kk), .unset, .unset]) rfl ?_
    show Steps p.tables e below (s₁.setTop (mkF m 8 #[.val (.int p1), .val (.int kk), .unset, .unset] [])) _
    refine XS.bipush X0.here hx rfl (hb hby at_8) ?_
    show Steps p.tables e below (s₁.setTop (mkF m 10 #[.val (.int p1), .val (.int kk), .unset, .unset] [(.int (11 : Int32))])) _
    refine st62 _ ?_
    show Steps p.tables e below (T62.setTop (mkF m 12 #[.val (.int p1), .val (.int kk), .unset, .unset] [(.ref b62)])) _
    refine XS.dup X62.here hx rfl (hb hby at_12) rfl rfl ?_
    show Steps p.tables e below (T62.setTop (mkF m 13 #[.val (.int p1), .val (.int kk), .unset, .unset] [(.ref b62), (.ref b62)])) _
    refine XS.iconst X62.here hx rfl (hb hby at_13) ?_
    show Steps p.tables e below (T62.setTop (mkF m 14 #[.val (.int p1), .val (.int kk), .unset, .unset] [(.int (0 : Int32)), (.ref b62), (.ref b62)])) _
    refine XS.iconst X62.here hx rfl (hb hby at_14) ?_
    show Steps p.tables e below (T62.setTop (mkF m 15 #[.val (.int p1), .val (.int kk), .unset, .unset] [(.int (1 : Int32)), (.int (0 : Int32)), (.ref b62), (.ref b62)])) _
    refine st66 _ ?_
    show Steps p.tables e below (T66.setTop (mkF m 16 #[.val (.int p1), .val (.int kk), .unset, .unset] [(.ref b62)])) _
    refine XS.dup X66.here hx rfl (hb hby at_16) rfl rfl ?_
    show Steps p.tables e below (T66.setTop (mkF m 17 #[.val (.int p1), .val (.int kk), .unset, .unset] [(.ref b62), (.ref b62)])) _
    refine XS.iconst X66.here hx rfl (hb hby at_17) ?_
    show Steps p.tables e below (T66.setTop (mkF m 18 #[.val (.int p1), .val (.int kk), .unset, .unset] [(.int (1 : Int32)), (.ref b62), (.ref b62)])) _
    refine XS.iconst X66.here hx rfl (hb hby at_18) ?_
    show Steps p.tables e below (T66.setTop (mkF m 19 #[.val (.int p1), .val (.int kk), .unset, .unset] [(.int (0 : Int32)), (.int (1 : Int32)), (.ref b62), (.ref b62)])) _
    refine st71 _ ?_
    show Steps p.tables e below (T71.setTop (mkF m 20 #[.val (.int p1), .val (.int kk), .unset, .unset] [(.ref b62)])) _
    refine XS.dup X71.here hx rfl (hb hby at_20) rfl rfl ?_
    show Steps p.tables e below (T71.setTop (mkF m 21 #[.val (.int p1), .val (.int kk), .unset, .unset] [(.ref b62), (.ref b62)])) _
    refine XS.iconst X71.here hx rfl (hb hby at_21) ?_
    show Steps p.tables e below (T71.setTop (mkF m 22 #[.val (.int p1), .val (.int kk), .unset, .unset] [(.int (2 : Int32)), (.ref b62), (.ref b62)])) _
    refine XS.iconst X71.here hx rfl (hb hby at_22) ?_
    show Steps p.tables e below (T71.setTop (mkF m 23 #[.val (.int p1), .val (.int kk), .unset, .unset] [(.int (1 : Int32)), (.int (2 : Int32)), (.ref b62), (.ref b62)])) _
    refine st76 _ ?_
    show Steps p.tables e below (T76.setTop (mkF m 24 #[.val (.int p1), .val (.int kk), .unset, .unset] [(.ref b62)])) _
    refine XS.dup X76.here hx rfl (hb hby at_24) rfl rfl ?_
    show Steps p.tables e below (T76.setTop (mkF m 25 #[.val (.int p1), .val (.int kk), .unset, .unset] [(.ref b62), (.ref b62)])) _
    refine XS.iconst X76.here hx rfl (hb hby at_25) ?_
    show Steps p.tables e below (T76.setTop (mkF m 26 #[.val (.int p1), .val (.int kk), .unset, .unset] [(.int (3 : Int32)), (.ref b62), (.ref b62)])) _
    refine XS.iconst X76.here hx rfl (hb hby at_26) ?_
    show Steps p.tables e below (T76.setTop (mkF m 27 #[.val (.int p1), .val (.int kk), .unset, .unset] [(.int (0 : Int32)), (.int (3 : Int32)), (.ref b62), (.ref b62)])) _
    refine st81 _ ?_
    show Steps p.tables e below (T81.setTop (mkF m 28 #[.val (.int p1), .val (.int kk), .unset, .unset] [(.ref b62)])) _
    refine XS.dup X81.here hx rfl (hb hby at_28) rfl rfl ?_
    show Steps p.tables e below (T81.setTop (mkF m 29 #[.val (.int p1), .val (.int kk), .unset, .unset] [(.ref b62), (.ref b62)])) _
    refine XS.iconst X81.here hx rfl (hb hby at_29) ?_
    show Steps p.tables e below (T81.setTop (mkF m 30 #[.val (.int p1), .val (.int kk), .unset, .unset] [(.int (4 : Int32)), (.ref b62), (.ref b62)])) _
    refine XS.iconst X81.here hx rfl (hb hby at_30) ?_
    show Steps p.tables e below (T81.setTop (mkF m 31 #[.val (.int p1), .val (.int kk), .unset, .unset] [(.int (0 : Int32)), (.int (4 : Int32)), (.ref b62), (.ref b62)])) _
    refine st86 _ ?_
    show Steps p.tables e below (T86.setTop (mkF m 32 #[.val (.int p1), .val (.int kk), .unset, .unset] [(.ref b62)])) _
    refine XS.dup X86.here hx rfl (hb hby at_32) rfl rfl ?_
    show Steps p.tables e below (T86.setTop (mkF m 33 #[.val (.int p1), .val (.int kk), .unset, .unset] [(.ref b62), (.ref b62)])) _
    refine XS.iconst X86.here hx rfl (hb hby at_33) ?_
    show Steps p.tables e below (T86.setTop (mkF m 34 #[.val (.int p1), .val (.int kk), .unset, .unset] [(.int (5 : Int32)), (.ref b62), (.ref b62)])) _
    refine XS.iconst X86.here hx rfl (hb hby at_34) ?_
    show Steps p.tables e below (T86.setTop (mkF m 35 #[.val (.int p1), .val (.int kk), .unset, .unset] [(.int (1 : Int32)), (.int (5 : Int32)), (.ref b62), (.ref b62)])) _
    refine st91 _ ?_
    show Steps p.tables e below (T91.setTop (mkF m 36 #[.val (.int p1), .val (.int kk), .unset, .unset] [(.ref b62)])) _
    refine XS.dup X91.here hx rfl (hb hby at_36) rfl rfl ?_
    show Steps p.tables e below (T91.setTop (mkF m 37 #[.val (.int p1), .val (.int kk), .unset, .unset] [(.ref b62), (.ref b62)])) _
    refine XS.bipush X91.here hx rfl (hb hby at_37) ?_
    show Steps p.tables e below (T91.setTop (mkF m 39 #[.val (.int p1), .val (.int kk), .unset, .unset] [(.int (6 : Int32)), (.ref b62), (.ref b62)])) _
    refine XS.iconst X91.here hx rfl (hb hby at_39) ?_
    show Steps p.tables e below (T91.setTop (mkF m 40 #[.val (.int p1), .val (.int kk), .unset, .unset] [(.int (1 : Int32)), (.int (6 : Int32)), (.ref b62), (.ref b62)])) _
    refine st96 _ ?_
    show Steps p.tables e below (T96.setTop (mkF m 41 #[.val (.int p1), .val (.int kk), .unset, .unset] [(.ref b62)])) _
    refine XS.dup X96.here hx rfl (hb hby at_41) rfl rfl ?_
    show Steps p.tables e below (T96.setTop (mkF m 42 #[.val (.int p1), .val (.int kk), .unset, .unset] [(.ref b62), (.ref b62)])) _
    refine XS.bipush X96.here hx rfl (hb hby at_42) ?_
    show Steps p.tables e below (T96.setTop (mkF m 44 #[.val (.int p1), .val (.int kk), .unset, .unset] [(.int (7 : Int32)), (.ref b62), (.ref b62)])) _
    refine XS.iconst X96.here hx rfl (hb hby at_44) ?_
    show Steps p.tables e below (T96.setTop (mkF m 45 #[.val (.int p1), .val (.int kk), .unset, .unset] [(.int (1 : Int32)), (.int (7 : Int32)), (.ref b62), (.ref b62)])) _
    refine st101 _ ?_
    show Steps p.tables e below (T101.setTop (mkF m 46 #[.val (.int p1), .val (.int kk), .unset, .unset] [(.ref b62)])) _
    refine XS.dup X101.here hx rfl (hb hby at_46) rfl rfl ?_
    show Steps p.tables e below (T101.setTop (mkF m 47 #[.val (.int p1), .val (.int kk), .unset, .unset] [(.ref b62), (.ref b62)])) _
    refine XS.bipush X101.here hx rfl (hb hby at_47) ?_
    show Steps p.tables e below (T101.setTop (mkF m 49 #[.val (.int p1), .val (.int kk), .unset, .unset] [(.int (8 : Int32)), (.ref b62), (.ref b62)])) _
    refine XS.iconst X101.here hx rfl (hb hby at_49) ?_
    show Steps p.tables e below (T101.setTop (mkF m 50 #[.val (.int p1), .val (.int kk), .unset, .unset] [(.int (1 : Int32)), (.int (8 : Int32)), (.ref b62), (.ref b62)])) _
    refine st106 _ ?_
    show Steps p.tables e below (T106.setTop (mkF m 51 #[.val (.int p1), .val (.int kk), .unset, .unset] [(.ref b62)])) _
    refine XS.dup X106.here hx rfl (hb hby at_51) rfl rfl ?_
    show Steps p.tables e below (T106.setTop (mkF m 52 #[.val (.int p1), .val (.int kk), .unset, .unset] [(.ref b62), (.ref b62)])) _
    refine XS.bipush X106.here hx rfl (hb hby at_52) ?_
    show Steps p.tables e below (T106.setTop (mkF m 54 #[.val (.int p1), .val (.int kk), .unset, .unset] [(.int (9 : Int32)), (.ref b62), (.ref b62)])) _
    refine XS.iconst X106.here hx rfl (hb hby at_54) ?_
    show Steps p.tables e below (T106.setTop (mkF m 55 #[.val (.int p1), .val (.int kk), .unset, .unset] [(.int (1 : Int32)), (.int (9 : Int32)), (.ref b62), (.ref b62)])) _
    refine st111 _ ?_
    show Steps p.tables e below (T111.setTop (mkF m 56 #[.val (.int p1), .val (.int kk), .unset, .unset] [(.ref b62)])) _
    refine XS.dup X111.here hx rfl (hb hby at_56) rfl rfl ?_
    show Steps p.tables e below (T111.setTop (mkF m 57 #[.val (.int p1), .val (.int kk), .unset, .unset] [(.ref b62), (.ref b62)])) _
    refine XS.bipush X111.here hx rfl (hb hby at_57) ?_
    show Steps p.tables e below (T111.setTop (mkF m 59 #[.val (.int p1), .val (.int kk), .unset, .unset] [(.int (10 : Int32)), (.ref b62), (.ref b62)])) _
    refine XS.iconst X111.here hx rfl (hb hby at_59) ?_
    show Steps p.tables e below (T111.setTop (mkF m 60 #[.val (.int p1), .val (.int kk), .unset, .unset] [(.int (0 : Int32)), (.int (10 : Int32)), (.ref b62), (.ref b62)])) _
    refine st116 _ ?_
    show Steps p.tables e below (T116.setTop (mkF m 61 #[.val (.int p1), .val (.int kk), .unset, .unset] [(.ref b62)])) _
    refine XS.astoreN X116.here hx rfl (hb hby at_61) rfl rfl (l' := #[.val (.int p1), .val (.int kk), .val (.ref b62), .unset]) rfl ?_
    show Steps p.tables e below (T116.setTop (mkF m 62 #[.val (.int p1), .val (.int kk), .val (.ref b62), .unset] [])) _
    refine XS.iloadN X116.here hx rfl (hb hby at_62) rfl ?_
    show Steps p.tables e below (T116.setTop (mkF m 63 #[.val (.int p1), .val (.int kk), .val (.ref b62), .unset] [(.int kk)])) _
    refine st120 _ ?_
    show Steps p.tables e below (T120.setTop (mkF m 66 #[.val (.int p1), .val (.int kk), .val (.ref b62), .unset] [(.ref (pk kk))])) _
    refine XS.astoreN X120.here hx rfl (hb hby at_66) rfl rfl (l' := #[.val (.int p1), .val (.int kk), .val (.ref b62), .val (.ref (pk kk))]) rfl ?_
    show Steps p.tables e below (T120.setTop (mkF m 67 #[.val (.int p1), .val (.int kk), .val (.ref b62), .val (.ref (pk kk))] [])) _
    refine XS.aloadN X120.here hx rfl (hb hby at_67) rfl rfl ?_
    show Steps p.tables e below (T120.setTop (mkF m 68 #[.val (.int p1), .val (.int kk), .val (.ref b62), .val (.ref (pk kk))] [(.ref (pk kk))])) _
    refine st121.trans ?_
    show Steps p.tables e below (T121.setTop (mkF m 71 #[.val (.int p1), .val (.int kk), .val (.ref b62), .val (.ref (pk kk))] [(.int (if pk kk = pk (4 : Int32) then (0 : Int32) else (if pk kk = pk (1 : Int32) then (0 : Int32) else (if pk kk = pk (3 : Int32) then (0 : Int32) else (if pk kk = pk (10 : Int32) then (0 : Int32) else (1 : Int32))))))])) _
    refine XS.aloadN X121.here hx rfl (hb hby at_71) rfl rfl ?_
    show Steps p.tables e below (T121.setTop (mkF m 72 #[.val (.int p1), .val (.int kk), .val (.ref b62), .val (.ref (pk kk))] [(.ref b62), (.int (if pk kk = pk (4 : Int32) then (0 : Int32) else (if pk kk = pk (1 : Int32) then (0 : Int32) else (if pk kk = pk (3 : Int32) then (0 : Int32) else (if pk kk = pk (10 : Int32) then (0 : Int32) else (1 : Int32))))))])) _
    refine XS.iloadN X121.here hx rfl (hb hby at_72) rfl ?_
    show Steps p.tables e below (T121.setTop (mkF m 73 #[.val (.int p1), .val (.int kk), .val (.ref b62), .val (.ref (pk kk))] [(.int kk), (.ref b62), (.int (if pk kk = pk (4 : Int32) then (0 : Int32) else (if pk kk = pk (1 : Int32) then (0 : Int32) else (if pk kk = pk (3 : Int32) then (0 : Int32) else (if pk kk = pk (10 : Int32) then (0 : Int32) else (1 : Int32))))))])) _
    refine X121.baloadBooleans hx (j := kk) (v := (.int (own_b kk))) (by rw [e121]; exact Ar.1) (State.isArrayOf_alike hZ.alike Ar.2.1) Ar.2.2 hin hat (g := (mkF m 73 #[.val (.int p1), .val (.int kk), .val (.ref b62), .val (.ref (pk kk))] [(.int kk), (.ref b62), (.int (if pk kk = pk (4 : Int32) then (0 : Int32) else (if pk kk = pk (1 : Int32) then (0 : Int32) else (if pk kk = pk (3 : Int32) then (0 : Int32) else (if pk kk = pk (10 : Int32) then (0 : Int32) else (1 : Int32))))))])) rfl rfl (hb hby at_73) _ ?_
    show Steps p.tables e below (T121.setTop (mkF m 74 #[.val (.int p1), .val (.int kk), .val (.ref b62), .val (.ref (pk kk))] [(.int (own_b kk)), (.int (if pk kk = pk (4 : Int32) then (0 : Int32) else (if pk kk = pk (1 : Int32) then (0 : Int32) else (if pk kk = pk (3 : Int32) then (0 : Int32) else (if pk kk = pk (10 : Int32) then (0 : Int32) else (1 : Int32))))))])) _
    refine XS.icmpNo X121.here hx rfl (hb hby at_74) rfl (teq hfin).2 ?_
    show Steps p.tables e below (T121.setTop (mkF m 77 #[.val (.int p1), .val (.int kk), .val (.ref b62), .val (.ref (pk kk))] [])) _
    refine XS.iconst X121.here hx rfl (hb hby at_77) ?_
    show Steps p.tables e below (T121.setTop (mkF m 78 #[.val (.int p1), .val (.int kk), .val (.ref b62), .val (.ref (pk kk))] [(.int (1 : Int32))])) _
    refine XS.goto X121.here hx rfl (pc0 := 78) (pc' := 82) rfl (hb hby at_78) (by decide) (by decide) ?_
    exact kt)
  exact own_retN X121 hx Bd.notSynchronized (t := .boolean) Bd.returns (by simp) (hb hby at_82) pre122 (show Q0 h0 n0 _ _ _ from ⟨rfl, N121⟩) (by decide) (by decide)
set_option maxRecDepth 65536 in
set_option maxHeartbeats 40000000 in
theorem comes_1 {Post : Tables → Env → Array Value → State → Outcome → State → Prop} (hpost : ∀ tb e args s v u, (limb_1_1.after args s (.returned v) u = true ∧ limb_1_2.after args s (.returned v) u = true ∧ True) → FrameEnd s (.returned v) u (Jvm.fieldLocs frame_1_writes args s ++ Jvm.arrayLocs frame_1_arrays args s ++ Jvm.staticLocs frame_1_statics s) 16 128 → Post tb e args s (.returned v) u) :
    ArmFor flags0 classFile x code maxLocals ret World_1 tables_1 room_1 Calls_1 rest_1 Pre_1 Post := by
  intro l hfl _ _ p e ha hc hk s m args below hf hA hF happ hP
  obtain ⟨hcalls, hrest, hpre⟩ := hP
  obtain ⟨-, -, -, hnamed, -, -, -, hat⟩ := (Spec.applies_iff hf).mp happ
  obtain ⟨hg, hn⟩ := and_e (Cond.before_iff.mp (show (Jvm.Cond.and given_1 narrow_1).before args s = true from hpre))
  obtain ⟨g1a, g1b⟩ := and_e hg
  obtain ⟨w0, rfl⟩ : ∃ w0 : Value, args = #[w0] := by
    have hs : args.size = 1 := by simpa [Cond.value, given_1] using g1a
    obtain ⟨L⟩ := args
    match L, hs with
    | [w0], _ => exact ⟨w0, rfl⟩
  have hw := fun d (hd : d ∈ tables_1) => atoms_spec (ws := Jvm.Cond.code x code maxLocals ret :: tables_1) hat d (List.mem_cons_of_mem _ hd)
  have hfit : Fit s := fun {y c} hc i hi => by
    obtain ⟨ha, rfl⟩ := Array.getElem?_eq_some_iff.mp hc
    have q := List.all_eq_true.mp ((Array.all_eq_true_iff_forall_mem.mp hF) _ (Array.getElem_mem ha)) i (List.mem_range.mpr hi)
    simpa [Array.getElem?_eq_getElem hi] using q
  obtain ⟨i0, ei0⟩ := is_v g1b
  obtain rfl : w0 = (.int i0) := Option.some.inj ei0
  have hn0 : narrow_1.value _ s none s [] = some true := hn
  obtain ⟨n1, m1⟩ := and_e hn0
  obtain ⟨n2, m2⟩ := and_e m1
  obtain ⟨n3, m3⟩ := and_e m2
  obtain ⟨n4, m4⟩ := and_e m3
  obtain ⟨n5, m5⟩ := and_e m4
  obtain ⟨n6, m6⟩ := and_e m5
  obtain ⟨n7, m7⟩ := and_e m6
  obtain ⟨n8, m8⟩ := and_e m7
  obtain ⟨n9, m9⟩ := and_e m8
  obtain ⟨n10, m10⟩ := and_e m9
  obtain ⟨n11, m11⟩ := and_e m10
  obtain ⟨n12, m12⟩ := and_e m11
  obtain ⟨n13, m13⟩ := and_e m12
  obtain ⟨n14, m14⟩ := and_e m13
  obtain ⟨n15, m15⟩ := and_e m14
  obtain ⟨n16, m16⟩ := and_e m15
  obtain ⟨n17, m17⟩ := and_e m16
  obtain ⟨n18, m18⟩ := and_e m17
  obtain ⟨n19, m19⟩ := and_e m18
  obtain ⟨n20, m20⟩ := and_e m19
  obtain ⟨n21, m21⟩ := and_e m20
  obtain ⟨r0, ev0⟩ := exa_v n1
  have E0 := Exa.start ev0 n1
  have S0 := Sta.start ev0 (Or.inr ⟨(hw _ (List.mem_of_getElem? (i := 7) rfl)), (hw _ (List.mem_of_getElem? (i := 8) rfl))⟩)
  have O0 := own_ord ev0 n3
  obtain ⟨r1, ev1⟩ := exa_v n5
  have E1 := Exa.start ev1 n5
  have S1 := Sta.start ev1 (Or.inr ⟨(hw _ (List.mem_of_getElem? (i := 7) rfl)), (hw _ (List.mem_of_getElem? (i := 17) rfl))⟩)
  have O1 := own_ord ev1 n6
  obtain ⟨r2, ev2⟩ := exa_v n15
  have E2 := Exa.start ev2 n15
  have S2 := Sta.start ev2 (Or.inr ⟨(hw _ (List.mem_of_getElem? (i := 7) rfl)), (hw _ (List.mem_of_getElem? (i := 28) rfl))⟩)
  have O2 := own_ord ev2 n16
  obtain ⟨r3, ev3⟩ := exa_v n7
  have E3 := Exa.start ev3 n7
  have S3 := Sta.start ev3 (Or.inr ⟨(hw _ (List.mem_of_getElem? (i := 7) rfl)), (hw _ (List.mem_of_getElem? (i := 19) rfl))⟩)
  have O3 := own_ord ev3 n8
  obtain ⟨r4, ev4⟩ := exa_v n2
  have E4 := Exa.start ev4 n2
  have S4 := Sta.start ev4 (Or.inr ⟨(hw _ (List.mem_of_getElem? (i := 7) rfl)), (hw _ (List.mem_of_getElem? (i := 15) rfl))⟩)
  have O4 := own_ord ev4 n4
  obtain ⟨r5, ev5⟩ := exa_v n19
  have E5 := Exa.start ev5 n19
  have S5 := Sta.start ev5 (Or.inr ⟨(hw _ (List.mem_of_getElem? (i := 7) rfl)), (hw _ (List.mem_of_getElem? (i := 34) rfl))⟩)
  have O5 := own_ord ev5 n20
  obtain ⟨r6, ev6⟩ := exa_v n21
  have E6 := Exa.start ev6 n21
  have S6 := Sta.start ev6 (Or.inr ⟨(hw _ (List.mem_of_getElem? (i := 7) rfl)), (hw _ (List.mem_of_getElem? (i := 36) rfl))⟩)
  have O6 := own_ord ev6 m21
  obtain ⟨r7, ev7⟩ := exa_v n11
  have E7 := Exa.start ev7 n11
  have S7 := Sta.start ev7 (Or.inr ⟨(hw _ (List.mem_of_getElem? (i := 7) rfl)), (hw _ (List.mem_of_getElem? (i := 24) rfl))⟩)
  have O7 := own_ord ev7 n12
  obtain ⟨r8, ev8⟩ := exa_v n13
  have E8 := Exa.start ev8 n13
  have S8 := Sta.start ev8 (Or.inr ⟨(hw _ (List.mem_of_getElem? (i := 7) rfl)), (hw _ (List.mem_of_getElem? (i := 26) rfl))⟩)
  have O8 := own_ord ev8 n14
  obtain ⟨r9, ev9⟩ := exa_v n17
  have E9 := Exa.start ev9 n17
  have S9 := Sta.start ev9 (Or.inr ⟨(hw _ (List.mem_of_getElem? (i := 7) rfl)), (hw _ (List.mem_of_getElem? (i := 32) rfl))⟩)
  have O9 := own_ord ev9 n18
  obtain ⟨r10, ev10⟩ := exa_v n9
  have E10 := Exa.start ev10 n9
  have S10 := Sta.start ev10 (Or.inr ⟨(hw _ (List.mem_of_getElem? (i := 7) rfl)), (hw _ (List.mem_of_getElem? (i := 21) rfl))⟩)
  have O10 := own_ord ev10 n10
  let pk : Int32 → Addr := fun k => [r0, r1, r2, r3, r4, r5, r6, r7, r8, r9, r10].getD k.toNatClampNeg 0
  have tok : Tok s s.heap pk := by
    refine ⟨fun q hq => ?_, fun q hq => ?_⟩ <;> simp only [own_names, List.mem_cons, List.not_mem_nil, or_false] at hq <;> rcases hq with rfl | rfl | rfl | rfl | rfl | rfl | rfl | rfl | rfl | rfl | rfl
    · exact S0
    · exact S1
    · exact S2
    · exact S3
    · exact S4
    · exact S5
    · exact S6
    · exact S7
    · exact S8
    · exact S9
    · exact S10
    · exact E0
    · exact E1
    · exact E2
    · exact E3
    · exact E4
    · exact E5
    · exact E6
    · exact E7
    · exact E8
    · exact E9
    · exact E10
  have ho : ∀ q ∈ own_names, Fld s s.heap (pk q.1) "java/lang/Enum" "ordinal" "I" (.int q.1) := by
    intro q hq
    simp only [own_names, List.mem_cons, List.not_mem_nil, or_false] at hq
    rcases hq with rfl | rfl | rfl | rfl | rfl | rfl | rfl | rfl | rfl | rfl | rfl
    · exact O0
    · exact O1
    · exact O2
    · exact O3
    · exact O4
    · exact O5
    · exact O6
    · exact O7
    · exact O8
    · exact O9
    · exact O10
  have hinj : ∀ i ∈ own_names, ∀ j ∈ own_names, pk i.1 = pk j.1 → i.1 = j.1 := fun i hi j hj q => Classical.byContradiction fun ne => (ho i hi).ne (ho j hj) (fun z => ne (Value.int.inj z)) q
  obtain ⟨n, o, h1, h2, h3, _, L, rfl, ⟨rfl, N⟩, hq⟩ := rm0 l s _ hw tables_1 i0 pk s.heap s.heap.size (Nat.le_refl _) tok hinj p e ha hc hk s m _ below hf ((Spec.applies_iff_loose hf).mp happ).1 ⟨rfl, State.Warmed39.refl s, rfl⟩ trivial
  refine ⟨n, _, h1, h2, h3, hpost _ _ _ _ _ _ ⟨Cond.after_iff.mpr rfl, Cond.after_iff.mpr (eq_i res_at (Term.int_eval (1)) rfl), trivial⟩ ⟨hq.1, hq.2.1, (hq.2.2.sift fun y hy => Or.inr (N y hy)).mono (by decide) (by decide)⟩⟩
theorem main_1_1 : Claimed_1_1 := comes_1 fun _ _ _ _ _ _ h hF => ⟨h.1, hF⟩
theorem main_1_2 : Claimed_1_2 := comes_1 fun _ _ _ _ _ _ h hF => ⟨h.2.1, hF⟩
end Jvm.Pilot.@@N@@
namespace Jvm.Pilot.@@N@@
open Jvm Jvm.ClassFile Sem Op Lib Jvm.Free Jvm.Stand Jvm.Pilot.@@N@@.Jvm.D
/-! MADE BY PROGRAM (witnessworld.py) out of the Statement's table words and the real class files: 14 classes; the members and pool entries that the words name. The judged class is class 1, her method 1. -/
namespace start1
open Jvm.ClassFile
def u (s : String) : CpInfo := .utf8 (stringToUtf16 s)
/-- a pool by its gaps: so many unusable entries, then the entry; so many at the end -/
def gap : Nat → List CpInfo → List CpInfo
  | 0, r => r
  | n + 1, r => .unusable :: gap n r
def poolList (es : List (Nat × CpInfo)) (last : Nat) : List CpInfo := es.foldr (fun e r => gap e.1 (e.2 :: r)) (gap last [])
def pool (es : List (Nat × CpInfo)) (last : Nat) : Array CpInfo := ⟨poolList es last⟩
def fileOf (pool : Array CpInfo) (this : Nat) (attrs : Array Attribute := #[]) (ms : Array MethodInfo := #[]) (fl : Nat := 33) (sup : Nat := 0) (ifs : Array Nat := #[]) (fds : Array FieldInfo := #[]) : ClassFile where
  minorVersion := 0
  majorVersion := 65
  constantPool := pool
  accessFlags := fl
  thisClass := this
  superClass := sup
  interfaces := ifs
  fields := fds
  methods := ms
  attributes := attrs
def plain (name : String) (sup : Option ClassId) : Class where
  name := name
  kind := .ordinary
  loader := none
  accessFlags := 33
  super := sup
  interfaces := #[]
  cf := none
  fields := #[]
  methods := #[]
  instanceTypes := #[]
  staticTypes := #[]
  resolved := #[]
  callSites := []
  init := .initialized
  statics := none
  mirror := none

def pool0 : Array CpInfo := pool [(5, u "<init>"), (0, u "()V"), (1, .class_ 10), (1, u "java/lang/Object")] 113

def k0m0 : Method := { name := "<init>", desc := "()V", sig := { parameters := [], returnType := none }, accessFlags := 1, code := none }
/-- java/lang/Object -/
def k0 : Class := { plain "java/lang/Object" none with
  accessFlags := 33
  interfaces := #[]
  cf := some (fileOf pool0 8 #[] #[{ accessFlags := 1, nameIndex := 5, descriptorIndex := 6, attributes := #[] }] 33 0 #[] #[])
  fields := #[]
  methods := #[k0m0]
  instanceTypes := #[]
  staticTypes := #[]
  resolved := Array.replicate 124 none
  statics := none }

def pool1 : Array CpInfo := pool [(2, .class_ 4), (1, u "java/lang/Object"), (0, u "<init>"), (0, u "()V"), (0, .integer 2147483647), (0, .methodref 9 10), (0, .class_ 11), (0, .nameAndType 12 13), (0, u "com/example/rorqual/rorqual/reader/JsonTokenBeginsValuePinLaw"), (0, u "pick"), (0, u "(I)Lcom/example/rorqual/rorqual/reader/JsonToken;"), (0, .methodref 15 16), (0, .class_ 17), (0, .nameAndType 18 19), (0, u "com/example/rorqual/rorqual/reader/JsonToken"), (0, u "beginsValue"), (0, u "()Z"), (0, .fieldref 15 21), (0, .nameAndType 22 23), (0, u "OBJECT_START"), (0, u "Lcom/example/rorqual/rorqual/reader/JsonToken;"), (0, .fieldref 15 25), (0, .nameAndType 26 23), (0, u "OBJECT_END"), (0, .fieldref 15 28), (0, .nameAndType 29 23), (0, u "ARRAY_START"), (0, .fieldref 15 31), (0, .nameAndType 32 23), (0, u "ARRAY_END"), (0, .fieldref 15 34), (0, .nameAndType 35 23), (0, u "NAME"), (0, .fieldref 15 37), (0, .nameAndType 38 23), (0, u "STRING"), (0, .fieldref 15 40), (0, .nameAndType 41 23), (0, u "NUMBER"), (0, .fieldref 15 43), (0, .nameAndType 44 23), (0, u "TRUE"), (0, .fieldref 15 46), (0, .nameAndType 47 23), (0, u "FALSE"), (0, .fieldref 15 49), (0, .nameAndType 50 23), (0, u "NULL"), (0, .fieldref 15 52), (0, .nameAndType 53 23), (0, u "END_OF_TEXT"), (2, u "law"), (0, u "(I)Z")] 5

def k1m0 : Method := { name := "<init>", desc := "()V", sig := { parameters := [], returnType := none }, accessFlags := 1, code := none }
def k1c1 : Code := { maxStack := 4, maxLocals := 4, code := code, exceptionTable := #[], attributes := #[] }
def k1m1 : Method := { name := "law", desc := "(I)Z", sig := { parameters := [.int], returnType := some .boolean }, accessFlags := 9, code := some k1c1 }
def k1c2 : Code := { maxStack := 2, maxLocals := 1, code := method_3_code, exceptionTable := #[], attributes := #[] }
def k1m2 : Method := { name := "pick", desc := "(I)Lcom/example/rorqual/rorqual/reader/JsonToken;", sig := { parameters := [.int], returnType := some (.object "com/example/rorqual/rorqual/reader/JsonToken") }, accessFlags := 10, code := some k1c2 }
/-- com/example/rorqual/rorqual/reader/JsonTokenBeginsValuePinLaw -/
def k1 : Class := { plain "com/example/rorqual/rorqual/reader/JsonTokenBeginsValuePinLaw" (some 0) with
  accessFlags := 49
  interfaces := #[]
  cf := some (fileOf pool1 9 #[] #[{ accessFlags := 1, nameIndex := 5, descriptorIndex := 6, attributes := #[] }, { accessFlags := 9, nameIndex := 56, descriptorIndex := 57, attributes := #[] }, { accessFlags := 10, nameIndex := 12, descriptorIndex := 13, attributes := #[] }] 49 2 #[] #[])
  fields := #[]
  methods := #[k1m0, k1m1, k1m2]
  instanceTypes := #[]
  staticTypes := #[]
  resolved := Array.replicate 63 none
  statics := none }

def pool2 : Array CpInfo := pool [(1, .class_ 2), (0, u "java/lang/constant/Constable"), (0, .class_ 4), (0, u "java/lang/Object")] 6

/-- java/lang/constant/Constable -/
def k2 : Class := { plain "java/lang/constant/Constable" (some 0) with
  accessFlags := 1537
  interfaces := #[]
  cf := some (fileOf pool2 1 #[] #[] 1537 3 #[] #[])
  fields := #[]
  methods := #[]
  instanceTypes := #[]
  staticTypes := #[]
  resolved := Array.replicate 11 none
  statics := none }

def pool3 : Array CpInfo := pool [(1, .class_ 2), (0, u "java/lang/Comparable"), (0, .class_ 4), (0, u "java/lang/Object")] 7

/-- java/lang/Comparable -/
def k3 : Class := { plain "java/lang/Comparable" (some 0) with
  accessFlags := 1537
  interfaces := #[]
  cf := some (fileOf pool3 1 #[] #[] 1537 3 #[] #[])
  fields := #[]
  methods := #[]
  instanceTypes := #[]
  staticTypes := #[]
  resolved := Array.replicate 12 none
  statics := none }

def pool4 : Array CpInfo := pool [(1, .class_ 2), (0, u "java/io/Serializable"), (0, .class_ 4), (0, u "java/lang/Object")] 2

/-- java/io/Serializable -/
def k4 : Class := { plain "java/io/Serializable" (some 0) with
  accessFlags := 1537
  interfaces := #[]
  cf := some (fileOf pool4 1 #[] #[] 1537 3 #[] #[])
  fields := #[]
  methods := #[]
  instanceTypes := #[]
  staticTypes := #[]
  resolved := Array.replicate 7 none
  statics := none }

def pool5 : Array CpInfo := pool [(2, .class_ 4), (1, u "java/lang/Enum"), (0, u "name"), (0, u "Ljava/lang/String;"), (2, u "ordinal"), (0, u "I"), (1, .class_ 14), (1, u "java/lang/Object"), (4, u "hash"), (86, .class_ 108), (1, u "java/lang/Enum$EnumDesc"), (2, .class_ 112), (0, u "java/lang/constant/Constable"), (0, .class_ 114), (0, u "java/lang/Comparable"), (0, .class_ 116), (0, u "java/io/Serializable")] 87

/-- java/lang/Enum -/
def k5 : Class := { plain "java/lang/Enum" (some 0) with
  accessFlags := 1057
  interfaces := #[2, 3, 4]
  cf := some (fileOf pool5 2 #[.nestMembers #[106]] #[] 1057 12 #[111, 113, 115] #[{ accessFlags := 18, nameIndex := 5, descriptorIndex := 6, attributes := #[] }, { accessFlags := 18, nameIndex := 9, descriptorIndex := 10, attributes := #[] }, { accessFlags := 2, nameIndex := 19, descriptorIndex := 10, attributes := #[] }])
  fields := #[{ name := "name", type := (.object "java/lang/String"), accessFlags := 18, slot := 0, constantValue := 0 }, { name := "ordinal", type := .int, accessFlags := 18, slot := 1, constantValue := 0 }, { name := "hash", type := .int, accessFlags := 2, slot := 2, constantValue := 0 }]
  methods := #[]
  instanceTypes := #[(.object "java/lang/String"), .int, .int]
  staticTypes := #[]
  resolved := Array.replicate 204 none
  statics := none }

def pool6 : Array CpInfo := pool [(1, .class_ 2), (0, u "com/example/rorqual/rorqual/reader/JsonToken"), (2, u "OBJECT_START"), (0, u "Lcom/example/rorqual/rorqual/reader/JsonToken;"), (0, .fieldref 1 8), (0, .nameAndType 9 6), (0, u "OBJECT_END"), (2, u "ARRAY_START"), (0, .fieldref 1 14), (0, .nameAndType 15 6), (0, u "ARRAY_END"), (0, .fieldref 1 17), (0, .nameAndType 18 6), (0, u "NAME"), (2, u "STRING"), (2, u "NUMBER"), (2, u "TRUE"), (2, u "FALSE"), (2, u "NULL"), (0, .fieldref 1 35), (0, .nameAndType 36 6), (0, u "END_OF_TEXT"), (2, u "$VALUES"), (0, u "[Lcom/example/rorqual/rorqual/reader/JsonToken;"), (6, .class_ 49), (1, u "java/lang/Enum"), (29, u "beginsValue"), (0, u "()Z")] 5

def k6c0 : Code := { maxStack := 2, maxLocals := 1, code := prog_48_method_4_code, exceptionTable := #[], attributes := #[] }
def k6m0 : Method := { name := "beginsValue", desc := "()Z", sig := { parameters := [], returnType := some .boolean }, accessFlags := 1, code := some k6c0 }
/-- com/example/rorqual/rorqual/reader/JsonToken -/
def k6 : Class := { plain "com/example/rorqual/rorqual/reader/JsonToken" (some 5) with
  accessFlags := 16433
  interfaces := #[]
  cf := some (fileOf pool6 1 #[] #[{ accessFlags := 1, nameIndex := 79, descriptorIndex := 80, attributes := #[] }] 16433 47 #[] #[{ accessFlags := 16409, nameIndex := 5, descriptorIndex := 6, attributes := #[] }, { accessFlags := 16409, nameIndex := 9, descriptorIndex := 6, attributes := #[] }, { accessFlags := 16409, nameIndex := 12, descriptorIndex := 6, attributes := #[] }, { accessFlags := 16409, nameIndex := 15, descriptorIndex := 6, attributes := #[] }, { accessFlags := 16409, nameIndex := 18, descriptorIndex := 6, attributes := #[] }, { accessFlags := 16409, nameIndex := 21, descriptorIndex := 6, attributes := #[] }, { accessFlags := 16409, nameIndex := 24, descriptorIndex := 6, attributes := #[] }, { accessFlags := 16409, nameIndex := 27, descriptorIndex := 6, attributes := #[] }, { accessFlags := 16409, nameIndex := 30, descriptorIndex := 6, attributes := #[] }, { accessFlags := 16409, nameIndex := 33, descriptorIndex := 6, attributes := #[] }, { accessFlags := 16409, nameIndex := 36, descriptorIndex := 6, attributes := #[] }, { accessFlags := 4122, nameIndex := 39, descriptorIndex := 40, attributes := #[] }])
  fields := #[{ name := "OBJECT_START", type := (.object "com/example/rorqual/rorqual/reader/JsonToken"), accessFlags := 16409, slot := 0, constantValue := 0 }, { name := "OBJECT_END", type := (.object "com/example/rorqual/rorqual/reader/JsonToken"), accessFlags := 16409, slot := 1, constantValue := 0 }, { name := "ARRAY_START", type := (.object "com/example/rorqual/rorqual/reader/JsonToken"), accessFlags := 16409, slot := 2, constantValue := 0 }, { name := "ARRAY_END", type := (.object "com/example/rorqual/rorqual/reader/JsonToken"), accessFlags := 16409, slot := 3, constantValue := 0 }, { name := "NAME", type := (.object "com/example/rorqual/rorqual/reader/JsonToken"), accessFlags := 16409, slot := 4, constantValue := 0 }, { name := "STRING", type := (.object "com/example/rorqual/rorqual/reader/JsonToken"), accessFlags := 16409, slot := 5, constantValue := 0 }, { name := "NUMBER", type := (.object "com/example/rorqual/rorqual/reader/JsonToken"), accessFlags := 16409, slot := 6, constantValue := 0 }, { name := "TRUE", type := (.object "com/example/rorqual/rorqual/reader/JsonToken"), accessFlags := 16409, slot := 7, constantValue := 0 }, { name := "FALSE", type := (.object "com/example/rorqual/rorqual/reader/JsonToken"), accessFlags := 16409, slot := 8, constantValue := 0 }, { name := "NULL", type := (.object "com/example/rorqual/rorqual/reader/JsonToken"), accessFlags := 16409, slot := 9, constantValue := 0 }, { name := "END_OF_TEXT", type := (.object "com/example/rorqual/rorqual/reader/JsonToken"), accessFlags := 16409, slot := 10, constantValue := 0 }, { name := "$VALUES", type := (.array (.object "com/example/rorqual/rorqual/reader/JsonToken")), accessFlags := 4122, slot := 11, constantValue := 0 }]
  methods := #[k6m0]
  instanceTypes := #[(.object "java/lang/String"), .int, .int]
  staticTypes := #[(.object "com/example/rorqual/rorqual/reader/JsonToken"), (.object "com/example/rorqual/rorqual/reader/JsonToken"), (.object "com/example/rorqual/rorqual/reader/JsonToken"), (.object "com/example/rorqual/rorqual/reader/JsonToken"), (.object "com/example/rorqual/rorqual/reader/JsonToken"), (.object "com/example/rorqual/rorqual/reader/JsonToken"), (.object "com/example/rorqual/rorqual/reader/JsonToken"), (.object "com/example/rorqual/rorqual/reader/JsonToken"), (.object "com/example/rorqual/rorqual/reader/JsonToken"), (.object "com/example/rorqual/rorqual/reader/JsonToken"), (.object "com/example/rorqual/rorqual/reader/JsonToken"), (.array (.object "com/example/rorqual/rorqual/reader/JsonToken"))]
  resolved := Array.replicate 86 none
  statics := some 0 }

def pool7 : Array CpInfo := pool [(1, u "java/lang/Cloneable"), (0, .class_ 1), (0, u "java/lang/Object"), (0, .class_ 3)] 3

/-- java/lang/Cloneable -/
def k7 : Class := { plain "java/lang/Cloneable" (some 0) with
  accessFlags := 1537
  interfaces := #[]
  cf := some (fileOf pool7 2 #[] #[] 1537 4 #[] #[])
  fields := #[]
  methods := #[]
  instanceTypes := #[]
  staticTypes := #[]
  resolved := Array.replicate 8 none
  statics := none }

/-- the primitive boolean -/
def k8 : Class := { plain "boolean" none with kind := .primitive 'Z', accessFlags := 0x411 }
/-- [Z -/
def k9 : Class := { plain "[Z" (some 0) with kind := .array 8 .boolean, interfaces := #[7, 4], accessFlags := 1041 }

/-- the primitive byte -/
def k10 : Class := { plain "byte" none with kind := .primitive 'B', accessFlags := 0x411 }
/-- [B -/
def k11 : Class := { plain "[B" (some 0) with kind := .array 10 .byte, interfaces := #[7, 4], accessFlags := 1041 }

/-- the primitive int -/
def k12 : Class := { plain "int" none with kind := .primitive 'I', accessFlags := 0x411 }
/-- [I -/
def k13 : Class := { plain "[I" (some 0) with kind := .array 12 .int, interfaces := #[7, 4], accessFlags := 1041 }

def heap : Heap := #[{ cls := 6, slots := #[.ref 1, .ref 2, .ref 3, .ref 4, .ref 5, .ref 6, .ref 7, .ref 8, .ref 9, .ref 10, .ref 11, .null], vm := .statics 6 },
  { cls := 6, slots := #[.null, .int 0, .int 0], vm := .none },
  { cls := 6, slots := #[.null, .int 1, .int 0], vm := .none },
  { cls := 6, slots := #[.null, .int 2, .int 0], vm := .none },
  { cls := 6, slots := #[.null, .int 3, .int 0], vm := .none },
  { cls := 6, slots := #[.null, .int 4, .int 0], vm := .none },
  { cls := 6, slots := #[.null, .int 5, .int 0], vm := .none },
  { cls := 6, slots := #[.null, .int 6, .int 0], vm := .none },
  { cls := 6, slots := #[.null, .int 7, .int 0], vm := .none },
  { cls := 6, slots := #[.null, .int 8, .int 0], vm := .none },
  { cls := 6, slots := #[.null, .int 9, .int 0], vm := .none },
  { cls := 6, slots := #[.null, .int 10, .int 0], vm := .none }]
def classes : Array Class := #[k0, k1, k2, k3, k4, k5, k6, k7, k8, k9, k10, k11, k12, k13]
def interned : List (Array UInt16 × Addr) := []
def slotsUsed : Nat := 45
def theMethod : MethodId := ⟨1, 1⟩
def args0 : Array Value := #[.int 3]
def aboutOver (below : List Frame) : State where
  vm := { classes := classes, interned := interned.toArray }
  heap := heap
  slotsUsed := slotsUsed
  threads := #[{ frames := .invoking theMethod args0 :: below }]
def below0 : List Frame := [.native { method := ⟨0, 0⟩, args := #[] }]
def about1 : State := aboutOver below0
def p0 : Program := .bare "" "" ""
def e0 : Env := launch0.env 0 0 0
theorem w_frames : about1.frames = Frame.invoking theMethod args0 :: below0 := rfl
set_option maxRecDepth 65536 in
theorem w_args : argsFit about1.vm theMethod args0 = true := by decide +kernel
set_option maxRecDepth 65536 in
theorem w_heap : heapFits about1 = true := by decide +kernel
set_option maxRecDepth 65536 in
theorem w_runnable : about1.curStatus? = some .runnable := by decide +kernel
set_option maxRecDepth 65536 in
theorem w_alone : about1.alone = true := by decide +kernel
set_option maxRecDepth 65536 in
theorem w_named : about1.methodNamed? x = some theMethod := by decide +kernel
set_option maxRecDepth 65536 in
theorem w_hears : about1.hears theMethod below0 = true := by decide +kernel
set_option maxRecDepth 65536 in
theorem w_ripe : about1.ripe theMethod args0 below0 = true := by decide +kernel
theorem w_running : about1.status = .running := rfl
set_option maxRecDepth 65536 in
theorem w_room : about1.hasRoom e0.platform room_1 = true :=
  launch0.hasRoom_least _ room_1 (by decide +kernel) (by decide +kernel) (by decide +kernel) (by decide +kernel) (by decide +kernel) (by decide +kernel)
theorem allAtoms_all (ts : List Jvm.Cond) (a : Array Jvm.Value) (st : Jvm.State) : (allAtoms ts).before a st = ts.all (fun c => c.before a st) := by
  induction ts with
  | nil => rfl
  | cons c t ih =>
    show (Jvm.Cond.and c (allAtoms t)).before a st = _
    rw [Jvm.Cond.before_and, ih, List.all_cons]
def words1 : List Jvm.Cond := Jvm.Cond.code x code maxLocals ret :: tables_1
/-- a 'code' word, met by the world's own term for the bytes: nothing is compared byte by byte -/
theorem code_word {y : MethodName} {bytes : ByteArray} {mx : Nat} {rt : Option FieldType} {a : Array Value} {s : State} {m : MethodId} {meth : Method} {c : Code} (h1 : s.methodNamed? y = some m) (h2 : s.vm.method? m = some meth) (h3 : meth.code = some c) (h4 : c.code = bytes)
    (h5 : (c.maxLocals == mx && c.exceptionTable.isEmpty && decide (c.maxStack ≤ mostOperands) && decide (meth.sig.returnType = rt) && !meth.locks && decide (parseMethodDescriptor y.desc = some meth.sig)) = true) : (Jvm.Cond.code y bytes mx rt).before a s = true := by
  simp only [Bool.and_eq_true, beq_iff_eq, Bool.not_eq_true', decide_eq_true_eq] at h5
  obtain ⟨⟨⟨⟨⟨g1, g2⟩, g3⟩, g4⟩, g5⟩, g6⟩ := h5
  simp [Cond.before, Cond.holds, Cond.value, h1, h2, h3, h4, g1, g2, g3, g4, g5, g6]
def isCode : Jvm.Cond → Bool
  | .code _ _ _ _ => true
  | _ => false
theorem all_split {L : List Jvm.Cond} {P : Jvm.Cond → Bool} (h1 : L.all (fun c => isCode c || P c) = true) (h2 : ∀ c ∈ L.filter isCode, P c = true) : L.all P = true := by
  refine List.all_eq_true.mpr fun c hc => ?_
  have h := List.all_eq_true.mp h1 c hc
  rcases Bool.eq_false_or_eq_true (isCode c) with hi | hi
  · exact h2 c (List.mem_filter.mpr ⟨hc, hi⟩)
  · simpa [hi] using h
set_option maxRecDepth 65536 in
theorem w_c0 : (Jvm.Cond.code x code maxLocals ret).before args0 about1 = true := code_word (m := ⟨1, 1⟩) (meth := k1m1) (c := k1c1) (by decide +kernel) rfl rfl rfl (by decide +kernel)
set_option maxRecDepth 65536 in
theorem w_c1 : (Jvm.Cond.code ({ cls := "com/example/rorqual/rorqual/reader/JsonTokenBeginsValuePinLaw", name := "pick", desc := "(I)Lcom/example/rorqual/rorqual/reader/JsonToken;" } : Jvm.MethodName) method_3_code (1 : Nat) (Option.some (Jvm.ClassFile.FieldType.object "com/example/rorqual/rorqual/reader/JsonToken"))).before args0 about1 = true := code_word (m := ⟨1, 2⟩) (meth := k1m2) (c := k1c2) (by decide +kernel) rfl rfl rfl (by decide +kernel)
set_option maxRecDepth 65536 in
theorem w_c2 : (Jvm.Cond.code ({ cls := "com/example/rorqual/rorqual/reader/JsonToken", name := "beginsValue", desc := "()Z" } : Jvm.MethodName) prog_48_method_4_code (1 : Nat) (Option.some Jvm.ClassFile.FieldType.boolean)).before args0 about1 = true := code_word (m := ⟨6, 0⟩) (meth := k6m0) (c := k6c0) (by decide +kernel) rfl rfl rfl (by decide +kernel)
def codes1 : List Jvm.Cond := [Jvm.Cond.code x code maxLocals ret, Jvm.Cond.code ({ cls := "com/example/rorqual/rorqual/reader/JsonTokenBeginsValuePinLaw", name := "pick", desc := "(I)Lcom/example/rorqual/rorqual/reader/JsonToken;" } : Jvm.MethodName) method_3_code (1 : Nat) (Option.some (Jvm.ClassFile.FieldType.object "com/example/rorqual/rorqual/reader/JsonToken")), Jvm.Cond.code ({ cls := "com/example/rorqual/rorqual/reader/JsonToken", name := "beginsValue", desc := "()Z" } : Jvm.MethodName) prog_48_method_4_code (1 : Nat) (Option.some Jvm.ClassFile.FieldType.boolean)]
set_option maxRecDepth 65536 in
theorem codes_eq : words1.filter isCode = codes1 := rfl
theorem w_codes : ∀ c ∈ words1.filter isCode, c.before args0 about1 = true := by
  rw [codes_eq]
  intro c hc
  simp only [codes1, List.mem_cons, List.not_mem_nil, or_false] at hc
  rcases hc with rfl | rfl | rfl
  · exact w_c0
  · exact w_c1
  · exact w_c2
set_option maxRecDepth 65536 in
theorem w_t1 : (words1.take 24).all (fun c => isCode c || c.before args0 about1) = true := by decide +kernel
set_option maxRecDepth 65536 in
theorem w_t2 : (words1.drop 24).all (fun c => isCode c || c.before args0 about1) = true := by decide +kernel
theorem w_tables : (allAtoms (Jvm.Cond.code x code maxLocals ret :: tables_1)).before args0 about1 = true := by
  rw [allAtoms_all]
  show words1.all (fun c => c.before args0 about1) = true
  refine all_split ?_ w_codes
  rw [← List.take_append_drop 24 words1, List.all_append, w_t1, w_t2]
  rfl
set_option maxRecDepth 65536 in
theorem w_case : (Jvm.Cond.and given_1 narrow_1).before args0 about1 = true := by decide +kernel
theorem w_applies : (headSpec (Jvm.Cond.code x code maxLocals ret :: tables_1) room_1).applies x e0.platform about1 = true :=
  (Spec.applies_iff w_frames).mpr ⟨w_running, w_runnable, w_alone, w_named, w_hears, w_ripe, w_room, w_tables⟩
theorem atStart : AtStart classFile x code maxLocals ret World_1 tables_1 room_1 Calls_1 rest_1 Pre_1 launch0 p0 e0 about1 theMethod args0 below0 :=
  ⟨lists_1, trivial, launch0.admits_env _ _ _, launch0.least_env, fairChoices_fair.cas, fairChoices_fair.clock, w_frames, w_args, w_heap, w_applies, trivial, trivial, w_case⟩
end start1
theorem witness_1 : WitnessClaimed_1 := ⟨start1.p0, start1.e0, start1.about1, start1.theMethod, start1.args0, start1.below0, start1.atStart⟩
end Jvm.Pilot.@@N@@
