import JvmDerived
import JvmDerived.Pilot.@@N@@Statement
import JvmDerived.Pilot.@@N@@Code
set_option linter.unusedVariables false
set_option linter.unusedSimpArgs false
@@BLOCK:NumsL.lean.txt@@
namespace Jvm.Pilot.@@N@@
open Jvm Jvm.ClassFile Sem Op Lib Jvm.Free Jvm.Stand Jvm.LawKit Jvm.RoadKit Bundle Jvm.Pilot.@@N@@.Jvm.D
section Own
variable {p : Program} {l : Launch} {e : Env} {R : Room} {s : State} {m : MethodId} {args : Array Value} {below : List Frame} {meth : Method} {c : Code} {T : State} {locs : List Loc} {cells slots : Nat}
theorem own_ireturn (X : Stand p l e R s m args below meth c T locs cells slots) (hx : p.tables.exec = Jvm.exec) {pc : Nat} {Ls : Array Slot} {z : Int32} {rest : List Value} (hret : meth.sig.returnType = some .int) (hd : decode c.code pc = .ok (.ireturn, 1)) {fs : List Frame}
    (hl : ∀ (f : JFrame) (acts : List Action), f.method = m → f.locked = none → f.entered = [] → (doReturn e (T.setTop f) acts (some (.int z))).1 = T.setFrames fs) : Steps p.tables e below (T.setTop (mkF m pc Ls (.int z :: rest))) (T.setFrames fs) := by
  have hm' : T.vm.method? m = some meth := X.method'
  have hn : narrow .int (.int z) = .int z := rfl
  show Steps p.tables e below (T.setTop { method := m, pc := pc, locals := Ls, stack := _ :: rest, locked := none }) _
  jvm_step X.here [X.here.top, hx, hd, hm', hret, hn]
  first | (intro acts; rw [hl _ acts rfl rfl rfl]) | rw [hl _ _ rfl rfl rfl]
  exact Steps.refl _
theorem own_more (X : Stand p l e R s m args below meth c T locs cells slots) {k n : Nat} (h1 : cells ≤ k) (h2 : slots ≤ n) : Stand p l e R s m args below meth c T locs k n := { X with same := X.same.mono h1 h2 }
theorem own_retV (X : Stand p l e R s m args below meth c T locs cells slots) (hx : p.tables.exec = Jvm.exec) (hlk : meth.locks = false) (hret : meth.sig.returnType = none) {pc : Nat} {Ls : Array Slot} (hd : decode c.code pc = .ok (.return_, 1)) {base : State}
    (pre : ∀ t, Steps p.tables e below (T.setTop (mkF m pc Ls [])) t → Steps p.tables e below base t) {Q : Option Value → Heap → List Loc → Prop} (hQ : Q none T.heap locs) {k n : Nat} (h1 : cells ≤ k) (h2 : slots ≤ n) :
    ∃ s₂ o, Steps p.tables e below base s₂ ∧ s₂.status = .running ∧ Ended s₂ below o ∧ ∃ v L, o = .returned v ∧ Q v s₂.heap L ∧ FrameEnd s o s₂ L k n := by
  obtain ⟨fs, hr, hrun, hended, hW, hsame⟩ := X.leave (v := none) (fun _ => rfl)
  exact ⟨_, _, pre _ (X.returnOut hx hret hd hr), hrun, hended, _, _, rfl, hQ, ⟨_, rfl⟩, hW, hsame.mono h1 h2⟩
theorem own_retI (X : Stand p l e R s m args below meth c T locs cells slots) (hx : p.tables.exec = Jvm.exec) (hlk : meth.locks = false) (hret : meth.sig.returnType = some .int) {pc : Nat} {Ls : Array Slot} {z : Int32} {rest : List Value} (hd : decode c.code pc = .ok (.ireturn, 1)) {base : State}
    (pre : ∀ t, Steps p.tables e below (T.setTop (mkF m pc Ls (.int z :: rest))) t → Steps p.tables e below base t) {Q : Option Value → Heap → List Loc → Prop} (hQ : Q (some (.int z)) T.heap locs) {k n : Nat} (h1 : cells ≤ k) (h2 : slots ≤ n) :
    ∃ s₂ o, Steps p.tables e below base s₂ ∧ s₂.status = .running ∧ Ended s₂ below o ∧ ∃ v L, o = .returned v ∧ Q v s₂.heap L ∧ FrameEnd s o s₂ L k n := by
  obtain ⟨fs, hr, hrun, hended, hW, hsame⟩ := X.leave (v := some (.int z)) (fun h => by rw [hret] at h; cases h)
  exact ⟨_, _, pre _ (own_ireturn X hx hret hd hr), hrun, hended, _, _, rfl, hQ, ⟨_, rfl⟩, hW, hsame.mono h1 h2⟩
theorem own_retN (X : Stand p l e R s m args below meth c T locs cells slots) (hx : p.tables.exec = Jvm.exec) (hlk : meth.locks = false) {t : FieldType} (hret : meth.sig.returnType = some t) (ht : t = .boolean ∨ t = .byte ∨ t = .char ∨ t = .short) {pc : Nat} {Ls : Array Slot} {z : Int32} {rest : List Value} (hd : decode c.code pc = .ok (.ireturn, 1)) {base : State}
    (pre : ∀ t, Steps p.tables e below (T.setTop (mkF m pc Ls (.int z :: rest))) t → Steps p.tables e below base t) {Q : Option Value → Heap → List Loc → Prop} (hQ : Q (some (.int (nar t z))) T.heap locs) {k n : Nat} (h1 : cells ≤ k) (h2 : slots ≤ n) :
    ∃ s₂ o, Steps p.tables e below base s₂ ∧ s₂.status = .running ∧ Ended s₂ below o ∧ ∃ v L, o = .returned v ∧ Q v s₂.heap L ∧ FrameEnd s o s₂ L k n := by
  obtain ⟨fs, hr, hrun, hended, hW, hsame⟩ := X.leave (v := some (.int (nar t z))) (fun h => by rw [hret] at h; cases h)
  exact ⟨_, _, pre _ (retN X hx hret ht hd hr), hrun, hended, _, _, rfl, hQ, ⟨_, rfl⟩, hW, hsame.mono h1 h2⟩
theorem own_retJ (X : Stand p l e R s m args below meth c T locs cells slots) (hx : p.tables.exec = Jvm.exec) (hlk : meth.locks = false) (hret : meth.sig.returnType = some .long) {pc : Nat} {Ls : Array Slot} {z : Int64} (hd : decode c.code pc = .ok (.lreturn, 1)) {base : State}
    (pre : ∀ t, Steps p.tables e below (T.setTop (mkF m pc Ls [.long z])) t → Steps p.tables e below base t) {Q : Option Value → Heap → List Loc → Prop} (hQ : Q (some (.long z)) T.heap locs) {k n : Nat} (h1 : cells ≤ k) (h2 : slots ≤ n) :
    ∃ s₂ o, Steps p.tables e below base s₂ ∧ s₂.status = .running ∧ Ended s₂ below o ∧ ∃ v L, o = .returned v ∧ Q v s₂.heap L ∧ FrameEnd s o s₂ L k n := by
  obtain ⟨fs, hr, hrun, hended, hW, hsame⟩ := X.leave (v := some (.long z)) (fun h => by rw [hret] at h; cases h)
  exact ⟨_, _, pre _ (X.lreturnOut hx hret hd hr), hrun, hended, _, _, rfl, hQ, ⟨_, rfl⟩, hW, hsame.mono h1 h2⟩
theorem own_retA (X : Stand p l e R s m args below meth c T locs cells slots) (hx : p.tables.exec = Jvm.exec) (hlk : meth.locks = false) {w : Value} {t : FieldType} (hw : w.isRef = true) (hret : meth.sig.returnType = some t) (ht : t.isReference = true) {pc : Nat} {Ls : Array Slot} (hd : decode c.code pc = .ok (.areturn, 1)) {base : State}
    (pre : ∀ t, Steps p.tables e below (T.setTop (mkF m pc Ls [w])) t → Steps p.tables e below base t) {Q : Option Value → Heap → List Loc → Prop} (hQ : Q (some w) T.heap locs) {k n : Nat} (h1 : cells ≤ k) (h2 : slots ≤ n) :
    ∃ s₂ o, Steps p.tables e below base s₂ ∧ s₂.status = .running ∧ Ended s₂ below o ∧ ∃ v L, o = .returned v ∧ Q v s₂.heap L ∧ FrameEnd s o s₂ L k n := by
  obtain ⟨fs, hr, hrun, hended, hW, hsame⟩ := X.leave (v := some w) (fun h => by rw [hret] at h; cases h)
  exact ⟨_, _, pre _ (X.areturnOut hx hw hret ht hd hr), hrun, hended, _, _, rfl, hQ, ⟨_, rfl⟩, hW, hsame.mono h1 h2⟩
end Own
abbrev o0 : Value := .int (0 : Int32)
abbrev Y0 (z0 : Int32) (z1 : Int32) : Array Slot := #[.val (.int z0), .val (.int z1), .val .null]
abbrev Y1 (z0 : Int32) (z1 : Int32) (z2 : Addr) : Array Slot := #[.val (.int z0), .val (.int z1), .val (.ref z2)]
abbrev Y2 (z0 : Int32) (z1 : Int32) : Array Slot := #[.val (.int z0), .val (.int z1)]
abbrev Y3 (z0 : Addr) (z1 : Int32) : Array Slot := #[.val (.ref z0), .val (.int z1)]
abbrev Y4 (z0 : Addr) (z1 : Int32) (z2 : Addr) (z3 : Int32) (z4 : Int32) (z5 : Int32) (z6 : Int32) : Array Slot := #[.val (.ref z0), .val (.int z1), .val (.ref z2), .val (.int z3), .val (.int z4), .val (.int z5), .val (.int z6)]
abbrev Y5 (z0 : Addr) (z1 : Int32) (z2 : Addr) (z3 : Int32) (z4 : Int32) (z5 : Int32) : Array Slot := #[.val (.ref z0), .val (.int z1), .val (.ref z2), .val (.int z3), .val (.int z4), .val (.int z5), .unset]
abbrev Y6 (z0 : Addr) (z1 : Int32) (z2 : Int32) : Array Slot := #[.val (.ref z0), .val (.int z1), .val (.int z2), .unset, .unset, .unset]
abbrev Y7 (z0 : Addr) (z1 : Int32) (z2 : Int32) (z3 : Addr) : Array Slot := #[.val (.ref z0), .val (.int z1), .val (.int z2), .val (.ref z3), .unset, .unset]
abbrev Y8 (z0 : Addr) (z1 : Int32) (z2 : Int32) (z3 : Addr) (z4 : Int32) : Array Slot := #[.val (.ref z0), .val (.int z1), .val (.int z2), .val (.ref z3), .val (.int z4), .unset]
abbrev Y9 (z0 : Addr) (z1 : Addr) (z2 : Int32) (z3 : Int32) : Array Slot := #[.val (.ref z0), .val (.ref z1), .val (.int z2), .val (.int z3), .val .null, .unset]
abbrev Y10 (z0 : Addr) (z1 : Addr) (z2 : Int32) (z3 : Int32) (z5 : Addr) : Array Slot := #[.val (.ref z0), .val (.ref z1), .val (.int z2), .val (.int z3), .val .null, .val (.ref z5)]
abbrev Y11 (z0 : Addr) (z1 : Addr) : Array Slot := #[.val (.ref z0), .val (.ref z1)]
abbrev Y12 (z0 : Addr) (z1 : Int32) : Array Slot := #[.val (.ref z0), .val (.int z1), .unset]
abbrev Y13 (z0 : Addr) (z1 : Int32) (z2 : Int32) : Array Slot := #[.val (.ref z0), .val (.int z1), .val (.int z2)]
abbrev Y14 (z0 : Addr) (z1 : Addr) (z2 : Int32) (z3 : Int32) : Array Slot := #[.val (.ref z0), .val (.ref z1), .val (.int z2), .val (.int z3)]
abbrev Y15 (z0 : Addr) (z1 : Int32) (z2 : Addr) : Array Slot := #[.val (.ref z0), .val (.int z1), .val (.ref z2)]
abbrev Y16 (z0 : Addr) (z1 : Addr) : Array Slot := #[.val (.ref z0), .val (.ref z1), .unset]
abbrev Y17 (z0 : Addr) (z1 : Addr) (z2 : Int32) : Array Slot := #[.val (.ref z0), .val (.ref z1), .val (.int z2)]
abbrev Y18 (z0 : Addr) (z1 : Int32) (z2 : Int32) : Array Slot := #[.val (.ref z0), .val (.int z1), .val (.int z2), .unset, .unset]
abbrev Y19 (z0 : Addr) (z1 : Int32) (z2 : Int32) (z3 : Int32) : Array Slot := #[.val (.ref z0), .val (.int z1), .val (.int z2), .val (.int z3), .unset]
abbrev Y20 (z0 : Addr) (z1 : Int32) (z2 : Int32) (z3 : Int32) (z4 : Addr) : Array Slot := #[.val (.ref z0), .val (.int z1), .val (.int z2), .val (.int z3), .val (.ref z4)]
abbrev Y21 (z0 : Addr) (z1 : Addr) : Array Slot := #[.val (.ref z0), .val (.ref z1), .val .null, .unset, .unset]
abbrev Y22 (z0 : Addr) (z1 : Addr) (z3 : Addr) : Array Slot := #[.val (.ref z0), .val (.ref z1), .val .null, .val (.ref z3), .unset]
abbrev Y23 (z0 : Addr) (z1 : Addr) (z3 : Addr) (z4 : Int32) : Array Slot := #[.val (.ref z0), .val (.ref z1), .val .null, .val (.ref z3), .val (.int z4)]
abbrev Y24 (z0 : Addr) (z1 : Int32) (z2 : Int32) (z3 : Int32) : Array Slot := #[.val (.ref z0), .val (.int z1), .val (.int z2), .val (.int z3)]
abbrev Y25 (z0 : Addr) (z1 : Int32) (z2 : Int32) : Array Slot := #[.val (.ref z0), .val (.int z1), .val (.int z2), .unset]
abbrev Y26 (z0 : Addr) (z1 : Addr) (z2 : Addr) : Array Slot := #[.val (.ref z0), .val (.ref z1), .val (.ref z2), .unset, .unset, .unset, .unset]
abbrev Y27 (z0 : Addr) (z1 : Addr) (z2 : Addr) (z3 : Addr) : Array Slot := #[.val (.ref z0), .val (.ref z1), .val (.ref z2), .val (.ref z3), .unset, .unset, .unset]
abbrev Y28 (z0 : Addr) (z1 : Addr) (z2 : Addr) (z3 : Addr) (z4 : Addr) : Array Slot := #[.val (.ref z0), .val (.ref z1), .val (.ref z2), .val (.ref z3), .val (.ref z4), .unset, .unset]
abbrev Y29 (z0 : Addr) (z1 : Addr) (z2 : Addr) (z3 : Addr) (z4 : Addr) (z5 : Int32) : Array Slot := #[.val (.ref z0), .val (.ref z1), .val (.ref z2), .val (.ref z3), .val (.ref z4), .val (.int z5), .unset]
abbrev Y30 (z0 : Addr) (z1 : Addr) (z2 : Addr) (z3 : Addr) (z4 : Addr) (z5 : Int32) (z6 : Int32) : Array Slot := #[.val (.ref z0), .val (.ref z1), .val (.ref z2), .val (.ref z3), .val (.ref z4), .val (.int z5), .val (.int z6)]
abbrev Y31 (z0 : Int32) (z1 : Int32) (z2 : Int32) (z3 : Int32) : Array Slot := #[.val (.int z0), .val (.int z1), .val (.int z2), .val (.int z3), .unset, .unset, .unset, .unset, .unset, .unset, .unset, .unset, .unset, .unset, .unset, .unset, .unset, .unset, .unset, .unset, .unset]
abbrev Y32 (z0 : Int32) (z1 : Int32) (z2 : Int32) (z3 : Int32) (z4 : Int32) : Array Slot := #[.val (.int z0), .val (.int z1), .val (.int z2), .val (.int z3), .val (.int z4), .unset, .unset, .unset, .unset, .unset, .unset, .unset, .unset, .unset, .unset, .unset, .unset, .unset, .unset, .unset, .unset]
abbrev Y33 (z0 : Int32) (z1 : Int32) (z2 : Int32) (z3 : Int32) (z4 : Int32) (z5 : Int32) : Array Slot := #[.val (.int z0), .val (.int z1), .val (.int z2), .val (.int z3), .val (.int z4), .val (.int z5), .unset, .unset, .unset, .unset, .unset, .unset, .unset, .unset, .unset, .unset, .unset, .unset, .unset, .unset, .unset]
abbrev Y34 (z0 : Int32) (z1 : Int32) (z2 : Int32) (z3 : Int32) (z4 : Int32) (z5 : Int32) (z6 : Int32) : Array Slot := #[.val (.int z0), .val (.int z1), .val (.int z2), .val (.int z3), .val (.int z4), .val (.int z5), .val (.int z6), .unset, .unset, .unset, .unset, .unset, .unset, .unset, .unset, .unset, .unset, .unset, .unset, .unset, .unset]
abbrev Y35 (z0 : Int32) (z1 : Int32) (z2 : Int32) (z3 : Int32) (z4 : Int32) (z5 : Int32) (z6 : Int32) (z7 : Int32) : Array Slot := #[.val (.int z0), .val (.int z1), .val (.int z2), .val (.int z3), .val (.int z4), .val (.int z5), .val (.int z6), .val (.int z7), .unset, .unset, .unset, .unset, .unset, .unset, .unset, .unset, .unset, .unset, .unset, .unset, .unset]
abbrev Y36 (z0 : Int32) (z1 : Int32) (z2 : Int32) (z3 : Int32) (z4 : Int32) (z5 : Int32) (z6 : Int32) (z7 : Int32) (z8 : Int32) : Array Slot := #[.val (.int z0), .val (.int z1), .val (.int z2), .val (.int z3), .val (.int z4), .val (.int z5), .val (.int z6), .val (.int z7), .val (.int z8), .unset, .unset, .unset, .unset, .unset, .unset, .unset, .unset, .unset, .unset, .unset, .unset]
abbrev Y37 (z0 : Int32) (z1 : Int32) (z2 : Int32) (z3 : Int32) (z4 : Int32) (z5 : Int32) (z6 : Int32) (z7 : Int32) (z8 : Int32) (z9 : Int32) : Array Slot := #[.val (.int z0), .val (.int z1), .val (.int z2), .val (.int z3), .val (.int z4), .val (.int z5), .val (.int z6), .val (.int z7), .val (.int z8), .val (.int z9), .unset, .unset, .unset, .unset, .unset, .unset, .unset, .unset, .unset, .unset, .unset]
abbrev Y38 (z0 : Int32) (z1 : Int32) (z2 : Int32) (z3 : Int32) (z4 : Int32) (z5 : Int32) (z6 : Int32) (z7 : Int32) (z8 : Int32) (z9 : Int32) (z10 : Addr) : Array Slot := #[.val (.int z0), .val (.int z1), .val (.int z2), .val (.int z3), .val (.int z4), .val (.int z5), .val (.int z6), .val (.int z7), .val (.int z8), .val (.int z9), .val (.ref z10), .unset, .unset, .unset, .unset, .unset, .unset, .unset, .unset, .unset, .unset]
abbrev Y39 (z0 : Int32) (z1 : Int32) (z2 : Int32) (z3 : Int32) (z4 : Int32) (z5 : Int32) (z6 : Int32) (z7 : Int32) (z8 : Int32) (z9 : Int32) (z10 : Addr) (z11 : Int32) : Array Slot := #[.val (.int z0), .val (.int z1), .val (.int z2), .val (.int z3), .val (.int z4), .val (.int z5), .val (.int z6), .val (.int z7), .val (.int z8), .val (.int z9), .val (.ref z10), .val (.int z11), .unset, .unset, .unset, .unset, .unset, .unset, .unset, .unset, .unset]
abbrev Y40 (z0 : Int32) (z1 : Int32) (z2 : Int32) (z3 : Int32) (z4 : Int32) (z5 : Int32) (z6 : Int32) (z7 : Int32) (z8 : Int32) (z9 : Int32) (z10 : Addr) (z11 : Int32) (z12 : Int32) : Array Slot := #[.val (.int z0), .val (.int z1), .val (.int z2), .val (.int z3), .val (.int z4), .val (.int z5), .val (.int z6), .val (.int z7), .val (.int z8), .val (.int z9), .val (.ref z10), .val (.int z11), .val (.int z12), .unset, .unset, .unset, .unset, .unset, .unset, .unset, .unset]
abbrev Y41 (z0 : Int32) (z1 : Int32) (z2 : Int32) (z3 : Int32) (z4 : Int32) (z5 : Int32) (z6 : Int32) (z7 : Int32) (z8 : Int32) (z9 : Int32) (z10 : Addr) (z11 : Int32) (z12 : Int32) (z13 : Int32) : Array Slot := #[.val (.int z0), .val (.int z1), .val (.int z2), .val (.int z3), .val (.int z4), .val (.int z5), .val (.int z6), .val (.int z7), .val (.int z8), .val (.int z9), .val (.ref z10), .val (.int z11), .val (.int z12), .val (.int z13), .unset, .unset, .unset, .unset, .unset, .unset, .unset]
abbrev Y42 (z0 : Int32) (z1 : Int32) (z2 : Int32) (z3 : Int32) (z4 : Int32) (z5 : Int32) (z6 : Int32) (z7 : Int32) (z8 : Int32) (z9 : Int32) (z10 : Addr) (z11 : Int32) (z12 : Int32) (z13 : Int32) (z14 : Int32) : Array Slot := #[.val (.int z0), .val (.int z1), .val (.int z2), .val (.int z3), .val (.int z4), .val (.int z5), .val (.int z6), .val (.int z7), .val (.int z8), .val (.int z9), .val (.ref z10), .val (.int z11), .val (.int z12), .val (.int z13), .val (.int z14), .unset, .unset, .unset, .unset, .unset, .unset]
abbrev Y43 (z0 : Int32) (z1 : Int32) (z2 : Int32) (z3 : Int32) (z4 : Int32) (z5 : Int32) (z6 : Int32) (z7 : Int32) (z8 : Int32) (z9 : Int32) (z10 : Addr) (z11 : Int32) (z12 : Int32) (z13 : Int32) (z14 : Int32) (z15 : Addr) : Array Slot := #[.val (.int z0), .val (.int z1), .val (.int z2), .val (.int z3), .val (.int z4), .val (.int z5), .val (.int z6), .val (.int z7), .val (.int z8), .val (.int z9), .val (.ref z10), .val (.int z11), .val (.int z12), .val (.int z13), .val (.int z14), .val (.ref z15), .unset, .unset, .unset, .unset, .unset]
abbrev Y44 (z0 : Int32) (z1 : Int32) (z2 : Int32) (z3 : Int32) (z4 : Int32) (z5 : Int32) (z6 : Int32) (z7 : Int32) (z8 : Int32) (z9 : Int32) (z10 : Addr) (z11 : Int32) (z12 : Int32) (z13 : Int32) (z14 : Int32) (z15 : Addr) (z16 : Addr) : Array Slot := #[.val (.int z0), .val (.int z1), .val (.int z2), .val (.int z3), .val (.int z4), .val (.int z5), .val (.int z6), .val (.int z7), .val (.int z8), .val (.int z9), .val (.ref z10), .val (.int z11), .val (.int z12), .val (.int z13), .val (.int z14), .val (.ref z15), .val (.ref z16), .unset, .unset, .unset, .unset]
abbrev Y45 (z0 : Int32) (z1 : Int32) (z2 : Int32) (z3 : Int32) (z4 : Int32) (z5 : Int32) (z6 : Int32) (z7 : Int32) (z8 : Int32) (z9 : Int32) (z10 : Addr) (z11 : Int32) (z12 : Int32) (z13 : Int32) (z14 : Int32) (z15 : Addr) (z16 : Addr) (z17 : Addr) : Array Slot := #[.val (.int z0), .val (.int z1), .val (.int z2), .val (.int z3), .val (.int z4), .val (.int z5), .val (.int z6), .val (.int z7), .val (.int z8), .val (.int z9), .val (.ref z10), .val (.int z11), .val (.int z12), .val (.int z13), .val (.int z14), .val (.ref z15), .val (.ref z16), .val (.ref z17), .unset, .unset, .unset]
abbrev Y46 (z0 : Int32) (z1 : Int32) (z2 : Int32) (z3 : Int32) (z4 : Int32) (z5 : Int32) (z6 : Int32) (z7 : Int32) (z8 : Int32) (z9 : Int32) (z10 : Addr) (z11 : Int32) (z12 : Int32) (z13 : Int32) (z14 : Int32) (z15 : Addr) (z16 : Addr) (z17 : Addr) (z18 : Int32) : Array Slot := #[.val (.int z0), .val (.int z1), .val (.int z2), .val (.int z3), .val (.int z4), .val (.int z5), .val (.int z6), .val (.int z7), .val (.int z8), .val (.int z9), .val (.ref z10), .val (.int z11), .val (.int z12), .val (.int z13), .val (.int z14), .val (.ref z15), .val (.ref z16), .val (.ref z17), .val (.int z18), .unset, .unset]
abbrev Y47 (z0 : Int32) (z1 : Int32) (z2 : Int32) (z3 : Int32) (z4 : Int32) (z5 : Int32) (z6 : Int32) (z7 : Int32) (z8 : Int32) (z9 : Int32) (z10 : Addr) (z11 : Int32) (z12 : Int32) (z13 : Int32) (z14 : Int32) (z15 : Addr) (z16 : Addr) (z17 : Addr) (z18 : Int32) (z19 : Int32) : Array Slot := #[.val (.int z0), .val (.int z1), .val (.int z2), .val (.int z3), .val (.int z4), .val (.int z5), .val (.int z6), .val (.int z7), .val (.int z8), .val (.int z9), .val (.ref z10), .val (.int z11), .val (.int z12), .val (.int z13), .val (.int z14), .val (.ref z15), .val (.ref z16), .val (.ref z17), .val (.int z18), .val (.int z19), .unset]
abbrev Y48 (z0 : Int32) (z1 : Int32) (z2 : Int32) (z3 : Int32) (z4 : Int32) (z5 : Int32) (z6 : Int32) (z7 : Int32) (z8 : Int32) (z9 : Int32) (z10 : Addr) (z11 : Int32) (z12 : Int32) (z13 : Int32) (z14 : Int32) (z15 : Addr) (z16 : Addr) (z17 : Addr) (z18 : Int32) (z19 : Int32) (z20 : Int32) : Array Slot := #[.val (.int z0), .val (.int z1), .val (.int z2), .val (.int z3), .val (.int z4), .val (.int z5), .val (.int z6), .val (.int z7), .val (.int z8), .val (.int z9), .val (.ref z10), .val (.int z11), .val (.int z12), .val (.int z13), .val (.int z14), .val (.ref z15), .val (.ref z16), .val (.ref z17), .val (.int z18), .val (.int z19), .val (.int z20)]
abbrev Fa (Z : State) (h : Heap) (a : Addr) (v : Value) : Prop := Fld Z h a "java/lang/String" "coder" "B" v
abbrev Fb (Z : State) (h : Heap) (a : Addr) (v : Value) : Prop := Fld Z h a "java/lang/String" "value" "[B" v
abbrev Fc (Z : State) (h : Heap) (a : Addr) (v : Value) : Prop := Fld Z h a "java/lang/AbstractStringBuilder" "value" "[B" v
abbrev Fd (Z : State) (h : Heap) (a : Addr) (v : Value) : Prop := Fld Z h a "java/lang/AbstractStringBuilder" "coder" "B" v
abbrev Fe (Z : State) (h : Heap) (a : Addr) (v : Value) : Prop := Fld Z h a "java/lang/AbstractStringBuilder" "count" "I" v
abbrev Ff (Z : State) (h : Heap) (a : Addr) (v : Value) : Prop := Fld Z h a "com/example/digitwarden/digitwarden/model/Alphabet" "_values" "[I" v
abbrev Fg (Z : State) (h : Heap) (a : Addr) (v : Value) : Prop := Fld Z h a "com/example/digitwarden/digitwarden/model/Alphabet" "_symbols" "Ljava/lang/String;" v
theorem own_w {a0 : Array Value} {Z : State} (hw : ∀ d ∈ tables_1, d.before a0 Z = true) (i : Nat) {d : Jvm.Cond} (h : tables_1[i]? = some d) : d.before a0 Z = true := hw d (List.mem_of_getElem? h)
abbrev PQ (p : Program) (e : Env) (below : List Frame) (T : State) (F : JFrame) (B : State) : Prop := ∀ t, Steps p.tables e below (T.setTop F) t → Steps p.tables e below B t
abbrev Hw (a0 : Array Value) (Z : State) : Prop := ∀ d ∈ tables_1, d.before a0 Z = true
abbrev MF (l : Launch) (Z : State) (y : MethodName) (b : ByteArray) (ml : Nat) (rt : Option FieldType) (ws : List Jvm.Cond) (R : Room) (A : Array Value) (h0 : Heap) (Q : Option Value → Heap → List Loc → Prop) : Prop := MetFree l y (head1 (Jvm.Cond.code y b ml rt :: ws) R) (fun a U => a = A ∧ Z.Warmed39 U.vm ∧ U.heap = h0) (fun _ _ _ _ _ => True) (fun _ U o U' => ∃ v L, o = .returned v ∧ Q v U'.heap L ∧ FrameEnd U o U' L R.cells R.slots)
theorem own_en {l : Launch} {Z : State} {y : MethodName} {b : ByteArray} {ml : Nat} {rt : Option FieldType} {ws : List Jvm.Cond} {R : Room} {A : Array Value} {h0 : Heap} {Q : Option Value → Heap → List Loc → Prop} {L0 : Array Slot} (hp : plainFor y = true) (hef : ∀ m, entryFrame m A ml = mkF m 0 L0 [])
    (H : ∀ (p : Program) (e : Env) (s : State) (m : MethodId) (below : List Frame) (meth : Method) (c : Code) (s₁ bs : State), p.tables.exec = Jvm.exec → c.code = b → c.maxLocals = ml → Z.Warmed39 s.vm → s.vm.findClass y.cls = some m.cls → meth.name = y.name → Stand p l e R s m A below meth c s₁ [] 0 0 → s₁.heap = h0 → meth.locks = false → meth.sig.returnType = rt → PQ p e below s₁ (mkF m 0 L0 []) bs →
      ∃ s₂ o, Steps p.tables e below bs s₂ ∧ s₂.status = .running ∧ Ended s₂ below o ∧ ∃ v L, o = .returned v ∧ Q v s₂.heap L ∧ FrameEnd s o s₂ L R.cells R.slots) : MF l Z y b ml rt ws R A h0 Q := by
  refine MetFree.of_bodySF hp hisR ?_
  intro p e s m args below meth c s₁ Bd hml0 hP hK
  obtain ⟨rfl, hZ, hh⟩ := hP
  exact H p e s m below meth c s₁ _ Bd.exec Bd.bytes hml0 hZ (findClass_of_methodNamed Bd.named) (name_of_methodNamed Bd.named Bd.method).1 (Stand.of_body Bd) (by rw [← hh, Bd.state]; rfl) Bd.notSynchronized Bd.returns (fun t k => castTop (hef m) k)

theorem own_bool {z : Int32} (h : z = 0 ∨ z = 1) : nar .boolean z = z := by rcases h with rfl | rfl <;> rfl

theorem own_rem {x y : Int32} (hx : 0 ≤ x.toInt) (hy : 0 < y.toInt) : (x - x / y * y).toInt = x.toInt % y.toInt := by
  have hq : (x / y).toInt = x.toInt / y.toInt := by
    rw [Jvm.Kit.i32_div (by omega), Int.tdiv_eq_ediv_of_nonneg hx]
  have h1 : 0 ≤ x.toInt / y.toInt := Int.ediv_nonneg hx (by omega)
  have h2 : x.toInt / y.toInt * y.toInt ≤ x.toInt := Int.ediv_mul_le _ (by omega)
  have h3 : 0 ≤ x.toInt / y.toInt * y.toInt := Int.mul_nonneg h1 (by omega)
  have h4 := Int32.toInt_lt x
  have hm : (x / y * y).toInt = x.toInt / y.toInt * y.toInt := by
    rw [Jvm.Kit.i32_mul (by rw [hq]; omega) (by rw [hq]; omega), hq]
  rw [Jvm.Kit.i32_sub (by rw [hm]; omega) (by rw [hm]; omega), hm, Int.emod_def, Int.mul_comm]

theorem own_retNW {p : Program} {l : Launch} {e : Env} {R : Room} {s : State} {vm₁ : Vm} {m : MethodId} {args : Array Value} {below : List Frame} {meth : Method} {c : Code} {T : State} {locs : List Loc} {cells slots : Nat} (X : Stand p l e R (s.setVm vm₁) m args below meth c T locs cells slots) {k1 : Nat} (hS : s.Since vm₁ k1) (hk : k1 ≤ T.heap.size) (hx : p.tables.exec = Jvm.exec) (hlk : meth.locks = false) {t : FieldType} (hret : meth.sig.returnType = some t) (ht : t = .boolean ∨ t = .byte ∨ t = .char ∨ t = .short) {pc : Nat} {Ls : Array Slot} {z : Int32} {rest : List Value} (hd : decode c.code pc = .ok (.ireturn, 1)) {base : State}
    (pre : ∀ t, Steps p.tables e below (T.setTop (mkF m pc Ls (.int z :: rest))) t → Steps p.tables e below base t) {Q : Option Value → Heap → List Loc → Prop} (hQ : Q (some (.int (nar t z))) T.heap locs) {k n : Nat} (h1 : cells ≤ k) (h2 : slots ≤ n) :
    ∃ s₂ o, Steps p.tables e below base s₂ ∧ s₂.status = .running ∧ Ended s₂ below o ∧ ∃ v L, o = .returned v ∧ Q v s₂.heap L ∧ ReturnedEndW s o s₂ L k n := by
  obtain ⟨fs, hr, hrun, hended, hW⟩ := X.leaveW hS hk (v := some (.int (nar t z))) (fun h => by rw [hret] at h; cases h)
  exact ⟨_, _, pre _ (retN X hx hret ht hd hr), hrun, hended, _, _, rfl, hQ, hW.1, hW.2.1, hW.2.2.1, hW.2.2.2.mono h1 h2⟩

abbrev KV (Z : State) (a0 : Array Value) (own C : String) (index : Nat) (y : MethodName) (bytes : ByteArray) (maxL : Nat) (ret : Option FieldType) : Prop := (Jvm.Cond.methodLink own index y).before a0 Z = true ∧ (Jvm.Cond.declares y).before a0 Z = true ∧ (Jvm.Cond.selects C y y).before a0 Z = true ∧ (Jvm.Cond.instanceMethod y).before a0 Z = true ∧ (Jvm.Cond.code y bytes maxL ret).before a0 Z = true ∧ (Jvm.Cond.initialized y.cls).before a0 Z = true ∧ y.cls ≠ "java/lang/invoke/MethodHandle" ∧ y.cls ≠ "java/lang/invoke/VarHandle"
abbrev KS (Z : State) (a0 : Array Value) (own : String) (index : Nat) (y : MethodName) (bytes : ByteArray) (maxL : Nat) (ret : Option FieldType) : Prop := (Jvm.Cond.methodLink own index y).before a0 Z = true ∧ (Jvm.Cond.static y).before a0 Z = true ∧ (Jvm.Cond.code y bytes maxL ret).before a0 Z = true ∧ (Jvm.Cond.initialized y.cls).before a0 Z = true ∧ y.cls ≠ "java/lang/invoke/MethodHandle" ∧ y.cls ≠ "java/lang/invoke/VarHandle"
abbrev KI (Z : State) (a0 : Array Value) (own : String) (index : Nat) (y : MethodName) (bytes : ByteArray) (maxL : Nat) (ret : Option FieldType) : Prop := (Jvm.Cond.methodLink own index y).before a0 Z = true ∧ (Jvm.Cond.instanceMethod y).before a0 Z = true ∧ (Jvm.Cond.code y bytes maxL ret).before a0 Z = true ∧ (Jvm.Cond.initialized y.cls).before a0 Z = true ∧ y.name = "<init>" ∧ ret = none ∧ y.cls ≠ "java/lang/invoke/MethodHandle" ∧ y.cls ≠ "java/lang/invoke/VarHandle"
theorem own_cV {p : Program} {l : Launch} {e : Env} {R : Room} {s : State} {m : MethodId} {args : Array Value} {below : List Frame} {meth : Method} {c : Code} {T : State} {locs : List Loc} {cells slots : Nat} {Z : State} {a0 : Array Value} {h : Heap} {n0 : Nat} (X : Stand p l e R s m args below meth c T locs cells slots) (hx : p.tables.exec = Jvm.exec) (hZ : Z.Warmed39 s.vm) {own C : String} {index : Nat} {y : MethodName} (hown : s.vm.findClass own = some m.cls) {bytes : ByteArray} {maxL : Nat} {ret : Option FieldType} (ww : KV Z a0 own C index y bytes maxL ret)
    {rm : Room} {b : Addr} {argsL : List Value} {Q : Option Value → Heap → List Loc → Prop} (M : MF l Z y bytes maxL ret [] rm (.ref b :: argsL).toArray h Q) {W k n : Nat}
    (hr : rm.frames + 1 ≤ R.frames ∧ W + (maxL + 11) + rm.locals ≤ R.locals ∧ cells + rm.cells ≤ k ∧ slots + rm.slots ≤ n ∧ k ≤ R.cells ∧ n ≤ R.slots) (eT : T.heap = h) (N : Fr n0 locs) (hF : ∀ v h L, Q v h L → Fr n0 L) (E : Exa Z h b C) {pc : Nat} {Ls : Array Slot} {rest : List Value} (hsz : Ls.size = c.maxLocals)
    (hlen : ∀ sig, parseMethodDescriptor y.desc = some sig → argsL.length = sig.parameters.length) (hW : (rest.map fun v => v.category).sum ≤ W) (hd : decode c.code pc = .ok (.invokevirtual index, 3)) :
    ∃ (v : Option Value) (T' : State) (L' : List Loc), Stand p l e R s m args below meth c T' L' k n ∧ Fr n0 L' ∧ (∃ Lc, Q v T'.heap Lc) ∧ Steps p.tables e below (T.setTop (mkF m pc Ls (argsL.reverse ++ .ref b :: rest))) (T'.setTop (mkF m (pc + 3) Ls (v.toList ++ rest))) := by
  obtain ⟨w1, w2, w3, w4, wc, wz, hy⟩ := ww
  obtain ⟨cB, kB, q1, -, q3⟩ := isOf hZ eT E
  obtain ⟨_, _, ⟨T1, L1, k1, n1⟩, -, X1, ⟨Lc, hQ, l1, y1, z1⟩, st⟩ := X.virtualBack hx (y := y) (z := y) hown (mvT hZ w1) (mvT hZ w2) (notFace_of_selects (args := #[]) (mvT hZ w3)) (mvT hZ w3) (mvT hZ w4) hy (backOf (W := W) M hZ wc wz hr.1 hr.2.1) q1 q3 (g := mkF m pc Ls (argsL.reverse ++ .ref b :: rest)) rfl hsz (Steps.refl _) (argsL := argsL) (rest := rest) hlen rfl (by show 2 * 0 + _ ≤ _; rw [Nat.mul_zero, Nat.zero_add]; exact hW) hd (fun _ _ => ⟨rfl, eT, Nat.le_trans hr.2.2.1 hr.2.2.2.2.1, Nat.le_trans hr.2.2.2.1 hr.2.2.2.2.2⟩)
  dsimp only [Pt.U, Pt.locs, Pt.cells, Pt.slots] at X1 l1 y1 z1 st hQ
  subst y1 z1
  exact ⟨_, T1, L1, own_more X1 hr.2.2.1 hr.2.2.2.1, by rw [l1]; exact Fr.app N (hF _ _ _ hQ), ⟨_, hQ⟩, st⟩
theorem own_cS {p : Program} {l : Launch} {e : Env} {R : Room} {s : State} {m : MethodId} {args : Array Value} {below : List Frame} {meth : Method} {c : Code} {T : State} {locs : List Loc} {cells slots : Nat} {Z : State} {a0 : Array Value} {h : Heap} {n0 : Nat} (X : Stand p l e R s m args below meth c T locs cells slots) (hx : p.tables.exec = Jvm.exec) (hZ : Z.Warmed39 s.vm) {own : String} {index : Nat} {y : MethodName} (hown : s.vm.findClass own = some m.cls) {bytes : ByteArray} {maxL : Nat} {ret : Option FieldType} (ww : KS Z a0 own index y bytes maxL ret)
    {rm : Room} {argsL : List Value} {Q : Option Value → Heap → List Loc → Prop} (M : MF l Z y bytes maxL ret [] rm argsL.toArray h Q) {W k n : Nat}
    (hr : rm.frames + 1 ≤ R.frames ∧ W + (maxL + 11) + rm.locals ≤ R.locals ∧ cells + rm.cells ≤ k ∧ slots + rm.slots ≤ n ∧ k ≤ R.cells ∧ n ≤ R.slots) (eT : T.heap = h) (N : Fr n0 locs) (hF : ∀ v h L, Q v h L → Fr n0 L) {pc : Nat} {Ls : Array Slot} {rest : List Value} (hsz : Ls.size = c.maxLocals)
    (hlen : ∀ sig, parseMethodDescriptor y.desc = some sig → argsL.length = sig.parameters.length) (hW : (rest.map fun v => v.category).sum ≤ W) (hd : decode c.code pc = .ok (.invokestatic index, 3)) :
    ∃ (v : Option Value) (T' : State) (L' : List Loc), Stand p l e R s m args below meth c T' L' k n ∧ Fr n0 L' ∧ (∃ Lc, Q v T'.heap Lc) ∧ Steps p.tables e below (T.setTop (mkF m pc Ls (argsL.reverse ++ rest))) (T'.setTop (mkF m (pc + 3) Ls (v.toList ++ rest))) := by
  obtain ⟨w1, w2, wc, wz, hy⟩ := ww
  obtain ⟨_, _, ⟨T1, L1, k1, n1⟩, -, X1, ⟨Lc, hQ, l1, y1, z1⟩, st⟩ := Jvm.LawKit.callS X hx (y := y) hown (mvT hZ w1) (mvT hZ w2) (mvT hZ wz) (mvT hZ wc) hy (backOf (W := W) M hZ wc wz hr.1 hr.2.1) (g := mkF m pc Ls (argsL.reverse ++ rest)) rfl hsz (argsL := argsL) (rest := rest) hlen rfl (by show 2 * 0 + _ ≤ _; rw [Nat.mul_zero, Nat.zero_add]; exact hW) hd (fun _ _ => ⟨rfl, eT, Nat.le_trans hr.2.2.1 hr.2.2.2.2.1, Nat.le_trans hr.2.2.2.1 hr.2.2.2.2.2⟩)
  dsimp only [Pt.U, Pt.locs, Pt.cells, Pt.slots] at X1 l1 y1 z1 st hQ
  subst y1 z1
  exact ⟨_, T1, L1, own_more X1 hr.2.2.1 hr.2.2.2.1, by rw [l1]; exact Fr.app N (hF _ _ _ hQ), ⟨_, hQ⟩, st _ (Steps.refl _)⟩
theorem own_cI {p : Program} {l : Launch} {e : Env} {R : Room} {s : State} {m : MethodId} {args : Array Value} {below : List Frame} {meth : Method} {c : Code} {T : State} {locs : List Loc} {cells slots : Nat} {Z : State} {a0 : Array Value} {h : Heap} {n0 : Nat} (X : Stand p l e R s m args below meth c T locs cells slots) (hx : p.tables.exec = Jvm.exec) (hZ : Z.Warmed39 s.vm) {own : String} {index : Nat} {y : MethodName} (hown : s.vm.findClass own = some m.cls) {bytes : ByteArray} {maxL : Nat} {ret : Option FieldType} (ww : KI Z a0 own index y bytes maxL ret)
    {rm : Room} {b : Addr} {argsL : List Value} {Q : Option Value → Heap → List Loc → Prop} (M : MF l Z y bytes maxL ret [] rm (.ref b :: argsL).toArray h Q) {W k n : Nat}
    (hr : rm.frames + 1 ≤ R.frames ∧ W + (maxL + 11) + rm.locals ≤ R.locals ∧ cells + rm.cells ≤ k ∧ slots + rm.slots ≤ n ∧ k ≤ R.cells ∧ n ≤ R.slots) (eT : T.heap = h) (N : Fr n0 locs) (hF : ∀ v h L, Q v h L → Fr n0 L) {pc : Nat} {Ls : Array Slot} {rest : List Value} (hsz : Ls.size = c.maxLocals)
    (hlen : ∀ sig, parseMethodDescriptor y.desc = some sig → argsL.length = sig.parameters.length) (hW : (rest.map fun v => v.category).sum ≤ W) (hd : decode c.code pc = .ok (.invokespecial index, 3)) :
    ∃ (v : Option Value) (T' : State) (L' : List Loc), Stand p l e R s m args below meth c T' L' k n ∧ Fr n0 L' ∧ (∃ Lc, Q v T'.heap Lc) ∧ Steps p.tables e below (T.setTop (mkF m pc Ls (argsL.reverse ++ .ref b :: rest))) (T'.setTop (mkF m (pc + 3) Ls (v.toList ++ rest))) := by
  obtain ⟨w1, w2, wc, wz, hy1, rfl, hy⟩ := ww
  obtain ⟨_, _, ⟨T1, L1, k1, n1⟩, -, X1, ⟨Lc, hQ, l1, y1, z1⟩, st⟩ := X.specialBack hx (y := y) hy1 hown (mvT hZ w1) (mvT hZ w2) (mvT hZ wc) hy (backOf (W := W) M hZ wc wz hr.1 hr.2.1) (g := mkF m pc Ls (argsL.reverse ++ .ref b :: rest)) rfl hsz (Steps.refl _) (a := b) (argsL := argsL) (rest := rest) hlen rfl (by show 2 * 0 + _ ≤ _; rw [Nat.mul_zero, Nat.zero_add]; exact hW) hd (fun _ _ => ⟨rfl, eT, Nat.le_trans hr.2.2.1 hr.2.2.2.2.1, Nat.le_trans hr.2.2.2.1 hr.2.2.2.2.2⟩)
  dsimp only [Pt.U, Pt.locs, Pt.cells, Pt.slots] at X1 l1 y1 z1 st hQ
  subst y1 z1
  exact ⟨_, T1, L1, own_more X1 hr.2.2.1 hr.2.2.2.1, by rw [l1]; exact Fr.app N (hF _ _ _ hQ), ⟨_, hQ⟩, st⟩

theorem own_retVW {p : Program} {l : Launch} {e : Env} {R : Room} {s : State} {vm₁ : Vm} {m : MethodId} {args : Array Value} {below : List Frame} {meth : Method} {c : Code} {T : State} {locs : List Loc} {cells slots : Nat} (X : Stand p l e R (s.setVm vm₁) m args below meth c T locs cells slots) {k1 : Nat} (hS : s.Since vm₁ k1) (hk : k1 ≤ T.heap.size) (hx : p.tables.exec = Jvm.exec) (hlk : meth.locks = false) (hret : meth.sig.returnType = none) {pc : Nat} {Ls : Array Slot} (hd : decode c.code pc = .ok (.return_, 1)) {base : State}
    (pre : ∀ t, Steps p.tables e below (T.setTop (mkF m pc Ls [])) t → Steps p.tables e below base t) {Q : Option Value → Heap → List Loc → Prop} (hQ : Q none T.heap locs) {k n : Nat} (h1 : cells ≤ k) (h2 : slots ≤ n) :
    ∃ s₂ o, Steps p.tables e below base s₂ ∧ s₂.status = .running ∧ Ended s₂ below o ∧ ∃ v L, o = .returned v ∧ Q v s₂.heap L ∧ ReturnedEndW s o s₂ L k n := by
  obtain ⟨fs, hr, hrun, hended, hW⟩ := X.leaveW hS hk (v := none) (fun _ => rfl)
  exact ⟨_, _, pre _ (X.returnOut hx hret hd hr), hrun, hended, _, _, rfl, hQ, hW.1, hW.2.1, hW.2.2.1, hW.2.2.2.mono h1 h2⟩
theorem own_face {s : State} {args : Array Value} {C : String} {y z : MethodName} (w : (Jvm.Cond.selects C y y).before args s = true) (hc : z.cls = y.cls) : NotFace s z := by
  intro r0 hr
  obtain ⟨c, r, m, -, -, q3, -, k, hk, hi⟩ := Cond.selects_spec w
  have e1 := findClass_of_methodNamed hr
  have e2 := findClass_of_methodNamed q3
  rw [hc] at e1
  have e3 : r0.cls = m.cls := Option.some.inj (e1.symm.trans e2)
  exact ⟨k, by rw [e3]; exact hk, hi⟩
theorem own_selfsel {s : State} {args args' : Array Value} {C : String} {y : MethodName} (w : (Jvm.Cond.selects C y y).before args s = true) (hp : s.PrivateAt y) (hi : (Jvm.Cond.instanceMethod y).before args' s = true) (hy : y.cls ≠ "java/lang/invoke/MethodHandle" ∧ y.cls ≠ "java/lang/invoke/VarHandle") : (Jvm.Cond.selects y.cls y y).before args' s = true := by
  obtain ⟨c, r, m, -, -, q3, -, k, hk, hni⟩ := Cond.selects_spec w
  exact selects_self_of_private (findClass_of_methodNamed q3) hk hni hp hi hy
theorem own_same {Z : State} {a0 : Array Value} {C : String} {y y' : MethodName} (w : (Jvm.Cond.selects C y' y').before a0 Z = true) (hc : y.cls = y'.cls) (hi : (Jvm.Cond.instanceMethod y).before a0 Z = true) (hy : y.cls ≠ "java/lang/invoke/MethodHandle" ∧ y.cls ≠ "java/lang/invoke/VarHandle") : (Jvm.Cond.sameMethod y.cls y.cls y.name y.desc).before a0 Z = true := by
  obtain ⟨m, meth, hn, -⟩ := Cond.instanceMethod_spec hi
  obtain ⟨k, hk, hni⟩ := own_face w hc m hn
  have hf := State.methodFound?_of_named hn hy
  have hcl := findClass_of_methodNamed hn
  have hn' : Z.methodNamed? ⟨y.cls, y.name, y.desc⟩ = some m := hn
  simp only [Cond.before, Cond.holds, Cond.value, hcl, hf, hn', hk]
  simp [hni]
def Ev0 (Z : State) (n0 : Nat) (h : Heap) (cs : Int32) (fv : Value) : Prop := Old Z n0 h ∧ Sta Z Z.heap "java/lang/String" "COMPACT_STRINGS" "Z" (.int cs) ∧ ¬ cs = (0 : Int32) ∧ Sta Z Z.heap "jdk/internal/util/Preconditions" "SIOOBE_FORMATTER" "Ljava/util/function/BiFunction;" fv ∧ (fv = .null ∨ ∃ r, fv = .ref r)
theorem Ev0.ext {Z : State} {n0 : Nat} {h h' : Heap} {cs : Int32} {fv : Value} (X : Ev0 Z n0 h cs fv) (E : Ext h h') : Ev0 Z n0 h' cs fv := ⟨X.1.ext E, X.2⟩
theorem Ev0.keep {Z : State} {n0 : Nat} {h h' : Heap} {cs : Int32} {fv : Value} {ws : List Addr} (X : Ev0 Z n0 h cs fv) (K : Keep h h' ws) (q : ∀ x ∈ ws, n0 ≤ x) : Ev0 Z n0 h' cs fv := ⟨X.1.keep K q, X.2⟩
theorem Ev0.wr {Z : State} {n0 : Nat} {h h' : Heap} {cs : Int32} {fv : Value} {a : Addr} {sl : Nat} {v : Value} (X : Ev0 Z n0 h cs fv) (W : Wr h h' a sl v) (q : n0 ≤ a) : Ev0 Z n0 h' cs fv := ⟨X.1.wr W q, X.2⟩
theorem own_cs {Z : State} {n0 : Nat} {h : Heap} {cs : Int32} {fv : Value} (X : Ev0 Z n0 h cs fv) : Sta Z h "java/lang/String" "COMPACT_STRINGS" "Z" (.int cs) := X.2.1.ext X.1.2
theorem own_fo {Z : State} {n0 : Nat} {h : Heap} {cs : Int32} {fv : Value} (X : Ev0 Z n0 h cs fv) : Sta Z h "jdk/internal/util/Preconditions" "SIOOBE_FORMATTER" "Ljava/util/function/BiFunction;" fv := X.2.2.2.1.ext X.1.2
def QI (r : Int32) (h0 : Heap) (n0 : Nat) (v : Option Value) (h : Heap) (L : List Loc) : Prop := v = some (.int r) ∧ Fr n0 L ∧ h = h0
def QU (h0 : Heap) (n0 : Nat) (v : Option Value) (h : Heap) (L : List Loc) : Prop := v = none ∧ Fr n0 L ∧ h = h0
def Pr (c : Int32) : Prop := nar .byte (c.toInt8.toInt32) = c ∧ nar .char ((c &&& (255 : Int32)).toUInt32.toUInt16.toUInt32.toInt32) = c ∧ nar .char c = c ∧ ¬ (255 : Int32) < c ∧ ¬ c < (32 : Int32) ∧ ¬ (126 : Int32) < c ∧ ¬ c = (32 : Int32) ∧ ¬ c = (45 : Int32) ∧ ¬ c < 0 ∧ c.toNatClampNeg < 128
theorem own_pr1 : ∀ k : Fin 128, 33 ≤ k.val → k.val ≤ 126 → k.val ≠ 45 → Pr (Int32.ofNat k.val) := by unfold Pr; decide +kernel

abbrev own_y_0 : MethodName := (⟨"java/lang/String", "coder", "()B"⟩ : MethodName)
theorem ef_1 (m : MethodId) (x0 : Addr) : entryFrame m #[(.ref x0)] 1 = mkF m 0 #[.val (.ref x0)] [] := by first | (simp [entryFrame, mkF, argsToLocals, Value.category]; done) | rfl
theorem pn_2 : plainName "java/lang/String" = true := by first | (simp [plainName, overriddenIn]; done) | decide +kernel
theorem d10_0 : decode jdk_42_method_152_code 0 = .ok (.getstatic 38, 3) := by decide +kernel
theorem d10_3 : decode jdk_42_method_152_code 3 = .ok (.ifCond .eq 10, 3) := by decide +kernel
theorem d10_6 : decode jdk_42_method_152_code 6 = .ok (.aload_n 0, 1) := by decide +kernel
theorem d10_7 : decode jdk_42_method_152_code 7 = .ok (.getfield 15, 3) := by decide +kernel
theorem d10_10 : decode jdk_42_method_152_code 10 = .ok (.goto 4, 3) := by decide +kernel
theorem d10_14 : decode jdk_42_method_152_code 14 = .ok (.ireturn, 1) := by decide +kernel
set_option maxRecDepth 65536 in
set_option maxHeartbeats 40000000 in
theorem rmCoder {l : Launch} {Z : State} {a0 : Array Value} (hw : Hw a0 Z) {ws : List Jvm.Cond} (oS : Addr) {h0 : Heap} {n0 : Nat} (Z0 : n0 ≤ h0.size) {cs : Int32} {fv : Value} (Ev : Ev0 Z n0 h0 cs fv) (FcS : Fa Z h0 oS (.int (0 : Int32))) : MF l Z own_y_0 jdk_42_method_152_code 1 (some .byte) ws (⟨0, 0, 0, 0⟩ : Room) #[(.ref oS)] h0 (QI (0 : Int32) h0 n0) := by
  refine own_en (plainFor_of_name pn_2) (fun m => ef_1 m oS) fun p e s m below meth c s₁ bs hx hby hml hZ hown hnm X0 e0 hlk hrt pre0 => ?_
  have N0 := Fr.nil n0
  obtain ⟨T1, X1, e1, st1⟩ := getS2 X0 hx hZ hown (host := "") (Or.inl (own_w hw 19 rfl)) Via.refl e0 (own_cs Ev) (g := (mkF m 0 #[.val (.ref oS)] [])) rfl (hb hby d10_0)
  obtain ⟨T2, X2, e2, st2⟩ := getF X1 hx hZ hown (host := "") (Or.inl (own_w hw 31 rfl)) Via.refl e1 FcS (g := (mkF m 7 #[.val (.ref oS)] [(.ref oS)])) rfl rfl (hb hby d10_7)
  have pre3 : PQ p e below T2 (mkF m 14 #[.val (.ref oS)] [(.int (0 : Int32))]) bs := fun t kt => pre0 t (by
    refine st1 _ ?_
    refine XS.ifNo X1.here hx rfl (hb hby d10_3) rfl ((if0 _ _).trans (feq Ev.2.2.1).1) ?_
    refine XS.aloadN X1.here hx rfl (hb hby d10_6) rfl rfl ?_
    refine st2 _ ?_
    refine XS.goto X2.here hx rfl (pc0 := 10) (pc' := 14) rfl (hb hby d10_10) (by decide) (by decide) ?_
    exact kt)
  exact own_retN X2 hx hlk (t := .byte) hrt (by simp) (hb hby d10_14) pre3 (show QI (0 : Int32) h0 n0 _ _ _ from ⟨rfl, N0, e2⟩) (by decide) (by decide)
abbrev own_y_9 : MethodName := (⟨"java/lang/String", "isLatin1", "()Z"⟩ : MethodName)
theorem ef_10 (m : MethodId) (x0 : Addr) : entryFrame m #[(.ref x0)] 1 = mkF m 0 #[.val (.ref x0)] [] := by first | (simp [entryFrame, mkF, argsToLocals, Value.category]; done) | rfl
theorem d32_0 : decode jdk_42_method_154_code 0 = .ok (.getstatic 38, 3) := by decide +kernel
theorem d32_3 : decode jdk_42_method_154_code 3 = .ok (.ifCond .eq 14, 3) := by decide +kernel
theorem d32_6 : decode jdk_42_method_154_code 6 = .ok (.aload_n 0, 1) := by decide +kernel
theorem d32_7 : decode jdk_42_method_154_code 7 = .ok (.getfield 15, 3) := by decide +kernel
theorem d32_10 : decode jdk_42_method_154_code 10 = .ok (.ifCond .ne 7, 3) := by decide +kernel
theorem d32_13 : decode jdk_42_method_154_code 13 = .ok (.iconst 1, 1) := by decide +kernel
theorem d32_14 : decode jdk_42_method_154_code 14 = .ok (.goto 4, 3) := by decide +kernel
theorem d32_18 : decode jdk_42_method_154_code 18 = .ok (.ireturn, 1) := by decide +kernel
set_option maxRecDepth 65536 in
set_option maxHeartbeats 40000000 in
theorem rmLat {l : Launch} {Z : State} {a0 : Array Value} (hw : Hw a0 Z) {ws : List Jvm.Cond} (oS : Addr) {h0 : Heap} {n0 : Nat} (Z0 : n0 ≤ h0.size) {cs : Int32} {fv : Value} (Ev : Ev0 Z n0 h0 cs fv) (FcS : Fa Z h0 oS (.int (0 : Int32))) : MF l Z own_y_9 jdk_42_method_154_code 1 (some .boolean) ws (⟨0, 0, 0, 0⟩ : Room) #[(.ref oS)] h0 (QI (1 : Int32) h0 n0) := by
  refine own_en (plainFor_of_name pn_2) (fun m => ef_10 m oS) fun p e s m below meth c s₁ bs hx hby hml hZ hown hnm X0 e0 hlk hrt pre0 => ?_
  have N0 := Fr.nil n0
  obtain ⟨T4, X4, e4, st4⟩ := getS2 X0 hx hZ hown (host := "") (Or.inl (own_w hw 19 rfl)) Via.refl e0 (own_cs Ev) (g := (mkF m 0 #[.val (.ref oS)] [])) rfl (hb hby d32_0)
  obtain ⟨T5, X5, e5, st5⟩ := getF X4 hx hZ hown (host := "") (Or.inl (own_w hw 31 rfl)) Via.refl e4 FcS (g := (mkF m 7 #[.val (.ref oS)] [(.ref oS)])) rfl rfl (hb hby d32_7)
  have pre6 : PQ p e below T5 (mkF m 18 #[.val (.ref oS)] [(.int (1 : Int32))]) bs := fun t kt => pre0 t (by
    refine st4 _ ?_
    refine XS.ifNo X4.here hx rfl (hb hby d32_3) rfl ((if0 _ _).trans (feq Ev.2.2.1).1) ?_
    refine XS.aloadN X4.here hx rfl (hb hby d32_6) rfl rfl ?_
    refine st5 _ ?_
    refine XS.ifNo X5.here hx rfl (hb hby d32_10) rfl ((if0 _ _).trans (teq (by decide : (0 : Int32) = (0 : Int32))).2) ?_
    refine XS.iconst X5.here hx rfl (hb hby d32_13) ?_
    refine XS.goto X5.here hx rfl (pc0 := 14) (pc' := 18) rfl (hb hby d32_14) (by decide) (by decide) ?_
    exact kt)
  exact own_retN X5 hx hlk (t := .boolean) hrt (by simp) (hb hby d32_18) pre6 (show QI (1 : Int32) h0 n0 _ _ _ from ⟨rfl, N0, e5⟩) (by decide) (by decide)
abbrev own_y_19 : MethodName := (⟨"java/lang/String", "length", "()I"⟩ : MethodName)
theorem ef_20 (m : MethodId) (x0 : Addr) : entryFrame m #[(.ref x0)] 1 = mkF m 0 #[.val (.ref x0)] [] := by first | (simp [entryFrame, mkF, argsToLocals, Value.category]; done) | rfl
theorem d9_0 : decode jdk_42_method_54_code 0 = .ok (.aload_n 0, 1) := by decide +kernel
theorem d9_1 : decode jdk_42_method_54_code 1 = .ok (.getfield 9, 3) := by decide +kernel
theorem d9_4 : decode jdk_42_method_54_code 4 = .ok (.arraylength, 1) := by decide +kernel
theorem d9_5 : decode jdk_42_method_54_code 5 = .ok (.aload_n 0, 1) := by decide +kernel
theorem d9_6 : decode jdk_42_method_54_code 6 = .ok (.invokevirtual 335, 3) := by decide +kernel
theorem own_k_26 {Z : State} {a0 : Array Value} (hw : Hw a0 Z) : KV Z a0 "java/lang/String" "java/lang/String" 335 own_y_0 jdk_42_method_152_code 1 (some .byte) := ⟨(own_w hw 47 rfl), (own_w hw 48 rfl), (own_w hw 50 rfl), (own_w hw 49 rfl), (own_w hw 51 rfl), (own_w hw 8 rfl), by decide⟩
theorem pd_27 : parseMethodDescriptor "()B" = some ⟨[], some .byte⟩ := by decide +kernel
theorem d9_9 : decode jdk_42_method_54_code 9 = .ok (.ishr, 1) := by decide +kernel
theorem d9_10 : decode jdk_42_method_54_code 10 = .ok (.ireturn, 1) := by decide +kernel
set_option maxRecDepth 65536 in
set_option maxHeartbeats 40000000 in
theorem rmLen0 {l : Launch} {Z : State} {a0 : Array Value} (hw : Hw a0 Z) {ws : List Jvm.Cond} (oS yS : Addr) (kS : ClassId)  {h0 : Heap} {n0 : Nat} (Z0 : n0 ≤ h0.size) {cs : Int32} {fv : Value} (Ev : Ev0 Z n0 h0 cs fv) (ES : Exa Z h0 oS "java/lang/String") (FcS : Fa Z h0 oS (.int (0 : Int32))) (FvS : Fb Z h0 oS (.ref yS)) (VS : Arv Z h0 yS kS .byte (0 : Int32) [] (.int (0 : Int32))) : MF l Z own_y_19 jdk_42_method_54_code 1 (some .int) ws (⟨1, 0, 0, 13⟩ : Room) #[(.ref oS)] h0 (QI (0 : Int32) h0 n0) := by
  refine own_en (plainFor_of_name pn_2) (fun m => ef_20 m oS) fun p e s m below meth c s₁ bs hx hby hml hZ hown hnm X0 e0 hlk hrt pre0 => ?_
  have N0 := Fr.nil n0
  obtain ⟨T7, X7, e7, st7⟩ := getF X0 hx hZ hown (host := "") (Or.inl (own_w hw 33 rfl)) Via.refl e0 FvS (g := (mkF m 1 #[.val (.ref oS)] [(.ref oS)])) rfl rfl (hb hby d9_1)
  obtain ⟨cl8, A8, q8, S8, M8, H8, J8⟩ := id VS
  obtain ⟨_, T9, L9, X9, N9, ⟨_, rfl, -, e9⟩, st9⟩ := own_cV X7 hx hZ hown (own_k_26 hw) (rmCoder hw oS Z0 Ev FcS) (W := 1) (k := 0) (n := 0) (by decide) e7 N0 (fun _ _ _ h => h.2.1) ES (Ls := #[.val (.ref oS)]) (rest := [(.int (0 : Int32))]) hml.symm (lenOf pd_27 rfl) (Nat.le_of_eq rfl) (hb hby d9_6)
  have pre10 : PQ p e below T9 (mkF m 10 #[.val (.ref oS)] [(.int (0 : Int32))]) bs := fun t kt => pre0 t (by
    refine XS.aloadN X0.here hx rfl (hb hby d9_0) rfl rfl ?_
    refine st7 _ ?_
    refine X7.arraylength hx (by rw [e7]; exact A8.1) (State.isArrayOf_alike hZ.alike A8.2.1) (g := (mkF m 4 #[.val (.ref oS)] [(.ref yS)])) rfl rfl (hb hby d9_4) _ ?_
    rw [len_of S8 M8]
    refine XS.aloadN X7.here hx rfl (hb hby d9_5) rfl rfl ?_
    refine st9.trans ?_
    refine XS.ishr X9.here hx rfl (hb hby d9_9) rfl ?_
    exact kt)
  exact own_retI X9 hx hlk hrt (hb hby d9_10) pre10 (show QI (0 : Int32) h0 n0 _ _ _ from ⟨rfl, N9, e9⟩) (by decide) (by decide)
set_option maxRecDepth 65536 in
set_option maxHeartbeats 40000000 in
theorem rmLen1 {l : Launch} {Z : State} {a0 : Array Value} (hw : Hw a0 Z) {ws : List Jvm.Cond} (oS yS : Addr) (kS : ClassId) (c0 : Int32) {h0 : Heap} {n0 : Nat} (Z0 : n0 ≤ h0.size) {cs : Int32} {fv : Value} (Ev : Ev0 Z n0 h0 cs fv) (ES : Exa Z h0 oS "java/lang/String") (FcS : Fa Z h0 oS (.int (0 : Int32))) (FvS : Fb Z h0 oS (.ref yS)) (VS : Arv Z h0 yS kS .byte (1 : Int32) [(.int c0)] (.int (0 : Int32))) : MF l Z own_y_19 jdk_42_method_54_code 1 (some .int) ws (⟨1, 0, 0, 13⟩ : Room) #[(.ref oS)] h0 (QI (1 : Int32) h0 n0) := by
  refine own_en (plainFor_of_name pn_2) (fun m => ef_20 m oS) fun p e s m below meth c s₁ bs hx hby hml hZ hown hnm X0 e0 hlk hrt pre0 => ?_
  have N0 := Fr.nil n0
  obtain ⟨T11, X11, e11, st11⟩ := getF X0 hx hZ hown (host := "") (Or.inl (own_w hw 33 rfl)) Via.refl e0 FvS (g := (mkF m 1 #[.val (.ref oS)] [(.ref oS)])) rfl rfl (hb hby d9_1)
  obtain ⟨cl12, A12, q12, S12, M12, H12, J12⟩ := id VS
  obtain ⟨_, T13, L13, X13, N13, ⟨_, rfl, -, e13⟩, st13⟩ := own_cV X11 hx hZ hown (own_k_26 hw) (rmCoder hw oS Z0 Ev FcS) (W := 1) (k := 0) (n := 0) (by decide) e11 N0 (fun _ _ _ h => h.2.1) ES (Ls := #[.val (.ref oS)]) (rest := [(.int (1 : Int32))]) hml.symm (lenOf pd_27 rfl) (Nat.le_of_eq rfl) (hb hby d9_6)
  have pre14 : PQ p e below T13 (mkF m 10 #[.val (.ref oS)] [(.int (1 : Int32))]) bs := fun t kt => pre0 t (by
    refine XS.aloadN X0.here hx rfl (hb hby d9_0) rfl rfl ?_
    refine st11 _ ?_
    refine X11.arraylength hx (by rw [e11]; exact A12.1) (State.isArrayOf_alike hZ.alike A12.2.1) (g := (mkF m 4 #[.val (.ref oS)] [(.ref yS)])) rfl rfl (hb hby d9_4) _ ?_
    rw [len_of S12 M12]
    refine XS.aloadN X11.here hx rfl (hb hby d9_5) rfl rfl ?_
    refine st13.trans ?_
    refine XS.ishr X13.here hx rfl (hb hby d9_9) rfl ?_
    exact kt)
  exact own_retI X13 hx hlk hrt (hb hby d9_10) pre14 (show QI (1 : Int32) h0 n0 _ _ _ from ⟨rfl, N13, e13⟩) (by decide) (by decide)
set_option maxRecDepth 65536 in
set_option maxHeartbeats 40000000 in
theorem rmLen2 {l : Launch} {Z : State} {a0 : Array Value} (hw : Hw a0 Z) {ws : List Jvm.Cond} (oS yS : Addr) (kS : ClassId) (c0 c1 : Int32) {h0 : Heap} {n0 : Nat} (Z0 : n0 ≤ h0.size) {cs : Int32} {fv : Value} (Ev : Ev0 Z n0 h0 cs fv) (ES : Exa Z h0 oS "java/lang/String") (FcS : Fa Z h0 oS (.int (0 : Int32))) (FvS : Fb Z h0 oS (.ref yS)) (VS : Arv Z h0 yS kS .byte (2 : Int32) [(.int c0), (.int c1)] (.int (0 : Int32))) : MF l Z own_y_19 jdk_42_method_54_code 1 (some .int) ws (⟨1, 0, 0, 13⟩ : Room) #[(.ref oS)] h0 (QI (2 : Int32) h0 n0) := by
  refine own_en (plainFor_of_name pn_2) (fun m => ef_20 m oS) fun p e s m below meth c s₁ bs hx hby hml hZ hown hnm X0 e0 hlk hrt pre0 => ?_
  have N0 := Fr.nil n0
  obtain ⟨T15, X15, e15, st15⟩ := getF X0 hx hZ hown (host := "") (Or.inl (own_w hw 33 rfl)) Via.refl e0 FvS (g := (mkF m 1 #[.val (.ref oS)] [(.ref oS)])) rfl rfl (hb hby d9_1)
  obtain ⟨cl16, A16, q16, S16, M16, H16, J16⟩ := id VS
  obtain ⟨_, T17, L17, X17, N17, ⟨_, rfl, -, e17⟩, st17⟩ := own_cV X15 hx hZ hown (own_k_26 hw) (rmCoder hw oS Z0 Ev FcS) (W := 1) (k := 0) (n := 0) (by decide) e15 N0 (fun _ _ _ h => h.2.1) ES (Ls := #[.val (.ref oS)]) (rest := [(.int (2 : Int32))]) hml.symm (lenOf pd_27 rfl) (Nat.le_of_eq rfl) (hb hby d9_6)
  have pre18 : PQ p e below T17 (mkF m 10 #[.val (.ref oS)] [(.int (2 : Int32))]) bs := fun t kt => pre0 t (by
    refine XS.aloadN X0.here hx rfl (hb hby d9_0) rfl rfl ?_
    refine st15 _ ?_
    refine X15.arraylength hx (by rw [e15]; exact A16.1) (State.isArrayOf_alike hZ.alike A16.2.1) (g := (mkF m 4 #[.val (.ref oS)] [(.ref yS)])) rfl rfl (hb hby d9_4) _ ?_
    rw [len_of S16 M16]
    refine XS.aloadN X15.here hx rfl (hb hby d9_5) rfl rfl ?_
    refine st17.trans ?_
    refine XS.ishr X17.here hx rfl (hb hby d9_9) rfl ?_
    exact kt)
  exact own_retI X17 hx hlk hrt (hb hby d9_10) pre18 (show QI (2 : Int32) h0 n0 _ _ _ from ⟨rfl, N17, e17⟩) (by decide) (by decide)
set_option maxRecDepth 65536 in
set_option maxHeartbeats 40000000 in
theorem rmLen3 {l : Launch} {Z : State} {a0 : Array Value} (hw : Hw a0 Z) {ws : List Jvm.Cond} (oS yS : Addr) (kS : ClassId) (c0 c1 c2 : Int32) {h0 : Heap} {n0 : Nat} (Z0 : n0 ≤ h0.size) {cs : Int32} {fv : Value} (Ev : Ev0 Z n0 h0 cs fv) (ES : Exa Z h0 oS "java/lang/String") (FcS : Fa Z h0 oS (.int (0 : Int32))) (FvS : Fb Z h0 oS (.ref yS)) (VS : Arv Z h0 yS kS .byte (3 : Int32) [(.int c0), (.int c1), (.int c2)] (.int (0 : Int32))) : MF l Z own_y_19 jdk_42_method_54_code 1 (some .int) ws (⟨1, 0, 0, 13⟩ : Room) #[(.ref oS)] h0 (QI (3 : Int32) h0 n0) := by
  refine own_en (plainFor_of_name pn_2) (fun m => ef_20 m oS) fun p e s m below meth c s₁ bs hx hby hml hZ hown hnm X0 e0 hlk hrt pre0 => ?_
  have N0 := Fr.nil n0
  obtain ⟨T19, X19, e19, st19⟩ := getF X0 hx hZ hown (host := "") (Or.inl (own_w hw 33 rfl)) Via.refl e0 FvS (g := (mkF m 1 #[.val (.ref oS)] [(.ref oS)])) rfl rfl (hb hby d9_1)
  obtain ⟨cl20, A20, q20, S20, M20, H20, J20⟩ := id VS
  obtain ⟨_, T21, L21, X21, N21, ⟨_, rfl, -, e21⟩, st21⟩ := own_cV X19 hx hZ hown (own_k_26 hw) (rmCoder hw oS Z0 Ev FcS) (W := 1) (k := 0) (n := 0) (by decide) e19 N0 (fun _ _ _ h => h.2.1) ES (Ls := #[.val (.ref oS)]) (rest := [(.int (3 : Int32))]) hml.symm (lenOf pd_27 rfl) (Nat.le_of_eq rfl) (hb hby d9_6)
  have pre22 : PQ p e below T21 (mkF m 10 #[.val (.ref oS)] [(.int (3 : Int32))]) bs := fun t kt => pre0 t (by
    refine XS.aloadN X0.here hx rfl (hb hby d9_0) rfl rfl ?_
    refine st19 _ ?_
    refine X19.arraylength hx (by rw [e19]; exact A20.1) (State.isArrayOf_alike hZ.alike A20.2.1) (g := (mkF m 4 #[.val (.ref oS)] [(.ref yS)])) rfl rfl (hb hby d9_4) _ ?_
    rw [len_of S20 M20]
    refine XS.aloadN X19.here hx rfl (hb hby d9_5) rfl rfl ?_
    refine st21.trans ?_
    refine XS.ishr X21.here hx rfl (hb hby d9_9) rfl ?_
    exact kt)
  exact own_retI X21 hx hlk hrt (hb hby d9_10) pre22 (show QI (3 : Int32) h0 n0 _ _ _ from ⟨rfl, N21, e21⟩) (by decide) (by decide)
set_option maxRecDepth 65536 in
set_option maxHeartbeats 40000000 in
theorem rmLen4 {l : Launch} {Z : State} {a0 : Array Value} (hw : Hw a0 Z) {ws : List Jvm.Cond} (oS yS : Addr) (kS : ClassId) (c0 c1 c2 c3 : Int32) {h0 : Heap} {n0 : Nat} (Z0 : n0 ≤ h0.size) {cs : Int32} {fv : Value} (Ev : Ev0 Z n0 h0 cs fv) (ES : Exa Z h0 oS "java/lang/String") (FcS : Fa Z h0 oS (.int (0 : Int32))) (FvS : Fb Z h0 oS (.ref yS)) (VS : Arv Z h0 yS kS .byte (4 : Int32) [(.int c0), (.int c1), (.int c2), (.int c3)] (.int (0 : Int32))) : MF l Z own_y_19 jdk_42_method_54_code 1 (some .int) ws (⟨1, 0, 0, 13⟩ : Room) #[(.ref oS)] h0 (QI (4 : Int32) h0 n0) := by
  refine own_en (plainFor_of_name pn_2) (fun m => ef_20 m oS) fun p e s m below meth c s₁ bs hx hby hml hZ hown hnm X0 e0 hlk hrt pre0 => ?_
  have N0 := Fr.nil n0
  obtain ⟨T23, X23, e23, st23⟩ := getF X0 hx hZ hown (host := "") (Or.inl (own_w hw 33 rfl)) Via.refl e0 FvS (g := (mkF m 1 #[.val (.ref oS)] [(.ref oS)])) rfl rfl (hb hby d9_1)
  obtain ⟨cl24, A24, q24, S24, M24, H24, J24⟩ := id VS
  obtain ⟨_, T25, L25, X25, N25, ⟨_, rfl, -, e25⟩, st25⟩ := own_cV X23 hx hZ hown (own_k_26 hw) (rmCoder hw oS Z0 Ev FcS) (W := 1) (k := 0) (n := 0) (by decide) e23 N0 (fun _ _ _ h => h.2.1) ES (Ls := #[.val (.ref oS)]) (rest := [(.int (4 : Int32))]) hml.symm (lenOf pd_27 rfl) (Nat.le_of_eq rfl) (hb hby d9_6)
  have pre26 : PQ p e below T25 (mkF m 10 #[.val (.ref oS)] [(.int (4 : Int32))]) bs := fun t kt => pre0 t (by
    refine XS.aloadN X0.here hx rfl (hb hby d9_0) rfl rfl ?_
    refine st23 _ ?_
    refine X23.arraylength hx (by rw [e23]; exact A24.1) (State.isArrayOf_alike hZ.alike A24.2.1) (g := (mkF m 4 #[.val (.ref oS)] [(.ref yS)])) rfl rfl (hb hby d9_4) _ ?_
    rw [len_of S24 M24]
    refine XS.aloadN X23.here hx rfl (hb hby d9_5) rfl rfl ?_
    refine st25.trans ?_
    refine XS.ishr X25.here hx rfl (hb hby d9_9) rfl ?_
    exact kt)
  exact own_retI X25 hx hlk hrt (hb hby d9_10) pre26 (show QI (4 : Int32) h0 n0 _ _ _ from ⟨rfl, N25, e25⟩) (by decide) (by decide)
set_option maxRecDepth 65536 in
set_option maxHeartbeats 40000000 in
theorem rmLen5 {l : Launch} {Z : State} {a0 : Array Value} (hw : Hw a0 Z) {ws : List Jvm.Cond} (oS yS : Addr) (kS : ClassId) (c0 c1 c2 c3 c4 : Int32) {h0 : Heap} {n0 : Nat} (Z0 : n0 ≤ h0.size) {cs : Int32} {fv : Value} (Ev : Ev0 Z n0 h0 cs fv) (ES : Exa Z h0 oS "java/lang/String") (FcS : Fa Z h0 oS (.int (0 : Int32))) (FvS : Fb Z h0 oS (.ref yS)) (VS : Arv Z h0 yS kS .byte (5 : Int32) [(.int c0), (.int c1), (.int c2), (.int c3), (.int c4)] (.int (0 : Int32))) : MF l Z own_y_19 jdk_42_method_54_code 1 (some .int) ws (⟨1, 0, 0, 13⟩ : Room) #[(.ref oS)] h0 (QI (5 : Int32) h0 n0) := by
  refine own_en (plainFor_of_name pn_2) (fun m => ef_20 m oS) fun p e s m below meth c s₁ bs hx hby hml hZ hown hnm X0 e0 hlk hrt pre0 => ?_
  have N0 := Fr.nil n0
  obtain ⟨T27, X27, e27, st27⟩ := getF X0 hx hZ hown (host := "") (Or.inl (own_w hw 33 rfl)) Via.refl e0 FvS (g := (mkF m 1 #[.val (.ref oS)] [(.ref oS)])) rfl rfl (hb hby d9_1)
  obtain ⟨cl28, A28, q28, S28, M28, H28, J28⟩ := id VS
  obtain ⟨_, T29, L29, X29, N29, ⟨_, rfl, -, e29⟩, st29⟩ := own_cV X27 hx hZ hown (own_k_26 hw) (rmCoder hw oS Z0 Ev FcS) (W := 1) (k := 0) (n := 0) (by decide) e27 N0 (fun _ _ _ h => h.2.1) ES (Ls := #[.val (.ref oS)]) (rest := [(.int (5 : Int32))]) hml.symm (lenOf pd_27 rfl) (Nat.le_of_eq rfl) (hb hby d9_6)
  have pre30 : PQ p e below T29 (mkF m 10 #[.val (.ref oS)] [(.int (5 : Int32))]) bs := fun t kt => pre0 t (by
    refine XS.aloadN X0.here hx rfl (hb hby d9_0) rfl rfl ?_
    refine st27 _ ?_
    refine X27.arraylength hx (by rw [e27]; exact A28.1) (State.isArrayOf_alike hZ.alike A28.2.1) (g := (mkF m 4 #[.val (.ref oS)] [(.ref yS)])) rfl rfl (hb hby d9_4) _ ?_
    rw [len_of S28 M28]
    refine XS.aloadN X27.here hx rfl (hb hby d9_5) rfl rfl ?_
    refine st29.trans ?_
    refine XS.ishr X29.here hx rfl (hb hby d9_9) rfl ?_
    exact kt)
  exact own_retI X29 hx hlk hrt (hb hby d9_10) pre30 (show QI (5 : Int32) h0 n0 _ _ _ from ⟨rfl, N29, e29⟩) (by decide) (by decide)
set_option maxRecDepth 65536 in
set_option maxHeartbeats 40000000 in
theorem rmLen6 {l : Launch} {Z : State} {a0 : Array Value} (hw : Hw a0 Z) {ws : List Jvm.Cond} (oS yS : Addr) (kS : ClassId) (c0 c1 c2 c3 c4 c5 : Int32) {h0 : Heap} {n0 : Nat} (Z0 : n0 ≤ h0.size) {cs : Int32} {fv : Value} (Ev : Ev0 Z n0 h0 cs fv) (ES : Exa Z h0 oS "java/lang/String") (FcS : Fa Z h0 oS (.int (0 : Int32))) (FvS : Fb Z h0 oS (.ref yS)) (VS : Arv Z h0 yS kS .byte (6 : Int32) [(.int c0), (.int c1), (.int c2), (.int c3), (.int c4), (.int c5)] (.int (0 : Int32))) : MF l Z own_y_19 jdk_42_method_54_code 1 (some .int) ws (⟨1, 0, 0, 13⟩ : Room) #[(.ref oS)] h0 (QI (6 : Int32) h0 n0) := by
  refine own_en (plainFor_of_name pn_2) (fun m => ef_20 m oS) fun p e s m below meth c s₁ bs hx hby hml hZ hown hnm X0 e0 hlk hrt pre0 => ?_
  have N0 := Fr.nil n0
  obtain ⟨T31, X31, e31, st31⟩ := getF X0 hx hZ hown (host := "") (Or.inl (own_w hw 33 rfl)) Via.refl e0 FvS (g := (mkF m 1 #[.val (.ref oS)] [(.ref oS)])) rfl rfl (hb hby d9_1)
  obtain ⟨cl32, A32, q32, S32, M32, H32, J32⟩ := id VS
  obtain ⟨_, T33, L33, X33, N33, ⟨_, rfl, -, e33⟩, st33⟩ := own_cV X31 hx hZ hown (own_k_26 hw) (rmCoder hw oS Z0 Ev FcS) (W := 1) (k := 0) (n := 0) (by decide) e31 N0 (fun _ _ _ h => h.2.1) ES (Ls := #[.val (.ref oS)]) (rest := [(.int (6 : Int32))]) hml.symm (lenOf pd_27 rfl) (Nat.le_of_eq rfl) (hb hby d9_6)
  have pre34 : PQ p e below T33 (mkF m 10 #[.val (.ref oS)] [(.int (6 : Int32))]) bs := fun t kt => pre0 t (by
    refine XS.aloadN X0.here hx rfl (hb hby d9_0) rfl rfl ?_
    refine st31 _ ?_
    refine X31.arraylength hx (by rw [e31]; exact A32.1) (State.isArrayOf_alike hZ.alike A32.2.1) (g := (mkF m 4 #[.val (.ref oS)] [(.ref yS)])) rfl rfl (hb hby d9_4) _ ?_
    rw [len_of S32 M32]
    refine XS.aloadN X31.here hx rfl (hb hby d9_5) rfl rfl ?_
    refine st33.trans ?_
    refine XS.ishr X33.here hx rfl (hb hby d9_9) rfl ?_
    exact kt)
  exact own_retI X33 hx hlk hrt (hb hby d9_10) pre34 (show QI (6 : Int32) h0 n0 _ _ _ from ⟨rfl, N33, e33⟩) (by decide) (by decide)
abbrev own_y_30 : MethodName := (⟨"jdk/internal/util/Preconditions", "checkIndex", "(IILjava/util/function/BiFunction;)I"⟩ : MethodName)
theorem ef_31 (m : MethodId) (x0 : Int32) (x1 : Int32) : entryFrame m #[(.int x0), (.int x1), .null] 3 = mkF m 0 #[.val (.int x0), .val (.int x1), .val .null] [] := by first | (simp [entryFrame, mkF, argsToLocals, Value.category]; done) | rfl
theorem pn_32 : plainName "jdk/internal/util/Preconditions" = true := by first | (simp [plainName, overriddenIn]; done) | decide +kernel
theorem d35_0 : decode jdk_41_method_11_code 0 = .ok (.iload_n 0, 1) := by decide +kernel
theorem d35_1 : decode jdk_41_method_11_code 1 = .ok (.ifCond .lt 8, 3) := by decide +kernel
theorem d35_4 : decode jdk_41_method_11_code 4 = .ok (.iload_n 0, 1) := by decide +kernel
theorem d35_5 : decode jdk_41_method_11_code 5 = .ok (.iload_n 1, 1) := by decide +kernel
theorem d35_6 : decode jdk_41_method_11_code 6 = .ok (.if_icmp .lt 10, 3) := by decide +kernel
theorem d35_16 : decode jdk_41_method_11_code 16 = .ok (.iload_n 0, 1) := by decide +kernel
theorem d35_17 : decode jdk_41_method_11_code 17 = .ok (.ireturn, 1) := by decide +kernel
set_option maxRecDepth 65536 in
set_option maxHeartbeats 40000000 in
theorem rmPcN {l : Launch} {Z : State} {a0 : Array Value} (hw : Hw a0 Z) {ws : List Jvm.Cond} (x n : Int32) {h0 : Heap} {n0 : Nat} (Z0 : n0 ≤ h0.size) (h1 : ¬ (x < (0 : Int32))) (h2 : x < n) : MF l Z own_y_30 jdk_41_method_11_code 3 (some .int) ws (⟨0, 0, 0, 0⟩ : Room) #[(.int x), (.int n), .null] h0 (QI x h0 n0) := by
  refine own_en (plainFor_of_name pn_32) (fun m => ef_31 m x n) fun p e s m below meth c s₁ bs hx hby hml hZ hown hnm X0 e0 hlk hrt pre0 => ?_
  have N0 := Fr.nil n0
  have pre35 : PQ p e below s₁ (mkF m 17 (Y0 x n) [(.int x)]) bs := fun t kt => pre0 t (by
    refine XS.iloadN X0.here hx rfl (hb hby d35_0) rfl ?_
    refine XS.ifNo X0.here hx rfl (hb hby d35_1) rfl ((if0 _ _).trans (flt h1).1) ?_
    refine XS.iloadN X0.here hx rfl (hb hby d35_4) rfl ?_
    refine XS.iloadN X0.here hx rfl (hb hby d35_5) rfl ?_
    refine XS.icmpYes X0.here hx rfl (pc0 := 6) (pc' := 16) rfl (hb hby d35_6) rfl (tlt h2).1 (by decide) (by decide) ?_
    refine XS.iloadN X0.here hx rfl (hb hby d35_16) rfl ?_
    exact kt)
  exact own_retI X0 hx hlk hrt (hb hby d35_17) pre35 (show QI x h0 n0 _ _ _ from ⟨rfl, N0, e0⟩) (by decide) (by decide)
theorem ef_40 (m : MethodId) (x0 : Int32) (x1 : Int32) (x2 : Addr) : entryFrame m #[(.int x0), (.int x1), (.ref x2)] 3 = mkF m 0 #[.val (.int x0), .val (.int x1), .val (.ref x2)] [] := by first | (simp [entryFrame, mkF, argsToLocals, Value.category]; done) | rfl
set_option maxRecDepth 65536 in
set_option maxHeartbeats 40000000 in
theorem rmPcR {l : Launch} {Z : State} {a0 : Array Value} (hw : Hw a0 Z) {ws : List Jvm.Cond} (x n : Int32) (rr : Addr) {h0 : Heap} {n0 : Nat} (Z0 : n0 ≤ h0.size) (h1 : ¬ (x < (0 : Int32))) (h2 : x < n) : MF l Z own_y_30 jdk_41_method_11_code 3 (some .int) ws (⟨0, 0, 0, 0⟩ : Room) #[(.int x), (.int n), (.ref rr)] h0 (QI x h0 n0) := by
  refine own_en (plainFor_of_name pn_32) (fun m => ef_40 m x n rr) fun p e s m below meth c s₁ bs hx hby hml hZ hown hnm X0 e0 hlk hrt pre0 => ?_
  have N0 := Fr.nil n0
  have pre36 : PQ p e below s₁ (mkF m 17 (Y1 x n rr) [(.int x)]) bs := fun t kt => pre0 t (by
    refine XS.iloadN X0.here hx rfl (hb hby d35_0) rfl ?_
    refine XS.ifNo X0.here hx rfl (hb hby d35_1) rfl ((if0 _ _).trans (flt h1).1) ?_
    refine XS.iloadN X0.here hx rfl (hb hby d35_4) rfl ?_
    refine XS.iloadN X0.here hx rfl (hb hby d35_5) rfl ?_
    refine XS.icmpYes X0.here hx rfl (pc0 := 6) (pc' := 16) rfl (hb hby d35_6) rfl (tlt h2).1 (by decide) (by decide) ?_
    refine XS.iloadN X0.here hx rfl (hb hby d35_16) rfl ?_
    exact kt)
  exact own_retI X0 hx hlk hrt (hb hby d35_17) pre36 (show QI x h0 n0 _ _ _ from ⟨rfl, N0, e0⟩) (by decide) (by decide)
abbrev own_y_41 : MethodName := (⟨"java/lang/String", "checkIndex", "(II)V"⟩ : MethodName)
theorem ef_42 (m : MethodId) (x0 : Int32) (x1 : Int32) : entryFrame m #[(.int x0), (.int x1)] 2 = mkF m 0 #[.val (.int x0), .val (.int x1)] [] := by first | (simp [entryFrame, mkF, argsToLocals, Value.category]; done) | rfl
theorem d34_0 : decode jdk_42_method_155_code 0 = .ok (.iload_n 0, 1) := by decide +kernel
theorem d34_1 : decode jdk_42_method_155_code 1 = .ok (.iload_n 1, 1) := by decide +kernel
theorem d34_2 : decode jdk_42_method_155_code 2 = .ok (.getstatic 1053, 3) := by decide +kernel
theorem d34_5 : decode jdk_42_method_155_code 5 = .ok (.invokestatic 1059, 3) := by decide +kernel
theorem own_k_47 {Z : State} {a0 : Array Value} (hw : Hw a0 Z) : KS Z a0 "java/lang/String" 1059 own_y_30 jdk_41_method_11_code 3 (some .int) := ⟨(own_w hw 176 rfl), (own_w hw 177 rfl), (own_w hw 178 rfl), (own_w hw 175 rfl), by decide⟩
theorem pd_48 : parseMethodDescriptor "(IILjava/util/function/BiFunction;)I" = some ⟨[.int, .int, (.object "java/util/function/BiFunction")], some .int⟩ := by decide +kernel
theorem d34_8 : decode jdk_42_method_155_code 8 = .ok (.pop, 1) := by decide +kernel
theorem d34_9 : decode jdk_42_method_155_code 9 = .ok (.return_, 1) := by decide +kernel
set_option maxRecDepth 65536 in
set_option maxHeartbeats 40000000 in
theorem rmCi {l : Launch} {Z : State} {a0 : Array Value} (hw : Hw a0 Z) {ws : List Jvm.Cond} (x n : Int32) {h0 : Heap} {n0 : Nat} (Z0 : n0 ≤ h0.size) {cs : Int32} {fv : Value} (Ev : Ev0 Z n0 h0 cs fv) (h1 : ¬ (x < (0 : Int32))) (h2 : x < n) : MF l Z own_y_41 jdk_42_method_155_code 2 none ws (⟨1, 0, 0, 14⟩ : Room) #[(.int x), (.int n)] h0 (QU h0 n0) := by
  refine own_en (plainFor_of_name pn_2) (fun m => ef_42 m x n) fun p e s m below meth c s₁ bs hx hby hml hZ hown hnm X0 e0 hlk hrt pre0 => ?_
  have N0 := Fr.nil n0
  rcases Ev.2.2.2.2 with rfl | ⟨rr, rfl⟩
  case inl =>
    obtain ⟨T37, X37, e37, st37⟩ := getS2 X0 hx hZ hown (host := "") (Or.inl (own_w hw 174 rfl)) Via.refl e0 (own_fo Ev) (g := (mkF m 2 (Y2 x n) [(.int n), (.int x)])) rfl (hb hby d34_2)
    obtain ⟨_, T38, L38, X38, N38, ⟨_, rfl, -, e38⟩, st38⟩ := own_cS X37 hx hZ hown (own_k_47 hw) (rmPcN hw x n Z0 h1 h2) (W := 0) (k := 0) (n := 0) (by decide) e37 N0 (fun _ _ _ h => h.2.1) (Ls := (Y2 x n)) (rest := []) hml.symm (lenOf pd_48 rfl) (Nat.le_of_eq rfl) (hb hby d34_5)
    have pre39 : PQ p e below T38 (mkF m 9 (Y2 x n) []) bs := fun t kt => pre0 t (by
      refine XS.iloadN X0.here hx rfl (hb hby d34_0) rfl ?_
      refine XS.iloadN X0.here hx rfl (hb hby d34_1) rfl ?_
      refine st37 _ ?_
      refine st38.trans ?_
      refine XS.pop X38.here hx rfl (hb hby d34_8) rfl rfl ?_
      exact kt)
    exact own_retV X38 hx hlk hrt (hb hby d34_9) pre39 (show QU h0 n0 _ _ _ from ⟨rfl, N38, e38⟩) (by decide) (by decide)
  case inr =>
    obtain ⟨T40, X40, e40, st40⟩ := getS2 X0 hx hZ hown (host := "") (Or.inl (own_w hw 174 rfl)) Via.refl e0 (own_fo Ev) (g := (mkF m 2 (Y2 x n) [(.int n), (.int x)])) rfl (hb hby d34_2)
    obtain ⟨_, T41, L41, X41, N41, ⟨_, rfl, -, e41⟩, st41⟩ := own_cS X40 hx hZ hown (own_k_47 hw) (rmPcR hw x n rr Z0 h1 h2) (W := 0) (k := 0) (n := 0) (by decide) e40 N0 (fun _ _ _ h => h.2.1) (Ls := (Y2 x n)) (rest := []) hml.symm (lenOf pd_48 rfl) (Nat.le_of_eq rfl) (hb hby d34_5)
    have pre42 : PQ p e below T41 (mkF m 9 (Y2 x n) []) bs := fun t kt => pre0 t (by
      refine XS.iloadN X0.here hx rfl (hb hby d34_0) rfl ?_
      refine XS.iloadN X0.here hx rfl (hb hby d34_1) rfl ?_
      refine st40 _ ?_
      refine st41.trans ?_
      refine XS.pop X41.here hx rfl (hb hby d34_8) rfl rfl ?_
      exact kt)
    exact own_retV X41 hx hlk hrt (hb hby d34_9) pre42 (show QU h0 n0 _ _ _ from ⟨rfl, N41, e41⟩) (by decide) (by decide)
abbrev own_y_51 : MethodName := (⟨"java/lang/StringLatin1", "charAt", "([BI)C"⟩ : MethodName)
theorem ef_52 (m : MethodId) (x0 : Addr) (x1 : Int32) : entryFrame m #[(.ref x0), (.int x1)] 2 = mkF m 0 #[.val (.ref x0), .val (.int x1)] [] := by first | (simp [entryFrame, mkF, argsToLocals, Value.category]; done) | rfl
theorem pn_53 : plainName "java/lang/StringLatin1" = true := by first | (simp [plainName, overriddenIn]; done) | decide +kernel
theorem d33_0 : decode jdk_43_method_2_code 0 = .ok (.iload_n 1, 1) := by decide +kernel
theorem d33_1 : decode jdk_43_method_2_code 1 = .ok (.aload_n 0, 1) := by decide +kernel
theorem d33_2 : decode jdk_43_method_2_code 2 = .ok (.arraylength, 1) := by decide +kernel
theorem d33_3 : decode jdk_43_method_2_code 3 = .ok (.invokestatic 9, 3) := by decide +kernel
theorem own_k_58 {Z : State} {a0 : Array Value} (hw : Hw a0 Z) : KS Z a0 "java/lang/StringLatin1" 9 own_y_41 jdk_42_method_155_code 2 none := ⟨(own_w hw 171 rfl), (own_w hw 172 rfl), (own_w hw 173 rfl), (own_w hw 8 rfl), by decide⟩
theorem pd_59 : parseMethodDescriptor "(II)V" = some ⟨[.int, .int], none⟩ := by decide +kernel
theorem d33_6 : decode jdk_43_method_2_code 6 = .ok (.aload_n 0, 1) := by decide +kernel
theorem d33_7 : decode jdk_43_method_2_code 7 = .ok (.iload_n 1, 1) := by decide +kernel
theorem d33_8 : decode jdk_43_method_2_code 8 = .ok (.baload, 1) := by decide +kernel
theorem d33_9 : decode jdk_43_method_2_code 9 = .ok (.sipush 255, 3) := by decide +kernel
theorem d33_12 : decode jdk_43_method_2_code 12 = .ok (.iand, 1) := by decide +kernel
theorem d33_13 : decode jdk_43_method_2_code 13 = .ok (.i2c, 1) := by decide +kernel
theorem d33_14 : decode jdk_43_method_2_code 14 = .ok (.ireturn, 1) := by decide +kernel
set_option maxRecDepth 65536 in
set_option maxHeartbeats 40000000 in
theorem rmCa1 {l : Launch} {Z : State} {a0 : Array Value} (hw : Hw a0 Z) {ws : List Jvm.Cond} (yS : Addr) (kS : ClassId) (n x ch : Int32) (vs : List Value) {h0 : Heap} {n0 : Nat} (Z0 : n0 ≤ h0.size) {cs : Int32} {fv : Value} (Ev : Ev0 Z n0 h0 cs fv) (VS : Arv Z h0 yS kS .byte n vs (.int (0 : Int32))) (h1 : ¬ (x < (0 : Int32))) (h2 : x < n) (hv : vs.getD x.toNatClampNeg (.int (0 : Int32)) = .int ch) (hp : Pr ch) : MF l Z own_y_51 jdk_43_method_2_code 2 (some .char) ws (⟨2, 0, 0, 27⟩ : Room) #[(.ref yS), (.int x)] h0 (QI ch h0 n0) := by
  refine own_en (plainFor_of_name pn_53) (fun m => ef_52 m yS x) fun p e s m below meth c s₁ bs hx hby hml hZ hown hnm X0 e0 hlk hrt pre0 => ?_
  have N0 := Fr.nil n0
  obtain ⟨cl, A, q, S, M, H, J⟩ := id VS
  have hin : ¬ (x < 0 ∨ cl.slots.size ≤ (x).toNatClampNeg) := inb_of S ⟨h1, h2⟩
  have hat : cl.slots[(x).toNatClampNeg]? = some (.int ch) := H.at hin hv
  obtain ⟨_, T43, L43, X43, N43, ⟨_, rfl, -, e43⟩, st43⟩ := own_cS X0 hx hZ hown (own_k_58 hw) (rmCi hw x n Z0 Ev h1 h2) (W := 0) (k := 0) (n := 0) (by decide) e0 N0 (fun _ _ _ h => h.2.1) (Ls := (Y3 yS x)) (rest := []) hml.symm (lenOf pd_59 rfl) (Nat.le_of_eq rfl) (hb hby d33_3)
  have pre44 : PQ p e below T43 (mkF m 14 (Y3 yS x) [(.int ((ch &&& (255 : Int32)).toUInt32.toUInt16.toUInt32.toInt32))]) bs := fun t kt => pre0 t (by
    refine XS.iloadN X0.here hx rfl (hb hby d33_0) rfl ?_
    refine XS.aloadN X0.here hx rfl (hb hby d33_1) rfl rfl ?_
    refine X0.arraylength hx (by rw [e0]; exact A.1) (State.isArrayOf_alike hZ.alike A.2.1) (g := (mkF m 2 (Y3 yS x) [(.ref yS), (.int x)])) rfl rfl (hb hby d33_2) _ ?_
    rw [len_of S M]
    refine st43.trans ?_
    refine XS.aloadN X43.here hx rfl (hb hby d33_6) rfl rfl ?_
    refine XS.iloadN X43.here hx rfl (hb hby d33_7) rfl ?_
    refine X43.baloadBytes hx (j := x) (v := (.int ch)) (by rw [e43]; exact A.1) (State.isArrayOf_alike hZ.alike A.2.1) A.2.2 hin hat (g := (mkF m 8 (Y3 yS x) [(.int x), (.ref yS)])) rfl rfl (hb hby d33_8) _ ?_
    refine XS.sipush X43.here hx rfl (hb hby d33_9) ?_
    refine XS.iand X43.here hx rfl (hb hby d33_12) rfl ?_
    refine XS.i2c X43.here hx rfl (hb hby d33_13) rfl ?_
    exact kt)
  exact own_retN X43 hx hlk (t := .char) hrt (by simp) (hb hby d33_14) pre44 (show QI ch h0 n0 _ _ _ from ⟨congrArg (fun z => some (Value.int z)) hp.2.1, N43, e43⟩) (by decide) (by decide)
abbrev own_y_67 : MethodName := (⟨"java/lang/String", "charAt", "(I)C"⟩ : MethodName)
theorem ef_68 (m : MethodId) (x0 : Addr) (x1 : Int32) : entryFrame m #[(.ref x0), (.int x1)] 2 = mkF m 0 #[.val (.ref x0), .val (.int x1)] [] := by first | (simp [entryFrame, mkF, argsToLocals, Value.category]; done) | rfl
theorem d31_0 : decode jdk_42_method_56_code 0 = .ok (.aload_n 0, 1) := by decide +kernel
theorem d31_1 : decode jdk_42_method_56_code 1 = .ok (.invokevirtual 492, 3) := by decide +kernel
theorem own_k_71 {Z : State} {a0 : Array Value} (hw : Hw a0 Z) : KV Z a0 "java/lang/String" "java/lang/String" 492 own_y_9 jdk_42_method_154_code 1 (some .boolean) := ⟨(own_w hw 162 rfl), (own_w hw 163 rfl), (own_w hw 165 rfl), (own_w hw 164 rfl), (own_w hw 166 rfl), (own_w hw 8 rfl), by decide⟩
theorem pd_72 : parseMethodDescriptor "()Z" = some ⟨[], some .boolean⟩ := by decide +kernel
theorem d31_4 : decode jdk_42_method_56_code 4 = .ok (.ifCond .eq 12, 3) := by decide +kernel
theorem d31_7 : decode jdk_42_method_56_code 7 = .ok (.aload_n 0, 1) := by decide +kernel
theorem d31_8 : decode jdk_42_method_56_code 8 = .ok (.getfield 9, 3) := by decide +kernel
theorem d31_11 : decode jdk_42_method_56_code 11 = .ok (.iload_n 1, 1) := by decide +kernel
theorem d31_12 : decode jdk_42_method_56_code 12 = .ok (.invokestatic 495, 3) := by decide +kernel
theorem own_k_78 {Z : State} {a0 : Array Value} (hw : Hw a0 Z) : KS Z a0 "java/lang/String" 495 own_y_51 jdk_43_method_2_code 2 (some .char) := ⟨(own_w hw 167 rfl), (own_w hw 168 rfl), (own_w hw 170 rfl), (own_w hw 169 rfl), by decide⟩
theorem pd_79 : parseMethodDescriptor "([BI)C" = some ⟨[(.array .byte), .int], some .char⟩ := by decide +kernel
theorem d31_15 : decode jdk_42_method_56_code 15 = .ok (.ireturn, 1) := by decide +kernel
set_option maxRecDepth 65536 in
set_option maxHeartbeats 40000000 in
theorem rmCa {l : Launch} {Z : State} {a0 : Array Value} (hw : Hw a0 Z) {ws : List Jvm.Cond} (oS yS : Addr) (kS : ClassId) (n x ch : Int32) (vs : List Value) {h0 : Heap} {n0 : Nat} (Z0 : n0 ≤ h0.size) {cs : Int32} {fv : Value} (Ev : Ev0 Z n0 h0 cs fv) (ES : Exa Z h0 oS "java/lang/String") (FcS : Fa Z h0 oS (.int (0 : Int32))) (FvS : Fb Z h0 oS (.ref yS)) (VS : Arv Z h0 yS kS .byte n vs (.int (0 : Int32))) (h1 : ¬ (x < (0 : Int32))) (h2 : x < n) (hv : vs.getD x.toNatClampNeg (.int (0 : Int32)) = .int ch) (hp : Pr ch) : MF l Z own_y_67 jdk_42_method_56_code 2 (some .char) ws (⟨3, 0, 0, 40⟩ : Room) #[(.ref oS), (.int x)] h0 (QI ch h0 n0) := by
  refine own_en (plainFor_of_name pn_2) (fun m => ef_68 m oS x) fun p e s m below meth c s₁ bs hx hby hml hZ hown hnm X0 e0 hlk hrt pre0 => ?_
  have N0 := Fr.nil n0
  obtain ⟨_, T45, L45, X45, N45, ⟨_, rfl, -, e45⟩, st45⟩ := own_cV X0 hx hZ hown (own_k_71 hw) (rmLat hw oS Z0 Ev FcS) (W := 0) (k := 0) (n := 0) (by decide) e0 N0 (fun _ _ _ h => h.2.1) ES (Ls := (Y3 oS x)) (rest := []) hml.symm (lenOf pd_72 rfl) (Nat.le_of_eq rfl) (hb hby d31_1)
  obtain ⟨T46, X46, e46, st46⟩ := getF X45 hx hZ hown (host := "") (Or.inl (own_w hw 33 rfl)) Via.refl e45 FvS (g := (mkF m 8 (Y3 oS x) [(.ref oS)])) rfl rfl (hb hby d31_8)
  obtain ⟨_, T47, L47, X47, N47, ⟨_, rfl, -, e47⟩, st47⟩ := own_cS X46 hx hZ hown (own_k_78 hw) (rmCa1 hw yS kS n x ch vs Z0 Ev VS h1 h2 hv hp) (W := 0) (k := 0) (n := 0) (by decide) e46 N45 (fun _ _ _ h => h.2.1) (Ls := (Y3 oS x)) (rest := []) hml.symm (lenOf pd_79 rfl) (Nat.le_of_eq rfl) (hb hby d31_12)
  have pre48 : PQ p e below T47 (mkF m 15 (Y3 oS x) [(.int ch)]) bs := fun t kt => pre0 t (by
    refine XS.aloadN X0.here hx rfl (hb hby d31_0) rfl rfl ?_
    refine st45.trans ?_
    refine XS.ifNo X45.here hx rfl (hb hby d31_4) rfl ((if0 _ _).trans (feq (by decide : ¬ ((1 : Int32) = (0 : Int32)))).1) ?_
    refine XS.aloadN X45.here hx rfl (hb hby d31_7) rfl rfl ?_
    refine st46 _ ?_
    refine XS.iloadN X46.here hx rfl (hb hby d31_11) rfl ?_
    refine st47.trans ?_
    exact kt)
  exact own_retN X47 hx hlk (t := .char) hrt (by simp) (hb hby d31_15) pre48 (show QI ch h0 n0 _ _ _ from ⟨congrArg (fun z => some (Value.int z)) hp.2.2.1, N47, e47⟩) (by decide) (by decide)
abbrev own_y_81 : MethodName := (⟨"java/lang/StringUTF16", "compress", "([CI[BII)I"⟩ : MethodName)
theorem ef_82 (m : MethodId) (x0 : Addr) (x1 : Int32) (x2 : Addr) (x3 : Int32) (x4 : Int32) : entryFrame m #[(.ref x0), (.int x1), (.ref x2), (.int x3), (.int x4)] 7 = mkF m 0 #[.val (.ref x0), .val (.int x1), .val (.ref x2), .val (.int x3), .val (.int x4), .unset, .unset] [] := by first | (simp [entryFrame, mkF, argsToLocals, Value.category]; done) | rfl
theorem pn_83 : plainName "java/lang/StringUTF16" = true := by first | (simp [plainName, overriddenIn]; done) | decide +kernel
theorem d6_0 : decode jdk_52_method_21_code 0 = .ok (.iconst 0, 1) := by decide +kernel
theorem d6_1 : decode jdk_52_method_21_code 1 = .ok (.istore 5, 2) := by decide +kernel
theorem d6_3 : decode jdk_52_method_21_code 3 = .ok (.iload 5, 2) := by decide +kernel
theorem d6_5 : decode jdk_52_method_21_code 5 = .ok (.iload 4, 2) := by decide +kernel
theorem d6_7 : decode jdk_52_method_21_code 7 = .ok (.if_icmp .ge 37, 3) := by decide +kernel
theorem d6_10 : decode jdk_52_method_21_code 10 = .ok (.aload_n 0, 1) := by decide +kernel
theorem d6_11 : decode jdk_52_method_21_code 11 = .ok (.iload_n 1, 1) := by decide +kernel
theorem d6_12 : decode jdk_52_method_21_code 12 = .ok (.caload, 1) := by decide +kernel
theorem d6_13 : decode jdk_52_method_21_code 13 = .ok (.istore 6, 2) := by decide +kernel
theorem d6_15 : decode jdk_52_method_21_code 15 = .ok (.iload 6, 2) := by decide +kernel
theorem d6_17 : decode jdk_52_method_21_code 17 = .ok (.sipush 255, 3) := by decide +kernel
theorem d6_20 : decode jdk_52_method_21_code 20 = .ok (.if_icmp .le 6, 3) := by decide +kernel
theorem d6_26 : decode jdk_52_method_21_code 26 = .ok (.aload_n 2, 1) := by decide +kernel
theorem d6_27 : decode jdk_52_method_21_code 27 = .ok (.iload_n 3, 1) := by decide +kernel
theorem d6_28 : decode jdk_52_method_21_code 28 = .ok (.iload 6, 2) := by decide +kernel
theorem d6_30 : decode jdk_52_method_21_code 30 = .ok (.i2b, 1) := by decide +kernel
theorem d6_31 : decode jdk_52_method_21_code 31 = .ok (.bastore, 1) := by decide +kernel
theorem d6_32 : decode jdk_52_method_21_code 32 = .ok (.iinc 1 1, 3) := by decide +kernel
theorem d6_35 : decode jdk_52_method_21_code 35 = .ok (.iinc 3 1, 3) := by decide +kernel
theorem d6_38 : decode jdk_52_method_21_code 38 = .ok (.iinc 5 1, 3) := by decide +kernel
theorem d6_41 : decode jdk_52_method_21_code 41 = .ok (.goto (-38), 3) := by decide +kernel
theorem d6_44 : decode jdk_52_method_21_code 44 = .ok (.iload 4, 2) := by decide +kernel
theorem d6_46 : decode jdk_52_method_21_code 46 = .ok (.ireturn, 1) := by decide +kernel
def QCp1 (Z : State) (yB : Addr) (kB : ClassId) (c0 : Int32) (h0 : Heap) (n0 : Nat) (v : Option Value) (h : Heap) (L : List Loc) : Prop := v = some (.int (1 : Int32)) ∧ Fr n0 L ∧ Keep h0 h [yB] ∧ Arv Z h yB kB .byte (1 : Int32) [(.int c0)] (.int (0 : Int32))
set_option maxRecDepth 65536 in
set_option maxHeartbeats 40000000 in
theorem rmCp1 {l : Launch} {Z : State} {a0 : Array Value} (hw : Hw a0 Z) {ws : List Jvm.Cond} (yC : Addr) (kC : ClassId) (yB : Addr) (kB : ClassId) (c0 : Int32) {h0 : Heap} {n0 : Nat} (Z0 : n0 ≤ h0.size) (VC : Arv Z h0 yC kC .char (1 : Int32) [(.int c0)] (.int (0 : Int32))) (VB : Arv Z h0 yB kB .byte (1 : Int32) [(.int (0 : Int32))] (.int (0 : Int32))) (GB : n0 ≤ yB) (hne : yC ≠ yB) (hpc0 : Pr c0) : MF l Z own_y_81 jdk_52_method_21_code 7 (some .int) ws (⟨0, 0, 0, 0⟩ : Room) #[(.ref yC), o0, (.ref yB), o0, (.int (1 : Int32))] h0 (QCp1 Z yB kB c0 h0 n0) := by
  refine own_en (plainFor_of_name pn_83) (fun m => ef_82 m yC (0 : Int32) yB (0 : Int32) (1 : Int32)) fun p e s m below meth c s₁ bs hx hby hml hZ hown hnm X0 e0 hlk hrt pre0 => ?_
  have N0 := Fr.nil n0
  obtain ⟨cl49, A49, q49, S49, M49, H49, J49⟩ := id VC
  have hin49 : ¬ ((0 : Int32) < 0 ∨ cl49.slots.size ≤ ((0 : Int32)).toNatClampNeg) := inb_of S49 ⟨by decide, by decide⟩
  have hat49 : cl49.slots[((0 : Int32)).toNatClampNeg]? = some (.int c0) := H49.at hin49 rfl
  obtain ⟨cl50, Ar50, q50, S50, M50, H50, J50⟩ := id VB
  have hin50 : ¬ ((0 : Int32) < 0 ∨ cl50.slots.size ≤ ((0 : Int32)).toNatClampNeg) := inb_of S50 ⟨by decide, by decide⟩
  obtain ⟨T51, h51, X51, e51, W51, st51⟩ := stB X0 hx hZ e0 Ar50 (j := (0 : Int32)) hin50 (g := (mkF m 31 (Y4 yC 0 yB 0 1 0 c0) [(.int (c0.toInt8.toInt32)), o0, (.ref yB)])) rfl rfl (hb hby d6_31)
  have V51 : Arv Z h51 yB kB .byte (1 : Int32) [(.int (nar .byte (c0.toInt8.toInt32)))] (.int (0 : Int32)) := Arv.set Ar50 q50 S50 M50 H50 J50 (fits_nar_byte _) W51 0 rfl (Nat.le_of_ble_eq_true rfl)
  have N51 := Fr.snoc X51 N0 GB
  have c53 := (Keep.refl h0 [yB]).wr W51 (Or.inl (List.mem_of_getElem? (i := 0) rfl))
  have VF := V51
  rw [hpc0.1] at VF
  have pre56 : PQ p e below T51 (mkF m 46 (Y4 yC 1 yB 1 1 1 c0) [(.int (1 : Int32))]) bs := fun t kt => pre0 t (by
    refine XS.iconst X0.here hx rfl (hb hby d6_0) ?_
    refine XS.istore X0.here hx rfl (hb hby d6_1) rfl (l' := (Y5 yC 0 yB 0 1 0)) rfl ?_
    refine XS.iload X0.here hx rfl (hb hby d6_3) rfl ?_
    refine XS.iload X0.here hx rfl (hb hby d6_5) rfl ?_
    refine XS.icmpNo X0.here hx rfl (hb hby d6_7) rfl (tlt (by decide : (0 : Int32) < (1 : Int32))).2.1 ?_
    refine XS.aloadN X0.here hx rfl (hb hby d6_10) rfl rfl ?_
    refine XS.iloadN X0.here hx rfl (hb hby d6_11) rfl ?_
    refine X0.caload hx (j := (0 : Int32)) (v := (.int c0)) (by rw [e0]; exact A49.1) (State.isArrayOf_alike hZ.alike A49.2.1) A49.2.2 hin49 hat49 (g := (mkF m 12 (Y5 yC 0 yB 0 1 0) [(.int (0 : Int32)), (.ref yC)])) rfl rfl (hb hby d6_12) _ ?_
    refine XS.istore X0.here hx rfl (hb hby d6_13) rfl (l' := (Y4 yC 0 yB 0 1 0 c0)) rfl ?_
    refine XS.iload X0.here hx rfl (hb hby d6_15) rfl ?_
    refine XS.sipush X0.here hx rfl (hb hby d6_17) ?_
    refine XS.icmpYes X0.here hx rfl (pc0 := 20) (pc' := 26) rfl (hb hby d6_20) rfl (flt hpc0.2.2.2.1).2.2.2 (by decide) (by decide) ?_
    refine XS.aloadN X0.here hx rfl (hb hby d6_26) rfl rfl ?_
    refine XS.iloadN X0.here hx rfl (hb hby d6_27) rfl ?_
    refine XS.iload X0.here hx rfl (hb hby d6_28) rfl ?_
    refine XS.i2b X0.here hx rfl (hb hby d6_30) rfl ?_
    refine st51 _ ?_
    refine XS.iinc X51.here hx rfl (hb hby d6_32) rfl (l' := (Y4 yC 1 yB 0 1 0 c0)) rfl ?_
    refine XS.iinc X51.here hx rfl (hb hby d6_35) rfl (l' := (Y4 yC 1 yB 1 1 0 c0)) rfl ?_
    refine XS.iinc X51.here hx rfl (hb hby d6_38) rfl (l' := (Y4 yC 1 yB 1 1 1 c0)) rfl ?_
    refine XS.goto X51.here hx rfl (pc0 := 41) (pc' := 3) rfl (hb hby d6_41) (by decide) (by decide) ?_
    refine XS.iload X51.here hx rfl (hb hby d6_3) rfl ?_
    refine XS.iload X51.here hx rfl (hb hby d6_5) rfl ?_
    refine XS.icmpYes X51.here hx rfl (pc0 := 7) (pc' := 44) rfl (hb hby d6_7) rfl (flt (by decide : ¬ ((1 : Int32) < (1 : Int32)))).2.1 (by decide) (by decide) ?_
    refine XS.iload X51.here hx rfl (hb hby d6_44) rfl ?_
    exact kt)
  have hQ : QCp1 Z yB kB c0 h0 n0 (some (.int (1 : Int32))) h51 _ := ⟨rfl, N51, c53, VF⟩
  exact own_retI X51 hx hlk hrt (hb hby d6_46) pre56 (show QCp1 Z yB kB c0 h0 n0 _ _ _ from (by rw [e51]; exact hQ)) (by decide) (by decide)
abbrev own_y_107 : MethodName := (⟨"java/lang/StringUTF16", "compress", "([CII)[B"⟩ : MethodName)
theorem ef_108 (m : MethodId) (x0 : Addr) (x1 : Int32) (x2 : Int32) : entryFrame m #[(.ref x0), (.int x1), (.int x2)] 6 = mkF m 0 #[.val (.ref x0), .val (.int x1), .val (.int x2), .unset, .unset, .unset] [] := by first | (simp [entryFrame, mkF, argsToLocals, Value.category]; done) | rfl
theorem d5_0 : decode jdk_52_method_16_code 0 = .ok (.iload_n 2, 1) := by decide +kernel
theorem d5_1 : decode jdk_52_method_16_code 1 = .ok (.newarray .byte, 2) := by decide +kernel
theorem d5_3 : decode jdk_52_method_16_code 3 = .ok (.astore_n 3, 1) := by decide +kernel
theorem d5_4 : decode jdk_52_method_16_code 4 = .ok (.aload_n 0, 1) := by decide +kernel
theorem d5_5 : decode jdk_52_method_16_code 5 = .ok (.iload_n 1, 1) := by decide +kernel
theorem d5_6 : decode jdk_52_method_16_code 6 = .ok (.aload_n 3, 1) := by decide +kernel
theorem d5_7 : decode jdk_52_method_16_code 7 = .ok (.iconst 0, 1) := by decide +kernel
theorem d5_8 : decode jdk_52_method_16_code 8 = .ok (.iload_n 2, 1) := by decide +kernel
theorem d5_9 : decode jdk_52_method_16_code 9 = .ok (.invokestatic 115, 3) := by decide +kernel
theorem own_k_118 {Z : State} {a0 : Array Value} (hw : Hw a0 Z) : KS Z a0 "java/lang/StringUTF16" 115 own_y_81 jdk_52_method_21_code 7 (some .int) := ⟨(own_w hw 25 rfl), (own_w hw 26 rfl), (own_w hw 27 rfl), (own_w hw 22 rfl), by decide⟩
theorem pd_119 : parseMethodDescriptor "([CI[BII)I" = some ⟨[(.array .char), .int, (.array .byte), .int, .int], some .int⟩ := by decide +kernel
theorem d5_12 : decode jdk_52_method_16_code 12 = .ok (.istore 4, 2) := by decide +kernel
theorem d5_14 : decode jdk_52_method_16_code 14 = .ok (.iload 4, 2) := by decide +kernel
theorem d5_16 : decode jdk_52_method_16_code 16 = .ok (.iload_n 2, 1) := by decide +kernel
theorem d5_17 : decode jdk_52_method_16_code 17 = .ok (.if_icmp .eq 40, 3) := by decide +kernel
theorem d5_57 : decode jdk_52_method_16_code 57 = .ok (.aload_n 3, 1) := by decide +kernel
theorem d5_58 : decode jdk_52_method_16_code 58 = .ok (.areturn, 1) := by decide +kernel
def QCq1 (Z : State) (c0 : Int32) (h0 : Heap) (n0 : Nat) (v : Option Value) (h : Heap) (L : List Loc) : Prop := ∃ (r : Addr) (k : ClassId), v = some (.ref r) ∧ Fr n0 L ∧ Keep h0 h [] ∧ h0.size ≤ r ∧ n0 ≤ r ∧ Arv Z h r k .byte (1 : Int32) [(.int c0)] (.int (0 : Int32))
set_option maxRecDepth 65536 in
set_option maxHeartbeats 40000000 in
theorem rmCq1 {l : Launch} {Z : State} {a0 : Array Value} (hw : Hw a0 Z) {ws : List Jvm.Cond} (yC : Addr) (kC : ClassId) (c0 : Int32) {h0 : Heap} {n0 : Nat} (Z0 : n0 ≤ h0.size) (VC : Arv Z h0 yC kC .char (1 : Int32) [(.int c0)] (.int (0 : Int32))) (hpc0 : Pr c0) : MF l Z own_y_107 jdk_52_method_16_code 6 (some (.array .byte)) ws (⟨1, 1, 1, 18⟩ : Room) #[(.ref yC), o0, (.int (1 : Int32))] h0 (QCq1 Z c0 h0 n0) := by
  refine own_en (plainFor_of_name pn_83) (fun m => ef_108 m yC (0 : Int32) (1 : Int32)) fun p e s m below meth c s₁ bs hx hby hml hZ hown hnm X0 e0 hlk hrt pre0 => ?_
  have N0 := Fr.nil n0
  obtain ⟨T57, h57, k57, X57, e57, E57, A57, st57⟩ := newP X0 hx hZ (own_w hw 24 rfl) e0 (g := (mkF m 1 (Y6 yC 0 1) [(.int (1 : Int32))])) rfl (hb hby d5_1) rfl (by decide) (cap := 1) (by decide) (by decide) (by decide) (by decide)
  obtain ⟨b57, g57⟩ : ∃ z, z = h0.size := ⟨_, rfl⟩
  rw [← g57] at A57 st57
  have G57 : n0 ≤ b57 := Nat.le_trans Z0 (Nat.le_of_eq g57.symm)
  have sz57 : h0.size ≤ b57 := Nat.le_trans (Keep.refl h0 []).1 (Nat.le_of_eq g57.symm)
  have ne58 : yC ≠ b57 := Nat.ne_of_lt (Nat.lt_of_lt_of_le VC.lt (Nat.le_of_eq g57.symm))
  have c59 := (Keep.refl h0 []).ext E57
  have c60 := VC.ext E57
  have z61 : n0 ≤ h57.size := Nat.le_trans Z0 E57.1
  have V57 : Arv Z h57 b57 k57 .byte (1 : Int32) [(.int (0 : Int32))] (.int (0 : Int32)) := (Arv.new A57 (by decide)).pad (pad_rep [] (.int (0 : Int32)) 1)
  obtain ⟨_, T62, L62, X62, N62, ⟨_, rfl, -, K62, V62⟩, st62⟩ := own_cS X57 hx hZ hown (own_k_118 hw) (rmCp1 hw yC kC b57 k57 c0 z61 c60 V57 G57 ne58 hpc0) (W := 0) (k := 1) (n := 1) (by decide) e57 N0 (fun _ _ _ h => h.2.1) (Ls := (Y7 yC 0 1 b57)) (rest := []) hml.symm (lenOf pd_119 rfl) (Nat.le_of_eq rfl) (hb hby d5_9)
  have c64 := c59.trans K62 (allS (Or.inr sz57) all0)
  have pre67 : PQ p e below T62 (mkF m 58 (Y8 yC 0 1 b57 1) [(.ref b57)]) bs := fun t kt => pre0 t (by
    refine XS.iloadN X0.here hx rfl (hb hby d5_0) rfl ?_
    refine st57 _ ?_
    refine XS.astoreN X57.here hx rfl (hb hby d5_3) rfl rfl (l' := (Y7 yC 0 1 b57)) rfl ?_
    refine XS.aloadN X57.here hx rfl (hb hby d5_4) rfl rfl ?_
    refine XS.iloadN X57.here hx rfl (hb hby d5_5) rfl ?_
    refine XS.aloadN X57.here hx rfl (hb hby d5_6) rfl rfl ?_
    refine XS.iconst X57.here hx rfl (hb hby d5_7) ?_
    refine XS.iloadN X57.here hx rfl (hb hby d5_8) rfl ?_
    refine st62.trans ?_
    refine XS.istore X62.here hx rfl (hb hby d5_12) rfl (l' := (Y8 yC 0 1 b57 1)) rfl ?_
    refine XS.iload X62.here hx rfl (hb hby d5_14) rfl ?_
    refine XS.iloadN X62.here hx rfl (hb hby d5_16) rfl ?_
    refine XS.icmpYes X62.here hx rfl (pc0 := 17) (pc' := 57) rfl (hb hby d5_17) rfl (teq (by decide : (1 : Int32) = (1 : Int32))).1 (by decide) (by decide) ?_
    refine XS.aloadN X62.here hx rfl (hb hby d5_57) rfl rfl ?_
    exact kt)
  have hQ : QCq1 Z c0 h0 n0 (some (.ref b57)) T62.heap _ := ⟨b57, k57, rfl, N62, c64, sz57, G57, V62⟩
  exact own_retA X62 hx hlk rfl hrt rfl (hb hby d5_58) pre67 (show QCq1 Z c0 h0 n0 _ _ _ from hQ) (by decide) (by decide)
abbrev own_y_126 : MethodName := (⟨"java/lang/StringUTF16", "coderFromArrayLen", "([BI)B"⟩ : MethodName)
theorem ef_127 (m : MethodId) (x0 : Addr) (x1 : Int32) : entryFrame m #[(.ref x0), (.int x1)] 2 = mkF m 0 #[.val (.ref x0), .val (.int x1)] [] := by first | (simp [entryFrame, mkF, argsToLocals, Value.category]; done) | rfl
theorem d7_0 : decode jdk_52_method_15_code 0 = .ok (.iload_n 1, 1) := by decide +kernel
theorem d7_1 : decode jdk_52_method_15_code 1 = .ok (.aload_n 0, 1) := by decide +kernel
theorem d7_2 : decode jdk_52_method_15_code 2 = .ok (.arraylength, 1) := by decide +kernel
theorem d7_3 : decode jdk_52_method_15_code 3 = .ok (.isub, 1) := by decide +kernel
theorem d7_4 : decode jdk_52_method_15_code 4 = .ok (.bipush 31, 2) := by decide +kernel
theorem d7_6 : decode jdk_52_method_15_code 6 = .ok (.iushr, 1) := by decide +kernel
theorem d7_7 : decode jdk_52_method_15_code 7 = .ok (.i2b, 1) := by decide +kernel
theorem d7_8 : decode jdk_52_method_15_code 8 = .ok (.ireturn, 1) := by decide +kernel
set_option maxRecDepth 65536 in
set_option maxHeartbeats 40000000 in
theorem rmCl1 {l : Launch} {Z : State} {a0 : Array Value} (hw : Hw a0 Z) {ws : List Jvm.Cond} (yB : Addr) (kB : ClassId) (c0 : Int32) {h0 : Heap} {n0 : Nat} (Z0 : n0 ≤ h0.size) (VB : Arv Z h0 yB kB .byte (1 : Int32) [(.int c0)] (.int (0 : Int32))) : MF l Z own_y_126 jdk_52_method_15_code 2 (some .byte) ws (⟨0, 0, 0, 0⟩ : Room) #[(.ref yB), (.int (1 : Int32))] h0 (QI (0 : Int32) h0 n0) := by
  refine own_en (plainFor_of_name pn_83) (fun m => ef_127 m yB (1 : Int32)) fun p e s m below meth c s₁ bs hx hby hml hZ hown hnm X0 e0 hlk hrt pre0 => ?_
  have N0 := Fr.nil n0
  obtain ⟨cl68, A68, q68, S68, M68, H68, J68⟩ := id VB
  have pre69 : PQ p e below s₁ (mkF m 8 (Y3 yB 1) [(.int (0 : Int32))]) bs := fun t kt => pre0 t (by
    refine XS.iloadN X0.here hx rfl (hb hby d7_0) rfl ?_
    refine XS.aloadN X0.here hx rfl (hb hby d7_1) rfl rfl ?_
    refine X0.arraylength hx (by rw [e0]; exact A68.1) (State.isArrayOf_alike hZ.alike A68.2.1) (g := (mkF m 2 (Y3 yB 1) [(.ref yB), (.int (1 : Int32))])) rfl rfl (hb hby d7_2) _ ?_
    rw [len_of S68 M68]
    refine XS.isub X0.here hx rfl (hb hby d7_3) rfl ?_
    refine XS.bipush X0.here hx rfl (hb hby d7_4) ?_
    refine XS.iushr X0.here hx rfl (hb hby d7_6) rfl ?_
    refine XS.i2b X0.here hx rfl (hb hby d7_7) rfl ?_
    exact kt)
  exact own_retN X0 hx hlk (t := .byte) hrt (by simp) (hb hby d7_8) pre69 (show QI (0 : Int32) h0 n0 _ _ _ from ⟨rfl, N0, e0⟩) (by decide) (by decide)
abbrev own_y_136 : MethodName := (⟨"java/lang/String", "<init>", "([CIILjava/lang/Void;)V"⟩ : MethodName)
theorem ef_137 (m : MethodId) (x0 : Addr) (x1 : Addr) (x2 : Int32) (x3 : Int32) : entryFrame m #[(.ref x0), (.ref x1), (.int x2), (.int x3), .null] 6 = mkF m 0 #[.val (.ref x0), .val (.ref x1), .val (.int x2), .val (.int x3), .val .null, .unset] [] := by first | (simp [entryFrame, mkF, argsToLocals, Value.category]; done) | rfl
theorem d3_0 : decode jdk_42_method_149_code 0 = .ok (.aload_n 0, 1) := by decide +kernel
theorem d3_1 : decode jdk_42_method_149_code 1 = .ok (.invokespecial 1, 3) := by decide +kernel
theorem d3_4 : decode jdk_42_method_149_code 4 = .ok (.iload_n 3, 1) := by decide +kernel
theorem d3_5 : decode jdk_42_method_149_code 5 = .ok (.ifCond .ne 22, 3) := by decide +kernel
theorem d3_27 : decode jdk_42_method_149_code 27 = .ok (.getstatic 38, 3) := by decide +kernel
theorem d3_30 : decode jdk_42_method_149_code 30 = .ok (.ifCond .eq 28, 3) := by decide +kernel
theorem d3_33 : decode jdk_42_method_149_code 33 = .ok (.aload_n 1, 1) := by decide +kernel
theorem d3_34 : decode jdk_42_method_149_code 34 = .ok (.iload_n 2, 1) := by decide +kernel
theorem d3_35 : decode jdk_42_method_149_code 35 = .ok (.iload_n 3, 1) := by decide +kernel
theorem d3_36 : decode jdk_42_method_149_code 36 = .ok (.invokestatic 177, 3) := by decide +kernel
theorem own_k_148 {Z : State} {a0 : Array Value} (hw : Hw a0 Z) : KS Z a0 "java/lang/String" 177 own_y_107 jdk_52_method_16_code 6 (some (.array .byte)) := ⟨(own_w hw 20 rfl), (own_w hw 21 rfl), (own_w hw 23 rfl), (own_w hw 22 rfl), by decide⟩
theorem pd_149 : parseMethodDescriptor "([CII)[B" = some ⟨[(.array .char), .int, .int], some (.array .byte)⟩ := by decide +kernel
theorem d3_39 : decode jdk_42_method_149_code 39 = .ok (.astore 5, 2) := by decide +kernel
theorem d3_41 : decode jdk_42_method_149_code 41 = .ok (.aload_n 0, 1) := by decide +kernel
theorem d3_42 : decode jdk_42_method_149_code 42 = .ok (.aload 5, 2) := by decide +kernel
theorem d3_44 : decode jdk_42_method_149_code 44 = .ok (.iload_n 3, 1) := by decide +kernel
theorem d3_45 : decode jdk_42_method_149_code 45 = .ok (.invokestatic 47, 3) := by decide +kernel
theorem own_k_155 {Z : State} {a0 : Array Value} (hw : Hw a0 Z) : KS Z a0 "java/lang/String" 47 own_y_126 jdk_52_method_15_code 2 (some .byte) := ⟨(own_w hw 28 rfl), (own_w hw 29 rfl), (own_w hw 30 rfl), (own_w hw 22 rfl), by decide⟩
theorem pd_156 : parseMethodDescriptor "([BI)B" = some ⟨[(.array .byte), .int], some .byte⟩ := by decide +kernel
theorem d3_48 : decode jdk_42_method_149_code 48 = .ok (.putfield 15, 3) := by decide +kernel
theorem own_sn_158 {Z : State} {a0 : Array Value} (hw : ∀ d ∈ tables_1, d.before a0 Z = true) : Jvm.RoadKit.slotOf Z "java/lang/String" "value" "[B" ≠ Jvm.RoadKit.slotOf Z "java/lang/String" "coder" "B" := slot_ne (C := "java/lang/String") (Or.inr (own_w hw 34 rfl)) (Or.inr (own_w hw 32 rfl)) (by decide) (t := (.array .byte)) (t' := .byte) (by decide) (by decide)
theorem d3_51 : decode jdk_42_method_149_code 51 = .ok (.aload_n 0, 1) := by decide +kernel
theorem d3_52 : decode jdk_42_method_149_code 52 = .ok (.aload 5, 2) := by decide +kernel
theorem d3_54 : decode jdk_42_method_149_code 54 = .ok (.putfield 9, 3) := by decide +kernel
theorem own_sn_162 {Z : State} {a0 : Array Value} (hw : ∀ d ∈ tables_1, d.before a0 Z = true) : Jvm.RoadKit.slotOf Z "java/lang/String" "coder" "B" ≠ Jvm.RoadKit.slotOf Z "java/lang/String" "value" "[B" := slot_ne (C := "java/lang/String") (Or.inr (own_w hw 32 rfl)) (Or.inr (own_w hw 34 rfl)) (by decide) (t := .byte) (t' := (.array .byte)) (by decide) (by decide)
theorem d3_57 : decode jdk_42_method_149_code 57 = .ok (.return_, 1) := by decide +kernel
def QSj1 (Z : State) (oS : Addr) (c0 : Int32) (h0 : Heap) (n0 : Nat) (v : Option Value) (h : Heap) (L : List Loc) : Prop := ∃ (r : Addr) (k : ClassId), v = none ∧ Fr n0 L ∧ Keep h0 h [oS] ∧ Fa Z h oS (.int (0 : Int32)) ∧ Fb Z h oS (.ref r) ∧ Arv Z h r k .byte (1 : Int32) [(.int c0)] (.int (0 : Int32))
set_option maxRecDepth 65536 in
set_option maxHeartbeats 40000000 in
theorem rmSj1 {l : Launch} {Z : State} {a0 : Array Value} (hw : Hw a0 Z) {ws : List Jvm.Cond} (oS yC : Addr) (kC : ClassId) (c0 : Int32) {h0 : Heap} {n0 : Nat} (Z0 : n0 ≤ h0.size) {cs : Int32} {fv : Value} (Ev : Ev0 Z n0 h0 cs fv) (ES : Exa Z h0 oS "java/lang/String") (FcS : Fa Z h0 oS (.int (0 : Int32))) (FvS : Fb Z h0 oS .null) (GS : n0 ≤ oS) (VC : Arv Z h0 yC kC .char (1 : Int32) [(.int c0)] (.int (0 : Int32))) (hpc0 : Pr c0) : MF l Z own_y_136 jdk_42_method_149_code 6 none ws (⟨2, 1, 1, 35⟩ : Room) #[(.ref oS), (.ref yC), o0, (.int (1 : Int32)), .null] h0 (QSj1 Z oS c0 h0 n0) := by
  refine own_en (plainFor_of_name pn_2) (fun m => ef_137 m oS yC (0 : Int32) (1 : Int32)) fun p e s m below meth c s₁ bs hx hby hml hZ hown hnm X0 e0 hlk hrt pre0 => ?_
  have N0 := Fr.nil n0
  obtain ⟨T70, X70, e70, st70⟩ := initO X0 hx hZ hown (own_w hw 16 rfl) (own_w hw 17 rfl) (own_w hw 18 rfl) e0 (g := (mkF m 1 (Y9 oS yC 0 1) [(.ref oS)])) rfl (by rw [hml]; rfl) rfl (hb hby d3_1) (by decide) (W := 0) (by show 2 * 0 + _ ≤ _; exact Nat.le_of_eq rfl) (by decide)
  obtain ⟨T71, X71, e71, st71⟩ := getS2 X70 hx hZ hown (host := "") (Or.inl (own_w hw 19 rfl)) Via.refl e70 (own_cs Ev) (g := (mkF m 27 (Y9 oS yC 0 1) [])) rfl (hb hby d3_27)
  obtain ⟨_, T72, L72, X72, N72, ⟨_, r72, kc72, rfl, -, K72, z72, G72, V72⟩, st72⟩ := own_cS X71 hx hZ hown (own_k_148 hw) (rmCq1 hw yC kC c0 Z0 VC hpc0) (W := 0) (k := 1) (n := 1) (by decide) e71 N0 (fun _ _ _ ⟨_, _, _, h, _⟩ => h) (Ls := (Y9 oS yC 0 1)) (rest := []) hml.symm (lenOf pd_149 rfl) (Nat.le_of_eq rfl) (hb hby d3_36)
  have ne73 : oS ≠ r72 := Nat.ne_of_lt (Nat.lt_of_lt_of_le ES.lt z72)
  have z75 : n0 ≤ T72.heap.size := Nat.le_trans Z0 K72.1
  have c76 := (Keep.refl h0 [oS]).trans K72 all0
  have c78 := ES.keep K72
  have c79 := FcS.keep K72 nin0
  have c80 := FvS.keep K72 nin0
  obtain ⟨_, T82, L82, X82, N82, ⟨_, rfl, -, e82⟩, st82⟩ := own_cS X72 hx hZ hown (own_k_155 hw) (rmCl1 hw r72 kc72 c0 z75 V72) (W := 1) (k := 1) (n := 1) (by decide) rfl N72 (fun _ _ _ h => h.2.1) (Ls := (Y10 oS yC 0 1 r72)) (rest := [(.ref oS)]) hml.symm (lenOf pd_156 rfl) (Nat.le_of_eq rfl) (hb hby d3_45)
  obtain ⟨T83, h83, X83, e83, W83, st83⟩ := putFN X82 hx hZ hown (own_w hw 31 rfl) Via.refl e82 c79 c78 (Or.inr ⟨(own_w hw 32 rfl), rfl, hnm⟩) (own_w hw 7 rfl) (ty := .byte) (v' := (.int (nar .byte (0 : Int32)))) (by decide) rfl (fits_nar_byte _) (g := (mkF m 48 (Y10 oS yC 0 1 r72) [(.int (0 : Int32)), (.ref oS)])) rfl rfl (hb hby d3_48)
  have Fw83 := c79.same W83
  have N83 := Fr.snoc X83 N82 GS
  have c85 := c76.wr W83 (Or.inl (List.mem_of_getElem? (i := 0) rfl))
  have c87 := c78.wr W83
  have c89 := c80.other W83 (Or.inr (own_sn_158 hw))
  have c90 := V72.other W83 (Ne.symm ne73)
  obtain ⟨T91, h91, X91, e91, W91, st91⟩ := putF X83 hx hZ hown (host := "") (Or.inl (own_w hw 33 rfl)) Via.refl e83 c89 c87 (Or.inr ⟨(own_w hw 34 rfl), rfl, hnm⟩) (own_w hw 7 rfl) (ty := (.array .byte)) (by decide) rfl rfl (g := (mkF m 54 (Y10 oS yC 0 1 r72) [(.ref r72), (.ref oS)])) rfl rfl (hb hby d3_54)
  have Fw91 := c89.same W91
  have N91 := Fr.snoc X91 N83 GS
  have c93 := c85.wr W91 (Or.inl (List.mem_of_getElem? (i := 0) rfl))
  have c97 := c90.other W91 (Ne.symm ne73)
  have c98 := Fw83.other W91 (Or.inr (own_sn_162 hw))
  have pre99 : PQ p e below T91 (mkF m 57 (Y10 oS yC 0 1 r72) []) bs := fun t kt => pre0 t (by
    refine XS.aloadN X0.here hx rfl (hb hby d3_0) rfl rfl ?_
    refine st70 _ ?_
    refine XS.iloadN X70.here hx rfl (hb hby d3_4) rfl ?_
    refine XS.ifYes X70.here hx rfl (pc0 := 5) (pc' := 27) rfl (hb hby d3_5) rfl ((if0 _ _).trans (feq (by decide : ¬ ((1 : Int32) = (0 : Int32)))).2) (by decide) (by decide) ?_
    refine st71 _ ?_
    refine XS.ifNo X71.here hx rfl (hb hby d3_30) rfl ((if0 _ _).trans (feq Ev.2.2.1).1) ?_
    refine XS.aloadN X71.here hx rfl (hb hby d3_33) rfl rfl ?_
    refine XS.iloadN X71.here hx rfl (hb hby d3_34) rfl ?_
    refine XS.iloadN X71.here hx rfl (hb hby d3_35) rfl ?_
    refine st72.trans ?_
    refine XS.astore X72.here hx rfl (hb hby d3_39) rfl rfl (l' := (Y10 oS yC 0 1 r72)) rfl ?_
    refine XS.aloadN X72.here hx rfl (hb hby d3_41) rfl rfl ?_
    refine XS.aload X72.here hx rfl (hb hby d3_42) rfl rfl ?_
    refine XS.iloadN X72.here hx rfl (hb hby d3_44) rfl ?_
    refine st82.trans ?_
    refine st83 _ ?_
    refine XS.aloadN X83.here hx rfl (hb hby d3_51) rfl rfl ?_
    refine XS.aload X83.here hx rfl (hb hby d3_52) rfl rfl ?_
    refine st91 _ ?_
    exact kt)
  have hQ : QSj1 Z oS c0 h0 n0 none h91 _ := ⟨r72, kc72, rfl, N91, c93, c98, Fw91, c97⟩
  exact own_retV X91 hx hlk hrt (hb hby d3_57) pre99 (show QSj1 Z oS c0 h0 n0 _ _ _ from (by rw [e91]; exact hQ)) (by decide) (by decide)
abbrev own_y_164 : MethodName := (⟨"java/lang/String", "<init>", "([C)V"⟩ : MethodName)
theorem ef_165 (m : MethodId) (x0 : Addr) (x1 : Addr) : entryFrame m #[(.ref x0), (.ref x1)] 2 = mkF m 0 #[.val (.ref x0), .val (.ref x1)] [] := by first | (simp [entryFrame, mkF, argsToLocals, Value.category]; done) | rfl
theorem d2_0 : decode jdk_42_method_3_code 0 = .ok (.aload_n 0, 1) := by decide +kernel
theorem d2_1 : decode jdk_42_method_3_code 1 = .ok (.aload_n 1, 1) := by decide +kernel
theorem d2_2 : decode jdk_42_method_3_code 2 = .ok (.iconst 0, 1) := by decide +kernel
theorem d2_3 : decode jdk_42_method_3_code 3 = .ok (.aload_n 1, 1) := by decide +kernel
theorem d2_4 : decode jdk_42_method_3_code 4 = .ok (.arraylength, 1) := by decide +kernel
theorem d2_5 : decode jdk_42_method_3_code 5 = .ok (.aconst_null, 1) := by decide +kernel
theorem d2_6 : decode jdk_42_method_3_code 6 = .ok (.invokespecial 27, 3) := by decide +kernel
theorem own_k_173 {Z : State} {a0 : Array Value} (hw : Hw a0 Z) : KI Z a0 "java/lang/String" 27 own_y_136 jdk_42_method_149_code 6 none := ⟨(own_w hw 12 rfl), (own_w hw 13 rfl), (own_w hw 15 rfl), (own_w hw 8 rfl), rfl, rfl, by decide⟩
theorem pd_174 : parseMethodDescriptor "([CIILjava/lang/Void;)V" = some ⟨[(.array .char), .int, .int, (.object "java/lang/Void")], none⟩ := by decide +kernel
theorem d2_9 : decode jdk_42_method_3_code 9 = .ok (.return_, 1) := by decide +kernel
set_option maxRecDepth 65536 in
set_option maxHeartbeats 40000000 in
theorem rmSi1 {l : Launch} {Z : State} {a0 : Array Value} (hw : Hw a0 Z) {ws : List Jvm.Cond} (oS yC : Addr) (kC : ClassId) (c0 : Int32) {h0 : Heap} {n0 : Nat} (Z0 : n0 ≤ h0.size) {cs : Int32} {fv : Value} (Ev : Ev0 Z n0 h0 cs fv) (ES : Exa Z h0 oS "java/lang/String") (FcS : Fa Z h0 oS (.int (0 : Int32))) (FvS : Fb Z h0 oS .null) (GS : n0 ≤ oS) (VC : Arv Z h0 yC kC .char (1 : Int32) [(.int c0)] (.int (0 : Int32))) (hpc0 : Pr c0) : MF l Z own_y_164 jdk_42_method_3_code 2 none ws (⟨3, 1, 1, 52⟩ : Room) #[(.ref oS), (.ref yC)] h0 (QSj1 Z oS c0 h0 n0) := by
  refine own_en (plainFor_of_name pn_2) (fun m => ef_165 m oS yC) fun p e s m below meth c s₁ bs hx hby hml hZ hown hnm X0 e0 hlk hrt pre0 => ?_
  have N0 := Fr.nil n0
  obtain ⟨cl100, A100, q100, S100, M100, H100, J100⟩ := id VC
  obtain ⟨_, T101, L101, X101, N101, ⟨_, r101, kc101, rfl, -, K101, Fc101, Fv101, V101⟩, st101⟩ := own_cI X0 hx hZ hown (own_k_173 hw) (rmSj1 hw oS yC kC c0 Z0 Ev ES FcS FvS GS VC hpc0) (W := 0) (k := 1) (n := 1) (by decide) e0 N0 (fun _ _ _ ⟨_, _, _, h, _⟩ => h) (Ls := (Y11 oS yC)) (rest := []) hml.symm (lenOf pd_174 rfl) (Nat.le_of_eq rfl) (hb hby d2_6)
  have pre102 : PQ p e below T101 (mkF m 9 (Y11 oS yC) []) bs := fun t kt => pre0 t (by
    refine XS.aloadN X0.here hx rfl (hb hby d2_0) rfl rfl ?_
    refine XS.aloadN X0.here hx rfl (hb hby d2_1) rfl rfl ?_
    refine XS.iconst X0.here hx rfl (hb hby d2_2) ?_
    refine XS.aloadN X0.here hx rfl (hb hby d2_3) rfl rfl ?_
    refine X0.arraylength hx (by rw [e0]; exact A100.1) (State.isArrayOf_alike hZ.alike A100.2.1) (g := (mkF m 4 (Y11 oS yC) [(.ref yC), o0, (.ref yC), (.ref oS)])) rfl rfl (hb hby d2_4) _ ?_
    rw [len_of S100 M100]
    refine XS.aconstNull X0.here hx rfl (hb hby d2_5) ?_
    refine st101.trans ?_
    exact kt)
  exact own_retV X101 hx hlk hrt (hb hby d2_9) pre102 (show QSj1 Z oS c0 h0 n0 _ _ _ from ⟨r101, kc101, rfl, N101, K101, Fc101, Fv101, V101⟩) (by decide) (by decide)
def QCp2 (Z : State) (yB : Addr) (kB : ClassId) (c0 c1 : Int32) (h0 : Heap) (n0 : Nat) (v : Option Value) (h : Heap) (L : List Loc) : Prop := v = some (.int (2 : Int32)) ∧ Fr n0 L ∧ Keep h0 h [yB] ∧ Arv Z h yB kB .byte (2 : Int32) [(.int c0), (.int c1)] (.int (0 : Int32))
set_option maxRecDepth 65536 in
set_option maxHeartbeats 40000000 in
theorem rmCp2 {l : Launch} {Z : State} {a0 : Array Value} (hw : Hw a0 Z) {ws : List Jvm.Cond} (yC : Addr) (kC : ClassId) (yB : Addr) (kB : ClassId) (c0 c1 : Int32) {h0 : Heap} {n0 : Nat} (Z0 : n0 ≤ h0.size) (VC : Arv Z h0 yC kC .char (2 : Int32) [(.int c0), (.int c1)] (.int (0 : Int32))) (VB : Arv Z h0 yB kB .byte (2 : Int32) [(.int (0 : Int32)), o0] (.int (0 : Int32))) (GB : n0 ≤ yB) (hne : yC ≠ yB) (hpc0 : Pr c0) (hpc1 : Pr c1) : MF l Z own_y_81 jdk_52_method_21_code 7 (some .int) ws (⟨0, 0, 0, 0⟩ : Room) #[(.ref yC), o0, (.ref yB), o0, (.int (2 : Int32))] h0 (QCp2 Z yB kB c0 c1 h0 n0) := by
  refine own_en (plainFor_of_name pn_83) (fun m => ef_82 m yC (0 : Int32) yB (0 : Int32) (2 : Int32)) fun p e s m below meth c s₁ bs hx hby hml hZ hown hnm X0 e0 hlk hrt pre0 => ?_
  have N0 := Fr.nil n0
  obtain ⟨cl103, A103, q103, S103, M103, H103, J103⟩ := id VC
  have hin103 : ¬ ((0 : Int32) < 0 ∨ cl103.slots.size ≤ ((0 : Int32)).toNatClampNeg) := inb_of S103 ⟨by decide, by decide⟩
  have hat103 : cl103.slots[((0 : Int32)).toNatClampNeg]? = some (.int c0) := H103.at hin103 rfl
  obtain ⟨cl104, Ar104, q104, S104, M104, H104, J104⟩ := id VB
  have hin104 : ¬ ((0 : Int32) < 0 ∨ cl104.slots.size ≤ ((0 : Int32)).toNatClampNeg) := inb_of S104 ⟨by decide, by decide⟩
  obtain ⟨T105, h105, X105, e105, W105, st105⟩ := stB X0 hx hZ e0 Ar104 (j := (0 : Int32)) hin104 (g := (mkF m 31 (Y4 yC 0 yB 0 2 0 c0) [(.int (c0.toInt8.toInt32)), o0, (.ref yB)])) rfl rfl (hb hby d6_31)
  have V105 : Arv Z h105 yB kB .byte (2 : Int32) [(.int (nar .byte (c0.toInt8.toInt32))), o0] (.int (0 : Int32)) := Arv.set Ar104 q104 S104 M104 H104 J104 (fits_nar_byte _) W105 0 rfl (Nat.le_of_ble_eq_true rfl)
  have N105 := Fr.snoc X105 N0 GB
  have c107 := (Keep.refl h0 [yB]).wr W105 (Or.inl (List.mem_of_getElem? (i := 0) rfl))
  have c108 := VC.other W105 hne
  obtain ⟨cl110, A110, q110, S110, M110, H110, J110⟩ := id c108
  have hin110 : ¬ ((1 : Int32) < 0 ∨ cl110.slots.size ≤ ((1 : Int32)).toNatClampNeg) := inb_of S110 ⟨by decide, by decide⟩
  have hat110 : cl110.slots[((1 : Int32)).toNatClampNeg]? = some (.int c1) := H110.at hin110 rfl
  obtain ⟨cl111, Ar111, q111, S111, M111, H111, J111⟩ := id V105
  have hin111 : ¬ ((1 : Int32) < 0 ∨ cl111.slots.size ≤ ((1 : Int32)).toNatClampNeg) := inb_of S111 ⟨by decide, by decide⟩
  obtain ⟨T112, h112, X112, e112, W112, st112⟩ := stB X105 hx hZ e105 Ar111 (j := (1 : Int32)) hin111 (g := (mkF m 31 (Y4 yC 1 yB 1 2 1 c1) [(.int (c1.toInt8.toInt32)), (.int (1 : Int32)), (.ref yB)])) rfl rfl (hb hby d6_31)
  have V112 : Arv Z h112 yB kB .byte (2 : Int32) [(.int (nar .byte (c0.toInt8.toInt32))), (.int (nar .byte (c1.toInt8.toInt32)))] (.int (0 : Int32)) := Arv.set Ar111 q111 S111 M111 H111 J111 (fits_nar_byte _) W112 1 rfl (Nat.le_of_ble_eq_true rfl)
  have N112 := Fr.snoc X112 N105 GB
  have c114 := c107.wr W112 (Or.inl (List.mem_of_getElem? (i := 0) rfl))
  have VF := V112
  rw [hpc0.1, hpc1.1] at VF
  have pre117 : PQ p e below T112 (mkF m 46 (Y4 yC 2 yB 2 2 2 c1) [(.int (2 : Int32))]) bs := fun t kt => pre0 t (by
    refine XS.iconst X0.here hx rfl (hb hby d6_0) ?_
    refine XS.istore X0.here hx rfl (hb hby d6_1) rfl (l' := (Y5 yC 0 yB 0 2 0)) rfl ?_
    refine XS.iload X0.here hx rfl (hb hby d6_3) rfl ?_
    refine XS.iload X0.here hx rfl (hb hby d6_5) rfl ?_
    refine XS.icmpNo X0.here hx rfl (hb hby d6_7) rfl (tlt (by decide : (0 : Int32) < (2 : Int32))).2.1 ?_
    refine XS.aloadN X0.here hx rfl (hb hby d6_10) rfl rfl ?_
    refine XS.iloadN X0.here hx rfl (hb hby d6_11) rfl ?_
    refine X0.caload hx (j := (0 : Int32)) (v := (.int c0)) (by rw [e0]; exact A103.1) (State.isArrayOf_alike hZ.alike A103.2.1) A103.2.2 hin103 hat103 (g := (mkF m 12 (Y5 yC 0 yB 0 2 0) [(.int (0 : Int32)), (.ref yC)])) rfl rfl (hb hby d6_12) _ ?_
    refine XS.istore X0.here hx rfl (hb hby d6_13) rfl (l' := (Y4 yC 0 yB 0 2 0 c0)) rfl ?_
    refine XS.iload X0.here hx rfl (hb hby d6_15) rfl ?_
    refine XS.sipush X0.here hx rfl (hb hby d6_17) ?_
    refine XS.icmpYes X0.here hx rfl (pc0 := 20) (pc' := 26) rfl (hb hby d6_20) rfl (flt hpc0.2.2.2.1).2.2.2 (by decide) (by decide) ?_
    refine XS.aloadN X0.here hx rfl (hb hby d6_26) rfl rfl ?_
    refine XS.iloadN X0.here hx rfl (hb hby d6_27) rfl ?_
    refine XS.iload X0.here hx rfl (hb hby d6_28) rfl ?_
    refine XS.i2b X0.here hx rfl (hb hby d6_30) rfl ?_
    refine st105 _ ?_
    refine XS.iinc X105.here hx rfl (hb hby d6_32) rfl (l' := (Y4 yC 1 yB 0 2 0 c0)) rfl ?_
    refine XS.iinc X105.here hx rfl (hb hby d6_35) rfl (l' := (Y4 yC 1 yB 1 2 0 c0)) rfl ?_
    refine XS.iinc X105.here hx rfl (hb hby d6_38) rfl (l' := (Y4 yC 1 yB 1 2 1 c0)) rfl ?_
    refine XS.goto X105.here hx rfl (pc0 := 41) (pc' := 3) rfl (hb hby d6_41) (by decide) (by decide) ?_
    refine XS.iload X105.here hx rfl (hb hby d6_3) rfl ?_
    refine XS.iload X105.here hx rfl (hb hby d6_5) rfl ?_
    refine XS.icmpNo X105.here hx rfl (hb hby d6_7) rfl (tlt (by decide : (1 : Int32) < (2 : Int32))).2.1 ?_
    refine XS.aloadN X105.here hx rfl (hb hby d6_10) rfl rfl ?_
    refine XS.iloadN X105.here hx rfl (hb hby d6_11) rfl ?_
    refine X105.caload hx (j := (1 : Int32)) (v := (.int c1)) (by rw [e105]; exact A110.1) (State.isArrayOf_alike hZ.alike A110.2.1) A110.2.2 hin110 hat110 (g := (mkF m 12 (Y4 yC 1 yB 1 2 1 c0) [(.int (1 : Int32)), (.ref yC)])) rfl rfl (hb hby d6_12) _ ?_
    refine XS.istore X105.here hx rfl (hb hby d6_13) rfl (l' := (Y4 yC 1 yB 1 2 1 c1)) rfl ?_
    refine XS.iload X105.here hx rfl (hb hby d6_15) rfl ?_
    refine XS.sipush X105.here hx rfl (hb hby d6_17) ?_
    refine XS.icmpYes X105.here hx rfl (pc0 := 20) (pc' := 26) rfl (hb hby d6_20) rfl (flt hpc1.2.2.2.1).2.2.2 (by decide) (by decide) ?_
    refine XS.aloadN X105.here hx rfl (hb hby d6_26) rfl rfl ?_
    refine XS.iloadN X105.here hx rfl (hb hby d6_27) rfl ?_
    refine XS.iload X105.here hx rfl (hb hby d6_28) rfl ?_
    refine XS.i2b X105.here hx rfl (hb hby d6_30) rfl ?_
    refine st112 _ ?_
    refine XS.iinc X112.here hx rfl (hb hby d6_32) rfl (l' := (Y4 yC 2 yB 1 2 1 c1)) rfl ?_
    refine XS.iinc X112.here hx rfl (hb hby d6_35) rfl (l' := (Y4 yC 2 yB 2 2 1 c1)) rfl ?_
    refine XS.iinc X112.here hx rfl (hb hby d6_38) rfl (l' := (Y4 yC 2 yB 2 2 2 c1)) rfl ?_
    refine XS.goto X112.here hx rfl (pc0 := 41) (pc' := 3) rfl (hb hby d6_41) (by decide) (by decide) ?_
    refine XS.iload X112.here hx rfl (hb hby d6_3) rfl ?_
    refine XS.iload X112.here hx rfl (hb hby d6_5) rfl ?_
    refine XS.icmpYes X112.here hx rfl (pc0 := 7) (pc' := 44) rfl (hb hby d6_7) rfl (flt (by decide : ¬ ((2 : Int32) < (2 : Int32)))).2.1 (by decide) (by decide) ?_
    refine XS.iload X112.here hx rfl (hb hby d6_44) rfl ?_
    exact kt)
  have hQ : QCp2 Z yB kB c0 c1 h0 n0 (some (.int (2 : Int32))) h112 _ := ⟨rfl, N112, c114, VF⟩
  exact own_retI X112 hx hlk hrt (hb hby d6_46) pre117 (show QCp2 Z yB kB c0 c1 h0 n0 _ _ _ from (by rw [e112]; exact hQ)) (by decide) (by decide)
def QCq2 (Z : State) (c0 c1 : Int32) (h0 : Heap) (n0 : Nat) (v : Option Value) (h : Heap) (L : List Loc) : Prop := ∃ (r : Addr) (k : ClassId), v = some (.ref r) ∧ Fr n0 L ∧ Keep h0 h [] ∧ h0.size ≤ r ∧ n0 ≤ r ∧ Arv Z h r k .byte (2 : Int32) [(.int c0), (.int c1)] (.int (0 : Int32))
set_option maxRecDepth 65536 in
set_option maxHeartbeats 40000000 in
theorem rmCq2 {l : Launch} {Z : State} {a0 : Array Value} (hw : Hw a0 Z) {ws : List Jvm.Cond} (yC : Addr) (kC : ClassId) (c0 c1 : Int32) {h0 : Heap} {n0 : Nat} (Z0 : n0 ≤ h0.size) (VC : Arv Z h0 yC kC .char (2 : Int32) [(.int c0), (.int c1)] (.int (0 : Int32))) (hpc0 : Pr c0) (hpc1 : Pr c1) : MF l Z own_y_107 jdk_52_method_16_code 6 (some (.array .byte)) ws (⟨1, 1, 2, 18⟩ : Room) #[(.ref yC), o0, (.int (2 : Int32))] h0 (QCq2 Z c0 c1 h0 n0) := by
  refine own_en (plainFor_of_name pn_83) (fun m => ef_108 m yC (0 : Int32) (2 : Int32)) fun p e s m below meth c s₁ bs hx hby hml hZ hown hnm X0 e0 hlk hrt pre0 => ?_
  have N0 := Fr.nil n0
  obtain ⟨T118, h118, k118, X118, e118, E118, A118, st118⟩ := newP X0 hx hZ (own_w hw 24 rfl) e0 (g := (mkF m 1 (Y6 yC 0 2) [(.int (2 : Int32))])) rfl (hb hby d5_1) rfl (by decide) (cap := 2) (by decide) (by decide) (by decide) (by decide)
  obtain ⟨b118, g118⟩ : ∃ z, z = h0.size := ⟨_, rfl⟩
  rw [← g118] at A118 st118
  have G118 : n0 ≤ b118 := Nat.le_trans Z0 (Nat.le_of_eq g118.symm)
  have sz118 : h0.size ≤ b118 := Nat.le_trans (Keep.refl h0 []).1 (Nat.le_of_eq g118.symm)
  have ne119 : yC ≠ b118 := Nat.ne_of_lt (Nat.lt_of_lt_of_le VC.lt (Nat.le_of_eq g118.symm))
  have c120 := (Keep.refl h0 []).ext E118
  have c121 := VC.ext E118
  have z122 : n0 ≤ h118.size := Nat.le_trans Z0 E118.1
  have V118 : Arv Z h118 b118 k118 .byte (2 : Int32) [(.int (0 : Int32)), o0] (.int (0 : Int32)) := (Arv.new A118 (by decide)).pad (pad_rep [] (.int (0 : Int32)) 2)
  obtain ⟨_, T123, L123, X123, N123, ⟨_, rfl, -, K123, V123⟩, st123⟩ := own_cS X118 hx hZ hown (own_k_118 hw) (rmCp2 hw yC kC b118 k118 c0 c1 z122 c121 V118 G118 ne119 hpc0 hpc1) (W := 0) (k := 1) (n := 2) (by decide) e118 N0 (fun _ _ _ h => h.2.1) (Ls := (Y7 yC 0 2 b118)) (rest := []) hml.symm (lenOf pd_119 rfl) (Nat.le_of_eq rfl) (hb hby d5_9)
  have c125 := c120.trans K123 (allS (Or.inr sz118) all0)
  have pre128 : PQ p e below T123 (mkF m 58 (Y8 yC 0 2 b118 2) [(.ref b118)]) bs := fun t kt => pre0 t (by
    refine XS.iloadN X0.here hx rfl (hb hby d5_0) rfl ?_
    refine st118 _ ?_
    refine XS.astoreN X118.here hx rfl (hb hby d5_3) rfl rfl (l' := (Y7 yC 0 2 b118)) rfl ?_
    refine XS.aloadN X118.here hx rfl (hb hby d5_4) rfl rfl ?_
    refine XS.iloadN X118.here hx rfl (hb hby d5_5) rfl ?_
    refine XS.aloadN X118.here hx rfl (hb hby d5_6) rfl rfl ?_
    refine XS.iconst X118.here hx rfl (hb hby d5_7) ?_
    refine XS.iloadN X118.here hx rfl (hb hby d5_8) rfl ?_
    refine st123.trans ?_
    refine XS.istore X123.here hx rfl (hb hby d5_12) rfl (l' := (Y8 yC 0 2 b118 2)) rfl ?_
    refine XS.iload X123.here hx rfl (hb hby d5_14) rfl ?_
    refine XS.iloadN X123.here hx rfl (hb hby d5_16) rfl ?_
    refine XS.icmpYes X123.here hx rfl (pc0 := 17) (pc' := 57) rfl (hb hby d5_17) rfl (teq (by decide : (2 : Int32) = (2 : Int32))).1 (by decide) (by decide) ?_
    refine XS.aloadN X123.here hx rfl (hb hby d5_57) rfl rfl ?_
    exact kt)
  have hQ : QCq2 Z c0 c1 h0 n0 (some (.ref b118)) T123.heap _ := ⟨b118, k118, rfl, N123, c125, sz118, G118, V123⟩
  exact own_retA X123 hx hlk rfl hrt rfl (hb hby d5_58) pre128 (show QCq2 Z c0 c1 h0 n0 _ _ _ from hQ) (by decide) (by decide)
set_option maxRecDepth 65536 in
set_option maxHeartbeats 40000000 in
theorem rmCl2 {l : Launch} {Z : State} {a0 : Array Value} (hw : Hw a0 Z) {ws : List Jvm.Cond} (yB : Addr) (kB : ClassId) (c0 c1 : Int32) {h0 : Heap} {n0 : Nat} (Z0 : n0 ≤ h0.size) (VB : Arv Z h0 yB kB .byte (2 : Int32) [(.int c0), (.int c1)] (.int (0 : Int32))) : MF l Z own_y_126 jdk_52_method_15_code 2 (some .byte) ws (⟨0, 0, 0, 0⟩ : Room) #[(.ref yB), (.int (2 : Int32))] h0 (QI (0 : Int32) h0 n0) := by
  refine own_en (plainFor_of_name pn_83) (fun m => ef_127 m yB (2 : Int32)) fun p e s m below meth c s₁ bs hx hby hml hZ hown hnm X0 e0 hlk hrt pre0 => ?_
  have N0 := Fr.nil n0
  obtain ⟨cl129, A129, q129, S129, M129, H129, J129⟩ := id VB
  have pre130 : PQ p e below s₁ (mkF m 8 (Y3 yB 2) [(.int (0 : Int32))]) bs := fun t kt => pre0 t (by
    refine XS.iloadN X0.here hx rfl (hb hby d7_0) rfl ?_
    refine XS.aloadN X0.here hx rfl (hb hby d7_1) rfl rfl ?_
    refine X0.arraylength hx (by rw [e0]; exact A129.1) (State.isArrayOf_alike hZ.alike A129.2.1) (g := (mkF m 2 (Y3 yB 2) [(.ref yB), (.int (2 : Int32))])) rfl rfl (hb hby d7_2) _ ?_
    rw [len_of S129 M129]
    refine XS.isub X0.here hx rfl (hb hby d7_3) rfl ?_
    refine XS.bipush X0.here hx rfl (hb hby d7_4) ?_
    refine XS.iushr X0.here hx rfl (hb hby d7_6) rfl ?_
    refine XS.i2b X0.here hx rfl (hb hby d7_7) rfl ?_
    exact kt)
  exact own_retN X0 hx hlk (t := .byte) hrt (by simp) (hb hby d7_8) pre130 (show QI (0 : Int32) h0 n0 _ _ _ from ⟨rfl, N0, e0⟩) (by decide) (by decide)
def QSj2 (Z : State) (oS : Addr) (c0 c1 : Int32) (h0 : Heap) (n0 : Nat) (v : Option Value) (h : Heap) (L : List Loc) : Prop := ∃ (r : Addr) (k : ClassId), v = none ∧ Fr n0 L ∧ Keep h0 h [oS] ∧ Fa Z h oS (.int (0 : Int32)) ∧ Fb Z h oS (.ref r) ∧ Arv Z h r k .byte (2 : Int32) [(.int c0), (.int c1)] (.int (0 : Int32))
set_option maxRecDepth 65536 in
set_option maxHeartbeats 40000000 in
theorem rmSj2 {l : Launch} {Z : State} {a0 : Array Value} (hw : Hw a0 Z) {ws : List Jvm.Cond} (oS yC : Addr) (kC : ClassId) (c0 c1 : Int32) {h0 : Heap} {n0 : Nat} (Z0 : n0 ≤ h0.size) {cs : Int32} {fv : Value} (Ev : Ev0 Z n0 h0 cs fv) (ES : Exa Z h0 oS "java/lang/String") (FcS : Fa Z h0 oS (.int (0 : Int32))) (FvS : Fb Z h0 oS .null) (GS : n0 ≤ oS) (VC : Arv Z h0 yC kC .char (2 : Int32) [(.int c0), (.int c1)] (.int (0 : Int32))) (hpc0 : Pr c0) (hpc1 : Pr c1) : MF l Z own_y_136 jdk_42_method_149_code 6 none ws (⟨2, 1, 2, 35⟩ : Room) #[(.ref oS), (.ref yC), o0, (.int (2 : Int32)), .null] h0 (QSj2 Z oS c0 c1 h0 n0) := by
  refine own_en (plainFor_of_name pn_2) (fun m => ef_137 m oS yC (0 : Int32) (2 : Int32)) fun p e s m below meth c s₁ bs hx hby hml hZ hown hnm X0 e0 hlk hrt pre0 => ?_
  have N0 := Fr.nil n0
  obtain ⟨T131, X131, e131, st131⟩ := initO X0 hx hZ hown (own_w hw 16 rfl) (own_w hw 17 rfl) (own_w hw 18 rfl) e0 (g := (mkF m 1 (Y9 oS yC 0 2) [(.ref oS)])) rfl (by rw [hml]; rfl) rfl (hb hby d3_1) (by decide) (W := 0) (by show 2 * 0 + _ ≤ _; exact Nat.le_of_eq rfl) (by decide)
  obtain ⟨T132, X132, e132, st132⟩ := getS2 X131 hx hZ hown (host := "") (Or.inl (own_w hw 19 rfl)) Via.refl e131 (own_cs Ev) (g := (mkF m 27 (Y9 oS yC 0 2) [])) rfl (hb hby d3_27)
  obtain ⟨_, T133, L133, X133, N133, ⟨_, r133, kc133, rfl, -, K133, z133, G133, V133⟩, st133⟩ := own_cS X132 hx hZ hown (own_k_148 hw) (rmCq2 hw yC kC c0 c1 Z0 VC hpc0 hpc1) (W := 0) (k := 1) (n := 2) (by decide) e132 N0 (fun _ _ _ ⟨_, _, _, h, _⟩ => h) (Ls := (Y9 oS yC 0 2)) (rest := []) hml.symm (lenOf pd_149 rfl) (Nat.le_of_eq rfl) (hb hby d3_36)
  have ne134 : oS ≠ r133 := Nat.ne_of_lt (Nat.lt_of_lt_of_le ES.lt z133)
  have z136 : n0 ≤ T133.heap.size := Nat.le_trans Z0 K133.1
  have c137 := (Keep.refl h0 [oS]).trans K133 all0
  have c139 := ES.keep K133
  have c140 := FcS.keep K133 nin0
  have c141 := FvS.keep K133 nin0
  obtain ⟨_, T143, L143, X143, N143, ⟨_, rfl, -, e143⟩, st143⟩ := own_cS X133 hx hZ hown (own_k_155 hw) (rmCl2 hw r133 kc133 c0 c1 z136 V133) (W := 1) (k := 1) (n := 2) (by decide) rfl N133 (fun _ _ _ h => h.2.1) (Ls := (Y10 oS yC 0 2 r133)) (rest := [(.ref oS)]) hml.symm (lenOf pd_156 rfl) (Nat.le_of_eq rfl) (hb hby d3_45)
  obtain ⟨T144, h144, X144, e144, W144, st144⟩ := putFN X143 hx hZ hown (own_w hw 31 rfl) Via.refl e143 c140 c139 (Or.inr ⟨(own_w hw 32 rfl), rfl, hnm⟩) (own_w hw 7 rfl) (ty := .byte) (v' := (.int (nar .byte (0 : Int32)))) (by decide) rfl (fits_nar_byte _) (g := (mkF m 48 (Y10 oS yC 0 2 r133) [(.int (0 : Int32)), (.ref oS)])) rfl rfl (hb hby d3_48)
  have Fw144 := c140.same W144
  have N144 := Fr.snoc X144 N143 GS
  have c146 := c137.wr W144 (Or.inl (List.mem_of_getElem? (i := 0) rfl))
  have c148 := c139.wr W144
  have c150 := c141.other W144 (Or.inr (own_sn_158 hw))
  have c151 := V133.other W144 (Ne.symm ne134)
  obtain ⟨T152, h152, X152, e152, W152, st152⟩ := putF X144 hx hZ hown (host := "") (Or.inl (own_w hw 33 rfl)) Via.refl e144 c150 c148 (Or.inr ⟨(own_w hw 34 rfl), rfl, hnm⟩) (own_w hw 7 rfl) (ty := (.array .byte)) (by decide) rfl rfl (g := (mkF m 54 (Y10 oS yC 0 2 r133) [(.ref r133), (.ref oS)])) rfl rfl (hb hby d3_54)
  have Fw152 := c150.same W152
  have N152 := Fr.snoc X152 N144 GS
  have c154 := c146.wr W152 (Or.inl (List.mem_of_getElem? (i := 0) rfl))
  have c158 := c151.other W152 (Ne.symm ne134)
  have c159 := Fw144.other W152 (Or.inr (own_sn_162 hw))
  have pre160 : PQ p e below T152 (mkF m 57 (Y10 oS yC 0 2 r133) []) bs := fun t kt => pre0 t (by
    refine XS.aloadN X0.here hx rfl (hb hby d3_0) rfl rfl ?_
    refine st131 _ ?_
    refine XS.iloadN X131.here hx rfl (hb hby d3_4) rfl ?_
    refine XS.ifYes X131.here hx rfl (pc0 := 5) (pc' := 27) rfl (hb hby d3_5) rfl ((if0 _ _).trans (feq (by decide : ¬ ((2 : Int32) = (0 : Int32)))).2) (by decide) (by decide) ?_
    refine st132 _ ?_
    refine XS.ifNo X132.here hx rfl (hb hby d3_30) rfl ((if0 _ _).trans (feq Ev.2.2.1).1) ?_
    refine XS.aloadN X132.here hx rfl (hb hby d3_33) rfl rfl ?_
    refine XS.iloadN X132.here hx rfl (hb hby d3_34) rfl ?_
    refine XS.iloadN X132.here hx rfl (hb hby d3_35) rfl ?_
    refine st133.trans ?_
    refine XS.astore X133.here hx rfl (hb hby d3_39) rfl rfl (l' := (Y10 oS yC 0 2 r133)) rfl ?_
    refine XS.aloadN X133.here hx rfl (hb hby d3_41) rfl rfl ?_
    refine XS.aload X133.here hx rfl (hb hby d3_42) rfl rfl ?_
    refine XS.iloadN X133.here hx rfl (hb hby d3_44) rfl ?_
    refine st143.trans ?_
    refine st144 _ ?_
    refine XS.aloadN X144.here hx rfl (hb hby d3_51) rfl rfl ?_
    refine XS.aload X144.here hx rfl (hb hby d3_52) rfl rfl ?_
    refine st152 _ ?_
    exact kt)
  have hQ : QSj2 Z oS c0 c1 h0 n0 none h152 _ := ⟨r133, kc133, rfl, N152, c154, c159, Fw152, c158⟩
  exact own_retV X152 hx hlk hrt (hb hby d3_57) pre160 (show QSj2 Z oS c0 c1 h0 n0 _ _ _ from (by rw [e152]; exact hQ)) (by decide) (by decide)
set_option maxRecDepth 65536 in
set_option maxHeartbeats 40000000 in
theorem rmSi2 {l : Launch} {Z : State} {a0 : Array Value} (hw : Hw a0 Z) {ws : List Jvm.Cond} (oS yC : Addr) (kC : ClassId) (c0 c1 : Int32) {h0 : Heap} {n0 : Nat} (Z0 : n0 ≤ h0.size) {cs : Int32} {fv : Value} (Ev : Ev0 Z n0 h0 cs fv) (ES : Exa Z h0 oS "java/lang/String") (FcS : Fa Z h0 oS (.int (0 : Int32))) (FvS : Fb Z h0 oS .null) (GS : n0 ≤ oS) (VC : Arv Z h0 yC kC .char (2 : Int32) [(.int c0), (.int c1)] (.int (0 : Int32))) (hpc0 : Pr c0) (hpc1 : Pr c1) : MF l Z own_y_164 jdk_42_method_3_code 2 none ws (⟨3, 1, 2, 52⟩ : Room) #[(.ref oS), (.ref yC)] h0 (QSj2 Z oS c0 c1 h0 n0) := by
  refine own_en (plainFor_of_name pn_2) (fun m => ef_165 m oS yC) fun p e s m below meth c s₁ bs hx hby hml hZ hown hnm X0 e0 hlk hrt pre0 => ?_
  have N0 := Fr.nil n0
  obtain ⟨cl161, A161, q161, S161, M161, H161, J161⟩ := id VC
  obtain ⟨_, T162, L162, X162, N162, ⟨_, r162, kc162, rfl, -, K162, Fc162, Fv162, V162⟩, st162⟩ := own_cI X0 hx hZ hown (own_k_173 hw) (rmSj2 hw oS yC kC c0 c1 Z0 Ev ES FcS FvS GS VC hpc0 hpc1) (W := 0) (k := 1) (n := 2) (by decide) e0 N0 (fun _ _ _ ⟨_, _, _, h, _⟩ => h) (Ls := (Y11 oS yC)) (rest := []) hml.symm (lenOf pd_174 rfl) (Nat.le_of_eq rfl) (hb hby d2_6)
  have pre163 : PQ p e below T162 (mkF m 9 (Y11 oS yC) []) bs := fun t kt => pre0 t (by
    refine XS.aloadN X0.here hx rfl (hb hby d2_0) rfl rfl ?_
    refine XS.aloadN X0.here hx rfl (hb hby d2_1) rfl rfl ?_
    refine XS.iconst X0.here hx rfl (hb hby d2_2) ?_
    refine XS.aloadN X0.here hx rfl (hb hby d2_3) rfl rfl ?_
    refine X0.arraylength hx (by rw [e0]; exact A161.1) (State.isArrayOf_alike hZ.alike A161.2.1) (g := (mkF m 4 (Y11 oS yC) [(.ref yC), o0, (.ref yC), (.ref oS)])) rfl rfl (hb hby d2_4) _ ?_
    rw [len_of S161 M161]
    refine XS.aconstNull X0.here hx rfl (hb hby d2_5) ?_
    refine st162.trans ?_
    exact kt)
  exact own_retV X162 hx hlk hrt (hb hby d2_9) pre163 (show QSj2 Z oS c0 c1 h0 n0 _ _ _ from ⟨r162, kc162, rfl, N162, K162, Fc162, Fv162, V162⟩) (by decide) (by decide)
def QCp3 (Z : State) (yB : Addr) (kB : ClassId) (c0 c1 c2 : Int32) (h0 : Heap) (n0 : Nat) (v : Option Value) (h : Heap) (L : List Loc) : Prop := v = some (.int (3 : Int32)) ∧ Fr n0 L ∧ Keep h0 h [yB] ∧ Arv Z h yB kB .byte (3 : Int32) [(.int c0), (.int c1), (.int c2)] (.int (0 : Int32))
set_option maxRecDepth 65536 in
set_option maxHeartbeats 40000000 in
theorem rmCp3 {l : Launch} {Z : State} {a0 : Array Value} (hw : Hw a0 Z) {ws : List Jvm.Cond} (yC : Addr) (kC : ClassId) (yB : Addr) (kB : ClassId) (c0 c1 c2 : Int32) {h0 : Heap} {n0 : Nat} (Z0 : n0 ≤ h0.size) (VC : Arv Z h0 yC kC .char (3 : Int32) [(.int c0), (.int c1), (.int c2)] (.int (0 : Int32))) (VB : Arv Z h0 yB kB .byte (3 : Int32) [(.int (0 : Int32)), o0, o0] (.int (0 : Int32))) (GB : n0 ≤ yB) (hne : yC ≠ yB) (hpc0 : Pr c0) (hpc1 : Pr c1) (hpc2 : Pr c2) : MF l Z own_y_81 jdk_52_method_21_code 7 (some .int) ws (⟨0, 0, 0, 0⟩ : Room) #[(.ref yC), o0, (.ref yB), o0, (.int (3 : Int32))] h0 (QCp3 Z yB kB c0 c1 c2 h0 n0) := by
  refine own_en (plainFor_of_name pn_83) (fun m => ef_82 m yC (0 : Int32) yB (0 : Int32) (3 : Int32)) fun p e s m below meth c s₁ bs hx hby hml hZ hown hnm X0 e0 hlk hrt pre0 => ?_
  have N0 := Fr.nil n0
  obtain ⟨cl164, A164, q164, S164, M164, H164, J164⟩ := id VC
  have hin164 : ¬ ((0 : Int32) < 0 ∨ cl164.slots.size ≤ ((0 : Int32)).toNatClampNeg) := inb_of S164 ⟨by decide, by decide⟩
  have hat164 : cl164.slots[((0 : Int32)).toNatClampNeg]? = some (.int c0) := H164.at hin164 rfl
  obtain ⟨cl165, Ar165, q165, S165, M165, H165, J165⟩ := id VB
  have hin165 : ¬ ((0 : Int32) < 0 ∨ cl165.slots.size ≤ ((0 : Int32)).toNatClampNeg) := inb_of S165 ⟨by decide, by decide⟩
  obtain ⟨T166, h166, X166, e166, W166, st166⟩ := stB X0 hx hZ e0 Ar165 (j := (0 : Int32)) hin165 (g := (mkF m 31 (Y4 yC 0 yB 0 3 0 c0) [(.int (c0.toInt8.toInt32)), o0, (.ref yB)])) rfl rfl (hb hby d6_31)
  have V166 : Arv Z h166 yB kB .byte (3 : Int32) [(.int (nar .byte (c0.toInt8.toInt32))), o0, o0] (.int (0 : Int32)) := Arv.set Ar165 q165 S165 M165 H165 J165 (fits_nar_byte _) W166 0 rfl (Nat.le_of_ble_eq_true rfl)
  have N166 := Fr.snoc X166 N0 GB
  have c168 := (Keep.refl h0 [yB]).wr W166 (Or.inl (List.mem_of_getElem? (i := 0) rfl))
  have c169 := VC.other W166 hne
  obtain ⟨cl171, A171, q171, S171, M171, H171, J171⟩ := id c169
  have hin171 : ¬ ((1 : Int32) < 0 ∨ cl171.slots.size ≤ ((1 : Int32)).toNatClampNeg) := inb_of S171 ⟨by decide, by decide⟩
  have hat171 : cl171.slots[((1 : Int32)).toNatClampNeg]? = some (.int c1) := H171.at hin171 rfl
  obtain ⟨cl172, Ar172, q172, S172, M172, H172, J172⟩ := id V166
  have hin172 : ¬ ((1 : Int32) < 0 ∨ cl172.slots.size ≤ ((1 : Int32)).toNatClampNeg) := inb_of S172 ⟨by decide, by decide⟩
  obtain ⟨T173, h173, X173, e173, W173, st173⟩ := stB X166 hx hZ e166 Ar172 (j := (1 : Int32)) hin172 (g := (mkF m 31 (Y4 yC 1 yB 1 3 1 c1) [(.int (c1.toInt8.toInt32)), (.int (1 : Int32)), (.ref yB)])) rfl rfl (hb hby d6_31)
  have V173 : Arv Z h173 yB kB .byte (3 : Int32) [(.int (nar .byte (c0.toInt8.toInt32))), (.int (nar .byte (c1.toInt8.toInt32))), o0] (.int (0 : Int32)) := Arv.set Ar172 q172 S172 M172 H172 J172 (fits_nar_byte _) W173 1 rfl (Nat.le_of_ble_eq_true rfl)
  have N173 := Fr.snoc X173 N166 GB
  have c175 := c168.wr W173 (Or.inl (List.mem_of_getElem? (i := 0) rfl))
  have c176 := c169.other W173 hne
  obtain ⟨cl178, A178, q178, S178, M178, H178, J178⟩ := id c176
  have hin178 : ¬ ((2 : Int32) < 0 ∨ cl178.slots.size ≤ ((2 : Int32)).toNatClampNeg) := inb_of S178 ⟨by decide, by decide⟩
  have hat178 : cl178.slots[((2 : Int32)).toNatClampNeg]? = some (.int c2) := H178.at hin178 rfl
  obtain ⟨cl179, Ar179, q179, S179, M179, H179, J179⟩ := id V173
  have hin179 : ¬ ((2 : Int32) < 0 ∨ cl179.slots.size ≤ ((2 : Int32)).toNatClampNeg) := inb_of S179 ⟨by decide, by decide⟩
  obtain ⟨T180, h180, X180, e180, W180, st180⟩ := stB X173 hx hZ e173 Ar179 (j := (2 : Int32)) hin179 (g := (mkF m 31 (Y4 yC 2 yB 2 3 2 c2) [(.int (c2.toInt8.toInt32)), (.int (2 : Int32)), (.ref yB)])) rfl rfl (hb hby d6_31)
  have V180 : Arv Z h180 yB kB .byte (3 : Int32) [(.int (nar .byte (c0.toInt8.toInt32))), (.int (nar .byte (c1.toInt8.toInt32))), (.int (nar .byte (c2.toInt8.toInt32)))] (.int (0 : Int32)) := Arv.set Ar179 q179 S179 M179 H179 J179 (fits_nar_byte _) W180 2 rfl (Nat.le_of_ble_eq_true rfl)
  have N180 := Fr.snoc X180 N173 GB
  have c182 := c175.wr W180 (Or.inl (List.mem_of_getElem? (i := 0) rfl))
  have VF := V180
  rw [hpc0.1, hpc1.1, hpc2.1] at VF
  have pre185 : PQ p e below T180 (mkF m 46 (Y4 yC 3 yB 3 3 3 c2) [(.int (3 : Int32))]) bs := fun t kt => pre0 t (by
    refine XS.iconst X0.here hx rfl (hb hby d6_0) ?_
    refine XS.istore X0.here hx rfl (hb hby d6_1) rfl (l' := (Y5 yC 0 yB 0 3 0)) rfl ?_
    refine XS.iload X0.here hx rfl (hb hby d6_3) rfl ?_
    refine XS.iload X0.here hx rfl (hb hby d6_5) rfl ?_
    refine XS.icmpNo X0.here hx rfl (hb hby d6_7) rfl (tlt (by decide : (0 : Int32) < (3 : Int32))).2.1 ?_
    refine XS.aloadN X0.here hx rfl (hb hby d6_10) rfl rfl ?_
    refine XS.iloadN X0.here hx rfl (hb hby d6_11) rfl ?_
    refine X0.caload hx (j := (0 : Int32)) (v := (.int c0)) (by rw [e0]; exact A164.1) (State.isArrayOf_alike hZ.alike A164.2.1) A164.2.2 hin164 hat164 (g := (mkF m 12 (Y5 yC 0 yB 0 3 0) [(.int (0 : Int32)), (.ref yC)])) rfl rfl (hb hby d6_12) _ ?_
    refine XS.istore X0.here hx rfl (hb hby d6_13) rfl (l' := (Y4 yC 0 yB 0 3 0 c0)) rfl ?_
    refine XS.iload X0.here hx rfl (hb hby d6_15) rfl ?_
    refine XS.sipush X0.here hx rfl (hb hby d6_17) ?_
    refine XS.icmpYes X0.here hx rfl (pc0 := 20) (pc' := 26) rfl (hb hby d6_20) rfl (flt hpc0.2.2.2.1).2.2.2 (by decide) (by decide) ?_
    refine XS.aloadN X0.here hx rfl (hb hby d6_26) rfl rfl ?_
    refine XS.iloadN X0.here hx rfl (hb hby d6_27) rfl ?_
    refine XS.iload X0.here hx rfl (hb hby d6_28) rfl ?_
    refine XS.i2b X0.here hx rfl (hb hby d6_30) rfl ?_
    refine st166 _ ?_
    refine XS.iinc X166.here hx rfl (hb hby d6_32) rfl (l' := (Y4 yC 1 yB 0 3 0 c0)) rfl ?_
    refine XS.iinc X166.here hx rfl (hb hby d6_35) rfl (l' := (Y4 yC 1 yB 1 3 0 c0)) rfl ?_
    refine XS.iinc X166.here hx rfl (hb hby d6_38) rfl (l' := (Y4 yC 1 yB 1 3 1 c0)) rfl ?_
    refine XS.goto X166.here hx rfl (pc0 := 41) (pc' := 3) rfl (hb hby d6_41) (by decide) (by decide) ?_
    refine XS.iload X166.here hx rfl (hb hby d6_3) rfl ?_
    refine XS.iload X166.here hx rfl (hb hby d6_5) rfl ?_
    refine XS.icmpNo X166.here hx rfl (hb hby d6_7) rfl (tlt (by decide : (1 : Int32) < (3 : Int32))).2.1 ?_
    refine XS.aloadN X166.here hx rfl (hb hby d6_10) rfl rfl ?_
    refine XS.iloadN X166.here hx rfl (hb hby d6_11) rfl ?_
    refine X166.caload hx (j := (1 : Int32)) (v := (.int c1)) (by rw [e166]; exact A171.1) (State.isArrayOf_alike hZ.alike A171.2.1) A171.2.2 hin171 hat171 (g := (mkF m 12 (Y4 yC 1 yB 1 3 1 c0) [(.int (1 : Int32)), (.ref yC)])) rfl rfl (hb hby d6_12) _ ?_
    refine XS.istore X166.here hx rfl (hb hby d6_13) rfl (l' := (Y4 yC 1 yB 1 3 1 c1)) rfl ?_
    refine XS.iload X166.here hx rfl (hb hby d6_15) rfl ?_
    refine XS.sipush X166.here hx rfl (hb hby d6_17) ?_
    refine XS.icmpYes X166.here hx rfl (pc0 := 20) (pc' := 26) rfl (hb hby d6_20) rfl (flt hpc1.2.2.2.1).2.2.2 (by decide) (by decide) ?_
    refine XS.aloadN X166.here hx rfl (hb hby d6_26) rfl rfl ?_
    refine XS.iloadN X166.here hx rfl (hb hby d6_27) rfl ?_
    refine XS.iload X166.here hx rfl (hb hby d6_28) rfl ?_
    refine XS.i2b X166.here hx rfl (hb hby d6_30) rfl ?_
    refine st173 _ ?_
    refine XS.iinc X173.here hx rfl (hb hby d6_32) rfl (l' := (Y4 yC 2 yB 1 3 1 c1)) rfl ?_
    refine XS.iinc X173.here hx rfl (hb hby d6_35) rfl (l' := (Y4 yC 2 yB 2 3 1 c1)) rfl ?_
    refine XS.iinc X173.here hx rfl (hb hby d6_38) rfl (l' := (Y4 yC 2 yB 2 3 2 c1)) rfl ?_
    refine XS.goto X173.here hx rfl (pc0 := 41) (pc' := 3) rfl (hb hby d6_41) (by decide) (by decide) ?_
    refine XS.iload X173.here hx rfl (hb hby d6_3) rfl ?_
    refine XS.iload X173.here hx rfl (hb hby d6_5) rfl ?_
    refine XS.icmpNo X173.here hx rfl (hb hby d6_7) rfl (tlt (by decide : (2 : Int32) < (3 : Int32))).2.1 ?_
    refine XS.aloadN X173.here hx rfl (hb hby d6_10) rfl rfl ?_
    refine XS.iloadN X173.here hx rfl (hb hby d6_11) rfl ?_
    refine X173.caload hx (j := (2 : Int32)) (v := (.int c2)) (by rw [e173]; exact A178.1) (State.isArrayOf_alike hZ.alike A178.2.1) A178.2.2 hin178 hat178 (g := (mkF m 12 (Y4 yC 2 yB 2 3 2 c1) [(.int (2 : Int32)), (.ref yC)])) rfl rfl (hb hby d6_12) _ ?_
    refine XS.istore X173.here hx rfl (hb hby d6_13) rfl (l' := (Y4 yC 2 yB 2 3 2 c2)) rfl ?_
    refine XS.iload X173.here hx rfl (hb hby d6_15) rfl ?_
    refine XS.sipush X173.here hx rfl (hb hby d6_17) ?_
    refine XS.icmpYes X173.here hx rfl (pc0 := 20) (pc' := 26) rfl (hb hby d6_20) rfl (flt hpc2.2.2.2.1).2.2.2 (by decide) (by decide) ?_
    refine XS.aloadN X173.here hx rfl (hb hby d6_26) rfl rfl ?_
    refine XS.iloadN X173.here hx rfl (hb hby d6_27) rfl ?_
    refine XS.iload X173.here hx rfl (hb hby d6_28) rfl ?_
    refine XS.i2b X173.here hx rfl (hb hby d6_30) rfl ?_
    refine st180 _ ?_
    refine XS.iinc X180.here hx rfl (hb hby d6_32) rfl (l' := (Y4 yC 3 yB 2 3 2 c2)) rfl ?_
    refine XS.iinc X180.here hx rfl (hb hby d6_35) rfl (l' := (Y4 yC 3 yB 3 3 2 c2)) rfl ?_
    refine XS.iinc X180.here hx rfl (hb hby d6_38) rfl (l' := (Y4 yC 3 yB 3 3 3 c2)) rfl ?_
    refine XS.goto X180.here hx rfl (pc0 := 41) (pc' := 3) rfl (hb hby d6_41) (by decide) (by decide) ?_
    refine XS.iload X180.here hx rfl (hb hby d6_3) rfl ?_
    refine XS.iload X180.here hx rfl (hb hby d6_5) rfl ?_
    refine XS.icmpYes X180.here hx rfl (pc0 := 7) (pc' := 44) rfl (hb hby d6_7) rfl (flt (by decide : ¬ ((3 : Int32) < (3 : Int32)))).2.1 (by decide) (by decide) ?_
    refine XS.iload X180.here hx rfl (hb hby d6_44) rfl ?_
    exact kt)
  have hQ : QCp3 Z yB kB c0 c1 c2 h0 n0 (some (.int (3 : Int32))) h180 _ := ⟨rfl, N180, c182, VF⟩
  exact own_retI X180 hx hlk hrt (hb hby d6_46) pre185 (show QCp3 Z yB kB c0 c1 c2 h0 n0 _ _ _ from (by rw [e180]; exact hQ)) (by decide) (by decide)
def QCq3 (Z : State) (c0 c1 c2 : Int32) (h0 : Heap) (n0 : Nat) (v : Option Value) (h : Heap) (L : List Loc) : Prop := ∃ (r : Addr) (k : ClassId), v = some (.ref r) ∧ Fr n0 L ∧ Keep h0 h [] ∧ h0.size ≤ r ∧ n0 ≤ r ∧ Arv Z h r k .byte (3 : Int32) [(.int c0), (.int c1), (.int c2)] (.int (0 : Int32))
set_option maxRecDepth 65536 in
set_option maxHeartbeats 40000000 in
theorem rmCq3 {l : Launch} {Z : State} {a0 : Array Value} (hw : Hw a0 Z) {ws : List Jvm.Cond} (yC : Addr) (kC : ClassId) (c0 c1 c2 : Int32) {h0 : Heap} {n0 : Nat} (Z0 : n0 ≤ h0.size) (VC : Arv Z h0 yC kC .char (3 : Int32) [(.int c0), (.int c1), (.int c2)] (.int (0 : Int32))) (hpc0 : Pr c0) (hpc1 : Pr c1) (hpc2 : Pr c2) : MF l Z own_y_107 jdk_52_method_16_code 6 (some (.array .byte)) ws (⟨1, 1, 3, 18⟩ : Room) #[(.ref yC), o0, (.int (3 : Int32))] h0 (QCq3 Z c0 c1 c2 h0 n0) := by
  refine own_en (plainFor_of_name pn_83) (fun m => ef_108 m yC (0 : Int32) (3 : Int32)) fun p e s m below meth c s₁ bs hx hby hml hZ hown hnm X0 e0 hlk hrt pre0 => ?_
  have N0 := Fr.nil n0
  obtain ⟨T186, h186, k186, X186, e186, E186, A186, st186⟩ := newP X0 hx hZ (own_w hw 24 rfl) e0 (g := (mkF m 1 (Y6 yC 0 3) [(.int (3 : Int32))])) rfl (hb hby d5_1) rfl (by decide) (cap := 3) (by decide) (by decide) (by decide) (by decide)
  obtain ⟨b186, g186⟩ : ∃ z, z = h0.size := ⟨_, rfl⟩
  rw [← g186] at A186 st186
  have G186 : n0 ≤ b186 := Nat.le_trans Z0 (Nat.le_of_eq g186.symm)
  have sz186 : h0.size ≤ b186 := Nat.le_trans (Keep.refl h0 []).1 (Nat.le_of_eq g186.symm)
  have ne187 : yC ≠ b186 := Nat.ne_of_lt (Nat.lt_of_lt_of_le VC.lt (Nat.le_of_eq g186.symm))
  have c188 := (Keep.refl h0 []).ext E186
  have c189 := VC.ext E186
  have z190 : n0 ≤ h186.size := Nat.le_trans Z0 E186.1
  have V186 : Arv Z h186 b186 k186 .byte (3 : Int32) [(.int (0 : Int32)), o0, o0] (.int (0 : Int32)) := (Arv.new A186 (by decide)).pad (pad_rep [] (.int (0 : Int32)) 3)
  obtain ⟨_, T191, L191, X191, N191, ⟨_, rfl, -, K191, V191⟩, st191⟩ := own_cS X186 hx hZ hown (own_k_118 hw) (rmCp3 hw yC kC b186 k186 c0 c1 c2 z190 c189 V186 G186 ne187 hpc0 hpc1 hpc2) (W := 0) (k := 1) (n := 3) (by decide) e186 N0 (fun _ _ _ h => h.2.1) (Ls := (Y7 yC 0 3 b186)) (rest := []) hml.symm (lenOf pd_119 rfl) (Nat.le_of_eq rfl) (hb hby d5_9)
  have c193 := c188.trans K191 (allS (Or.inr sz186) all0)
  have pre196 : PQ p e below T191 (mkF m 58 (Y8 yC 0 3 b186 3) [(.ref b186)]) bs := fun t kt => pre0 t (by
    refine XS.iloadN X0.here hx rfl (hb hby d5_0) rfl ?_
    refine st186 _ ?_
    refine XS.astoreN X186.here hx rfl (hb hby d5_3) rfl rfl (l' := (Y7 yC 0 3 b186)) rfl ?_
    refine XS.aloadN X186.here hx rfl (hb hby d5_4) rfl rfl ?_
    refine XS.iloadN X186.here hx rfl (hb hby d5_5) rfl ?_
    refine XS.aloadN X186.here hx rfl (hb hby d5_6) rfl rfl ?_
    refine XS.iconst X186.here hx rfl (hb hby d5_7) ?_
    refine XS.iloadN X186.here hx rfl (hb hby d5_8) rfl ?_
    refine st191.trans ?_
    refine XS.istore X191.here hx rfl (hb hby d5_12) rfl (l' := (Y8 yC 0 3 b186 3)) rfl ?_
    refine XS.iload X191.here hx rfl (hb hby d5_14) rfl ?_
    refine XS.iloadN X191.here hx rfl (hb hby d5_16) rfl ?_
    refine XS.icmpYes X191.here hx rfl (pc0 := 17) (pc' := 57) rfl (hb hby d5_17) rfl (teq (by decide : (3 : Int32) = (3 : Int32))).1 (by decide) (by decide) ?_
    refine XS.aloadN X191.here hx rfl (hb hby d5_57) rfl rfl ?_
    exact kt)
  have hQ : QCq3 Z c0 c1 c2 h0 n0 (some (.ref b186)) T191.heap _ := ⟨b186, k186, rfl, N191, c193, sz186, G186, V191⟩
  exact own_retA X191 hx hlk rfl hrt rfl (hb hby d5_58) pre196 (show QCq3 Z c0 c1 c2 h0 n0 _ _ _ from hQ) (by decide) (by decide)
set_option maxRecDepth 65536 in
set_option maxHeartbeats 40000000 in
theorem rmCl3 {l : Launch} {Z : State} {a0 : Array Value} (hw : Hw a0 Z) {ws : List Jvm.Cond} (yB : Addr) (kB : ClassId) (c0 c1 c2 : Int32) {h0 : Heap} {n0 : Nat} (Z0 : n0 ≤ h0.size) (VB : Arv Z h0 yB kB .byte (3 : Int32) [(.int c0), (.int c1), (.int c2)] (.int (0 : Int32))) : MF l Z own_y_126 jdk_52_method_15_code 2 (some .byte) ws (⟨0, 0, 0, 0⟩ : Room) #[(.ref yB), (.int (3 : Int32))] h0 (QI (0 : Int32) h0 n0) := by
  refine own_en (plainFor_of_name pn_83) (fun m => ef_127 m yB (3 : Int32)) fun p e s m below meth c s₁ bs hx hby hml hZ hown hnm X0 e0 hlk hrt pre0 => ?_
  have N0 := Fr.nil n0
  obtain ⟨cl197, A197, q197, S197, M197, H197, J197⟩ := id VB
  have pre198 : PQ p e below s₁ (mkF m 8 (Y3 yB 3) [(.int (0 : Int32))]) bs := fun t kt => pre0 t (by
    refine XS.iloadN X0.here hx rfl (hb hby d7_0) rfl ?_
    refine XS.aloadN X0.here hx rfl (hb hby d7_1) rfl rfl ?_
    refine X0.arraylength hx (by rw [e0]; exact A197.1) (State.isArrayOf_alike hZ.alike A197.2.1) (g := (mkF m 2 (Y3 yB 3) [(.ref yB), (.int (3 : Int32))])) rfl rfl (hb hby d7_2) _ ?_
    rw [len_of S197 M197]
    refine XS.isub X0.here hx rfl (hb hby d7_3) rfl ?_
    refine XS.bipush X0.here hx rfl (hb hby d7_4) ?_
    refine XS.iushr X0.here hx rfl (hb hby d7_6) rfl ?_
    refine XS.i2b X0.here hx rfl (hb hby d7_7) rfl ?_
    exact kt)
  exact own_retN X0 hx hlk (t := .byte) hrt (by simp) (hb hby d7_8) pre198 (show QI (0 : Int32) h0 n0 _ _ _ from ⟨rfl, N0, e0⟩) (by decide) (by decide)
def QSj3 (Z : State) (oS : Addr) (c0 c1 c2 : Int32) (h0 : Heap) (n0 : Nat) (v : Option Value) (h : Heap) (L : List Loc) : Prop := ∃ (r : Addr) (k : ClassId), v = none ∧ Fr n0 L ∧ Keep h0 h [oS] ∧ Fa Z h oS (.int (0 : Int32)) ∧ Fb Z h oS (.ref r) ∧ Arv Z h r k .byte (3 : Int32) [(.int c0), (.int c1), (.int c2)] (.int (0 : Int32))
set_option maxRecDepth 65536 in
set_option maxHeartbeats 40000000 in
theorem rmSj3 {l : Launch} {Z : State} {a0 : Array Value} (hw : Hw a0 Z) {ws : List Jvm.Cond} (oS yC : Addr) (kC : ClassId) (c0 c1 c2 : Int32) {h0 : Heap} {n0 : Nat} (Z0 : n0 ≤ h0.size) {cs : Int32} {fv : Value} (Ev : Ev0 Z n0 h0 cs fv) (ES : Exa Z h0 oS "java/lang/String") (FcS : Fa Z h0 oS (.int (0 : Int32))) (FvS : Fb Z h0 oS .null) (GS : n0 ≤ oS) (VC : Arv Z h0 yC kC .char (3 : Int32) [(.int c0), (.int c1), (.int c2)] (.int (0 : Int32))) (hpc0 : Pr c0) (hpc1 : Pr c1) (hpc2 : Pr c2) : MF l Z own_y_136 jdk_42_method_149_code 6 none ws (⟨2, 1, 3, 35⟩ : Room) #[(.ref oS), (.ref yC), o0, (.int (3 : Int32)), .null] h0 (QSj3 Z oS c0 c1 c2 h0 n0) := by
  refine own_en (plainFor_of_name pn_2) (fun m => ef_137 m oS yC (0 : Int32) (3 : Int32)) fun p e s m below meth c s₁ bs hx hby hml hZ hown hnm X0 e0 hlk hrt pre0 => ?_
  have N0 := Fr.nil n0
  obtain ⟨T199, X199, e199, st199⟩ := initO X0 hx hZ hown (own_w hw 16 rfl) (own_w hw 17 rfl) (own_w hw 18 rfl) e0 (g := (mkF m 1 (Y9 oS yC 0 3) [(.ref oS)])) rfl (by rw [hml]; rfl) rfl (hb hby d3_1) (by decide) (W := 0) (by show 2 * 0 + _ ≤ _; exact Nat.le_of_eq rfl) (by decide)
  obtain ⟨T200, X200, e200, st200⟩ := getS2 X199 hx hZ hown (host := "") (Or.inl (own_w hw 19 rfl)) Via.refl e199 (own_cs Ev) (g := (mkF m 27 (Y9 oS yC 0 3) [])) rfl (hb hby d3_27)
  obtain ⟨_, T201, L201, X201, N201, ⟨_, r201, kc201, rfl, -, K201, z201, G201, V201⟩, st201⟩ := own_cS X200 hx hZ hown (own_k_148 hw) (rmCq3 hw yC kC c0 c1 c2 Z0 VC hpc0 hpc1 hpc2) (W := 0) (k := 1) (n := 3) (by decide) e200 N0 (fun _ _ _ ⟨_, _, _, h, _⟩ => h) (Ls := (Y9 oS yC 0 3)) (rest := []) hml.symm (lenOf pd_149 rfl) (Nat.le_of_eq rfl) (hb hby d3_36)
  have ne202 : oS ≠ r201 := Nat.ne_of_lt (Nat.lt_of_lt_of_le ES.lt z201)
  have z204 : n0 ≤ T201.heap.size := Nat.le_trans Z0 K201.1
  have c205 := (Keep.refl h0 [oS]).trans K201 all0
  have c207 := ES.keep K201
  have c208 := FcS.keep K201 nin0
  have c209 := FvS.keep K201 nin0
  obtain ⟨_, T211, L211, X211, N211, ⟨_, rfl, -, e211⟩, st211⟩ := own_cS X201 hx hZ hown (own_k_155 hw) (rmCl3 hw r201 kc201 c0 c1 c2 z204 V201) (W := 1) (k := 1) (n := 3) (by decide) rfl N201 (fun _ _ _ h => h.2.1) (Ls := (Y10 oS yC 0 3 r201)) (rest := [(.ref oS)]) hml.symm (lenOf pd_156 rfl) (Nat.le_of_eq rfl) (hb hby d3_45)
  obtain ⟨T212, h212, X212, e212, W212, st212⟩ := putFN X211 hx hZ hown (own_w hw 31 rfl) Via.refl e211 c208 c207 (Or.inr ⟨(own_w hw 32 rfl), rfl, hnm⟩) (own_w hw 7 rfl) (ty := .byte) (v' := (.int (nar .byte (0 : Int32)))) (by decide) rfl (fits_nar_byte _) (g := (mkF m 48 (Y10 oS yC 0 3 r201) [(.int (0 : Int32)), (.ref oS)])) rfl rfl (hb hby d3_48)
  have Fw212 := c208.same W212
  have N212 := Fr.snoc X212 N211 GS
  have c214 := c205.wr W212 (Or.inl (List.mem_of_getElem? (i := 0) rfl))
  have c216 := c207.wr W212
  have c218 := c209.other W212 (Or.inr (own_sn_158 hw))
  have c219 := V201.other W212 (Ne.symm ne202)
  obtain ⟨T220, h220, X220, e220, W220, st220⟩ := putF X212 hx hZ hown (host := "") (Or.inl (own_w hw 33 rfl)) Via.refl e212 c218 c216 (Or.inr ⟨(own_w hw 34 rfl), rfl, hnm⟩) (own_w hw 7 rfl) (ty := (.array .byte)) (by decide) rfl rfl (g := (mkF m 54 (Y10 oS yC 0 3 r201) [(.ref r201), (.ref oS)])) rfl rfl (hb hby d3_54)
  have Fw220 := c218.same W220
  have N220 := Fr.snoc X220 N212 GS
  have c222 := c214.wr W220 (Or.inl (List.mem_of_getElem? (i := 0) rfl))
  have c226 := c219.other W220 (Ne.symm ne202)
  have c227 := Fw212.other W220 (Or.inr (own_sn_162 hw))
  have pre228 : PQ p e below T220 (mkF m 57 (Y10 oS yC 0 3 r201) []) bs := fun t kt => pre0 t (by
    refine XS.aloadN X0.here hx rfl (hb hby d3_0) rfl rfl ?_
    refine st199 _ ?_
    refine XS.iloadN X199.here hx rfl (hb hby d3_4) rfl ?_
    refine XS.ifYes X199.here hx rfl (pc0 := 5) (pc' := 27) rfl (hb hby d3_5) rfl ((if0 _ _).trans (feq (by decide : ¬ ((3 : Int32) = (0 : Int32)))).2) (by decide) (by decide) ?_
    refine st200 _ ?_
    refine XS.ifNo X200.here hx rfl (hb hby d3_30) rfl ((if0 _ _).trans (feq Ev.2.2.1).1) ?_
    refine XS.aloadN X200.here hx rfl (hb hby d3_33) rfl rfl ?_
    refine XS.iloadN X200.here hx rfl (hb hby d3_34) rfl ?_
    refine XS.iloadN X200.here hx rfl (hb hby d3_35) rfl ?_
    refine st201.trans ?_
    refine XS.astore X201.here hx rfl (hb hby d3_39) rfl rfl (l' := (Y10 oS yC 0 3 r201)) rfl ?_
    refine XS.aloadN X201.here hx rfl (hb hby d3_41) rfl rfl ?_
    refine XS.aload X201.here hx rfl (hb hby d3_42) rfl rfl ?_
    refine XS.iloadN X201.here hx rfl (hb hby d3_44) rfl ?_
    refine st211.trans ?_
    refine st212 _ ?_
    refine XS.aloadN X212.here hx rfl (hb hby d3_51) rfl rfl ?_
    refine XS.aload X212.here hx rfl (hb hby d3_52) rfl rfl ?_
    refine st220 _ ?_
    exact kt)
  have hQ : QSj3 Z oS c0 c1 c2 h0 n0 none h220 _ := ⟨r201, kc201, rfl, N220, c222, c227, Fw220, c226⟩
  exact own_retV X220 hx hlk hrt (hb hby d3_57) pre228 (show QSj3 Z oS c0 c1 c2 h0 n0 _ _ _ from (by rw [e220]; exact hQ)) (by decide) (by decide)
set_option maxRecDepth 65536 in
set_option maxHeartbeats 40000000 in
theorem rmSi3 {l : Launch} {Z : State} {a0 : Array Value} (hw : Hw a0 Z) {ws : List Jvm.Cond} (oS yC : Addr) (kC : ClassId) (c0 c1 c2 : Int32) {h0 : Heap} {n0 : Nat} (Z0 : n0 ≤ h0.size) {cs : Int32} {fv : Value} (Ev : Ev0 Z n0 h0 cs fv) (ES : Exa Z h0 oS "java/lang/String") (FcS : Fa Z h0 oS (.int (0 : Int32))) (FvS : Fb Z h0 oS .null) (GS : n0 ≤ oS) (VC : Arv Z h0 yC kC .char (3 : Int32) [(.int c0), (.int c1), (.int c2)] (.int (0 : Int32))) (hpc0 : Pr c0) (hpc1 : Pr c1) (hpc2 : Pr c2) : MF l Z own_y_164 jdk_42_method_3_code 2 none ws (⟨3, 1, 3, 52⟩ : Room) #[(.ref oS), (.ref yC)] h0 (QSj3 Z oS c0 c1 c2 h0 n0) := by
  refine own_en (plainFor_of_name pn_2) (fun m => ef_165 m oS yC) fun p e s m below meth c s₁ bs hx hby hml hZ hown hnm X0 e0 hlk hrt pre0 => ?_
  have N0 := Fr.nil n0
  obtain ⟨cl229, A229, q229, S229, M229, H229, J229⟩ := id VC
  obtain ⟨_, T230, L230, X230, N230, ⟨_, r230, kc230, rfl, -, K230, Fc230, Fv230, V230⟩, st230⟩ := own_cI X0 hx hZ hown (own_k_173 hw) (rmSj3 hw oS yC kC c0 c1 c2 Z0 Ev ES FcS FvS GS VC hpc0 hpc1 hpc2) (W := 0) (k := 1) (n := 3) (by decide) e0 N0 (fun _ _ _ ⟨_, _, _, h, _⟩ => h) (Ls := (Y11 oS yC)) (rest := []) hml.symm (lenOf pd_174 rfl) (Nat.le_of_eq rfl) (hb hby d2_6)
  have pre231 : PQ p e below T230 (mkF m 9 (Y11 oS yC) []) bs := fun t kt => pre0 t (by
    refine XS.aloadN X0.here hx rfl (hb hby d2_0) rfl rfl ?_
    refine XS.aloadN X0.here hx rfl (hb hby d2_1) rfl rfl ?_
    refine XS.iconst X0.here hx rfl (hb hby d2_2) ?_
    refine XS.aloadN X0.here hx rfl (hb hby d2_3) rfl rfl ?_
    refine X0.arraylength hx (by rw [e0]; exact A229.1) (State.isArrayOf_alike hZ.alike A229.2.1) (g := (mkF m 4 (Y11 oS yC) [(.ref yC), o0, (.ref yC), (.ref oS)])) rfl rfl (hb hby d2_4) _ ?_
    rw [len_of S229 M229]
    refine XS.aconstNull X0.here hx rfl (hb hby d2_5) ?_
    refine st230.trans ?_
    exact kt)
  exact own_retV X230 hx hlk hrt (hb hby d2_9) pre231 (show QSj3 Z oS c0 c1 c2 h0 n0 _ _ _ from ⟨r230, kc230, rfl, N230, K230, Fc230, Fv230, V230⟩) (by decide) (by decide)
abbrev own_y_176 : MethodName := (⟨"java/lang/AbstractStringBuilder", "<init>", "(I)V"⟩ : MethodName)
theorem ef_177 (m : MethodId) (x0 : Addr) (x1 : Int32) : entryFrame m #[(.ref x0), (.int x1)] 2 = mkF m 0 #[.val (.ref x0), .val (.int x1)] [] := by first | (simp [entryFrame, mkF, argsToLocals, Value.category]; done) | rfl
theorem pn_178 : plainName "java/lang/AbstractStringBuilder" = true := by first | (simp [plainName, overriddenIn]; done) | decide +kernel
theorem d12_0 : decode jdk_68_method_2_code 0 = .ok (.aload_n 0, 1) := by decide +kernel
theorem d12_1 : decode jdk_68_method_2_code 1 = .ok (.invokespecial 3, 3) := by decide +kernel
theorem d12_4 : decode jdk_68_method_2_code 4 = .ok (.getstatic 18, 3) := by decide +kernel
theorem d12_7 : decode jdk_68_method_2_code 7 = .ok (.ifCond .eq 18, 3) := by decide +kernel
theorem d12_10 : decode jdk_68_method_2_code 10 = .ok (.aload_n 0, 1) := by decide +kernel
theorem d12_11 : decode jdk_68_method_2_code 11 = .ok (.iload_n 1, 1) := by decide +kernel
theorem d12_12 : decode jdk_68_method_2_code 12 = .ok (.newarray .byte, 2) := by decide +kernel
theorem d12_14 : decode jdk_68_method_2_code 14 = .ok (.putfield 15, 3) := by decide +kernel
theorem own_sn_187 {Z : State} {a0 : Array Value} (hw : ∀ d ∈ tables_1, d.before a0 Z = true) : Jvm.RoadKit.slotOf Z "java/lang/AbstractStringBuilder" "coder" "B" ≠ Jvm.RoadKit.slotOf Z "java/lang/AbstractStringBuilder" "value" "[B" := slot_ne (C := "java/lang/StringBuilder") (Or.inl (own_w hw 69 rfl)) (Or.inl (own_w hw 67 rfl)) (by decide) (t := .byte) (t' := (.array .byte)) (by decide) (by decide)
theorem own_sn_188 {Z : State} {a0 : Array Value} (hw : ∀ d ∈ tables_1, d.before a0 Z = true) : Jvm.RoadKit.slotOf Z "java/lang/AbstractStringBuilder" "count" "I" ≠ Jvm.RoadKit.slotOf Z "java/lang/AbstractStringBuilder" "value" "[B" := slot_ne (C := "java/lang/StringBuilder") (Or.inl (own_w hw 82 rfl)) (Or.inl (own_w hw 67 rfl)) (by decide) (t := .int) (t' := (.array .byte)) (by decide) (by decide)
theorem d12_17 : decode jdk_68_method_2_code 17 = .ok (.aload_n 0, 1) := by decide +kernel
theorem d12_18 : decode jdk_68_method_2_code 18 = .ok (.iconst 0, 1) := by decide +kernel
theorem d12_19 : decode jdk_68_method_2_code 19 = .ok (.putfield 22, 3) := by decide +kernel
theorem own_sn_192 {Z : State} {a0 : Array Value} (hw : ∀ d ∈ tables_1, d.before a0 Z = true) : Jvm.RoadKit.slotOf Z "java/lang/AbstractStringBuilder" "count" "I" ≠ Jvm.RoadKit.slotOf Z "java/lang/AbstractStringBuilder" "coder" "B" := slot_ne (C := "java/lang/StringBuilder") (Or.inl (own_w hw 82 rfl)) (Or.inl (own_w hw 69 rfl)) (by decide) (t := .int) (t' := .byte) (by decide) (by decide)
theorem own_sn_193 {Z : State} {a0 : Array Value} (hw : ∀ d ∈ tables_1, d.before a0 Z = true) : Jvm.RoadKit.slotOf Z "java/lang/AbstractStringBuilder" "value" "[B" ≠ Jvm.RoadKit.slotOf Z "java/lang/AbstractStringBuilder" "coder" "B" := slot_ne (C := "java/lang/StringBuilder") (Or.inl (own_w hw 67 rfl)) (Or.inl (own_w hw 69 rfl)) (by decide) (t := (.array .byte)) (t' := .byte) (by decide) (by decide)
theorem d12_22 : decode jdk_68_method_2_code 22 = .ok (.goto 16, 3) := by decide +kernel
theorem d12_38 : decode jdk_68_method_2_code 38 = .ok (.return_, 1) := by decide +kernel
def QBi (Z : State) (oB : Addr) (h0 : Heap) (n0 : Nat) (v : Option Value) (h : Heap) (L : List Loc) : Prop := ∃ (yB : Addr) (kB : ClassId), v = none ∧ Fr n0 L ∧ Keep h0 h [oB] ∧ h0.size ≤ yB ∧ n0 ≤ yB ∧ Fc Z h oB (.ref yB) ∧ Fd Z h oB (.int (0 : Int32)) ∧ Fe Z h oB (.int (0 : Int32)) ∧ Arv Z h yB kB .byte (16 : Int32) [(.int (0 : Int32)), o0, o0, o0, o0, o0, o0, o0, o0, o0, o0, o0, o0, o0, o0, o0] (.int (0 : Int32))
set_option maxRecDepth 65536 in
set_option maxHeartbeats 40000000 in
theorem rmBi {l : Launch} {Z : State} {a0 : Array Value} (hw : Hw a0 Z) {ws : List Jvm.Cond} (oB : Addr) {h0 : Heap} {n0 : Nat} (Z0 : n0 ≤ h0.size) {cs : Int32} {fv : Value} (Ev : Ev0 Z n0 h0 cs fv) (EB : Exa Z h0 oB "java/lang/StringBuilder") (FvB : Fc Z h0 oB .null) (FcB : Fd Z h0 oB (.int (0 : Int32))) (FnB : Fe Z h0 oB (.int (0 : Int32))) (GB : n0 ≤ oB) : MF l Z own_y_176 jdk_68_method_2_code 2 none ws (⟨1, 1, 16, 12⟩ : Room) #[(.ref oB), (.int (16 : Int32))] h0 (QBi Z oB h0 n0) := by
  refine own_en (plainFor_of_name pn_178) (fun m => ef_177 m oB (16 : Int32)) fun p e s m below meth c s₁ bs hx hby hml hZ hown hnm X0 e0 hlk hrt pre0 => ?_
  have N0 := Fr.nil n0
  obtain ⟨T232, X232, e232, st232⟩ := initO X0 hx hZ hown (own_w hw 64 rfl) (own_w hw 17 rfl) (own_w hw 18 rfl) e0 (g := (mkF m 1 (Y3 oB 16) [(.ref oB)])) rfl (by rw [hml]; rfl) rfl (hb hby d12_1) (by decide) (W := 0) (by show 2 * 0 + _ ≤ _; exact Nat.le_of_eq rfl) (by decide)
  obtain ⟨T233, X233, e233, st233⟩ := getS2 X232 hx hZ hown (host := "") (Or.inl (own_w hw 65 rfl)) Via.refl e232 (own_cs Ev) (g := (mkF m 4 (Y3 oB 16) [])) rfl (hb hby d12_4)
  obtain ⟨T234, h234, k234, X234, e234, E234, A234, st234⟩ := newP X233 hx hZ (own_w hw 24 rfl) e233 (g := (mkF m 12 (Y3 oB 16) [(.int (16 : Int32)), (.ref oB)])) rfl (hb hby d12_12) rfl (by decide) (cap := 16) (by decide) (by decide) (by decide) (by decide)
  obtain ⟨b234, g234⟩ : ∃ z, z = h0.size := ⟨_, rfl⟩
  rw [← g234] at A234 st234
  have G234 : n0 ≤ b234 := Nat.le_trans Z0 (Nat.le_of_eq g234.symm)
  have sz234 : h0.size ≤ b234 := Nat.le_trans (Keep.refl h0 [oB]).1 (Nat.le_of_eq g234.symm)
  have ne235 : oB ≠ b234 := Nat.ne_of_lt (Nat.lt_of_lt_of_le EB.lt (Nat.le_of_eq g234.symm))
  have c236 := (Keep.refl h0 [oB]).ext E234
  have c238 := EB.ext E234
  have c239 := FvB.ext E234
  have c240 := FcB.ext E234
  have c241 := FnB.ext E234
  have V234 : Arv Z h234 b234 k234 .byte (16 : Int32) [(.int (0 : Int32)), o0, o0, o0, o0, o0, o0, o0, o0, o0, o0, o0, o0, o0, o0, o0] (.int (0 : Int32)) := (Arv.new A234 (by decide)).pad (pad_rep [] (.int (0 : Int32)) 16)
  obtain ⟨T243, h243, X243, e243, W243, st243⟩ := putF X234 hx hZ hown (host := "") (Or.inl (own_w hw 66 rfl)) Via.refl e234 c239 c238 (Or.inl (own_w hw 67 rfl)) (own_w hw 53 rfl) (ty := (.array .byte)) (by decide) rfl rfl (g := (mkF m 14 (Y3 oB 16) [(.ref b234), (.ref oB)])) rfl rfl (hb hby d12_14)
  have Fw243 := c239.same W243
  have N243 := Fr.snoc X243 N0 GB
  have c245 := c236.wr W243 (Or.inl (List.mem_of_getElem? (i := 0) rfl))
  have c247 := c238.wr W243
  have c249 := c240.other W243 (Or.inr (own_sn_187 hw))
  have c250 := c241.other W243 (Or.inr (own_sn_188 hw))
  have c251 := V234.other W243 (Ne.symm ne235)
  obtain ⟨T252, h252, X252, e252, W252, st252⟩ := putFN X243 hx hZ hown (own_w hw 68 rfl) Via.refl e243 c249 c247 (Or.inl (own_w hw 69 rfl)) (own_w hw 53 rfl) (ty := .byte) (v' := (.int (nar .byte (0 : Int32)))) (by decide) rfl (fits_nar_byte _) (g := (mkF m 19 (Y3 oB 16) [(.int (0 : Int32)), (.ref oB)])) rfl rfl (hb hby d12_19)
  have Fw252 := c249.same W252
  have N252 := Fr.snoc X252 N243 GB
  have c254 := c245.wr W252 (Or.inl (List.mem_of_getElem? (i := 0) rfl))
  have c258 := c250.other W252 (Or.inr (own_sn_192 hw))
  have c259 := c251.other W252 (Ne.symm ne235)
  have c260 := Fw243.other W252 (Or.inr (own_sn_193 hw))
  have pre261 : PQ p e below T252 (mkF m 38 (Y3 oB 16) []) bs := fun t kt => pre0 t (by
    refine XS.aloadN X0.here hx rfl (hb hby d12_0) rfl rfl ?_
    refine st232 _ ?_
    refine st233 _ ?_
    refine XS.ifNo X233.here hx rfl (hb hby d12_7) rfl ((if0 _ _).trans (feq Ev.2.2.1).1) ?_
    refine XS.aloadN X233.here hx rfl (hb hby d12_10) rfl rfl ?_
    refine XS.iloadN X233.here hx rfl (hb hby d12_11) rfl ?_
    refine st234 _ ?_
    refine st243 _ ?_
    refine XS.aloadN X243.here hx rfl (hb hby d12_17) rfl rfl ?_
    refine XS.iconst X243.here hx rfl (hb hby d12_18) ?_
    refine st252 _ ?_
    refine XS.goto X252.here hx rfl (pc0 := 22) (pc' := 38) rfl (hb hby d12_22) (by decide) (by decide) ?_
    exact kt)
  have hQ : QBi Z oB h0 n0 none h252 _ := ⟨b234, k234, rfl, N252, c254, sz234, G234, c260, Fw252, c258, c259⟩
  exact own_retV X252 hx hlk hrt (hb hby d12_38) pre261 (show QBi Z oB h0 n0 _ _ _ from (by rw [e252]; exact hQ)) (by decide) (by decide)
abbrev own_y_196 : MethodName := (⟨"java/lang/StringBuilder", "<init>", "()V"⟩ : MethodName)
theorem ef_197 (m : MethodId) (x0 : Addr) : entryFrame m #[(.ref x0)] 1 = mkF m 0 #[.val (.ref x0)] [] := by first | (simp [entryFrame, mkF, argsToLocals, Value.category]; done) | rfl
theorem pn_198 : plainName "java/lang/StringBuilder" = true := by first | (simp [plainName, overriddenIn]; done) | decide +kernel
theorem d11_0 : decode jdk_67_method_1_code 0 = .ok (.aload_n 0, 1) := by decide +kernel
theorem d11_1 : decode jdk_67_method_1_code 1 = .ok (.bipush 16, 2) := by decide +kernel
theorem d11_3 : decode jdk_67_method_1_code 3 = .ok (.invokespecial 1, 3) := by decide +kernel
theorem own_k_202 {Z : State} {a0 : Array Value} (hw : Hw a0 Z) : KI Z a0 "java/lang/StringBuilder" 1 own_y_176 jdk_68_method_2_code 2 none := ⟨(own_w hw 58 rfl), (own_w hw 59 rfl), (own_w hw 63 rfl), (own_w hw 62 rfl), rfl, rfl, by decide⟩
theorem pd_203 : parseMethodDescriptor "(I)V" = some ⟨[.int], none⟩ := by decide +kernel
theorem d11_6 : decode jdk_67_method_1_code 6 = .ok (.return_, 1) := by decide +kernel
set_option maxRecDepth 65536 in
set_option maxHeartbeats 40000000 in
theorem rmBj {l : Launch} {Z : State} {a0 : Array Value} (hw : Hw a0 Z) {ws : List Jvm.Cond} (oB : Addr) {h0 : Heap} {n0 : Nat} (Z0 : n0 ≤ h0.size) {cs : Int32} {fv : Value} (Ev : Ev0 Z n0 h0 cs fv) (EB : Exa Z h0 oB "java/lang/StringBuilder") (FvB : Fc Z h0 oB .null) (FcB : Fd Z h0 oB (.int (0 : Int32))) (FnB : Fe Z h0 oB (.int (0 : Int32))) (GB : n0 ≤ oB) : MF l Z own_y_196 jdk_67_method_1_code 1 none ws (⟨2, 1, 16, 25⟩ : Room) #[(.ref oB)] h0 (QBi Z oB h0 n0) := by
  refine own_en (plainFor_of_name pn_198) (fun m => ef_197 m oB) fun p e s m below meth c s₁ bs hx hby hml hZ hown hnm X0 e0 hlk hrt pre0 => ?_
  have N0 := Fr.nil n0
  obtain ⟨_, T262, L262, X262, N262, ⟨_, r262, kc262, rfl, -, K262, z262, G262, Fv262, Fc262, Fn262, V262⟩, st262⟩ := own_cI X0 hx hZ hown (own_k_202 hw) (rmBi hw oB Z0 Ev EB FvB FcB FnB GB) (W := 0) (k := 1) (n := 16) (by decide) e0 N0 (fun _ _ _ ⟨_, _, _, h, _⟩ => h) (Ls := #[.val (.ref oB)]) (rest := []) hml.symm (lenOf pd_203 rfl) (Nat.le_of_eq rfl) (hb hby d11_3)
  have pre263 : PQ p e below T262 (mkF m 6 #[.val (.ref oB)] []) bs := fun t kt => pre0 t (by
    refine XS.aloadN X0.here hx rfl (hb hby d11_0) rfl rfl ?_
    refine XS.bipush X0.here hx rfl (hb hby d11_1) ?_
    refine st262.trans ?_
    exact kt)
  exact own_retV X262 hx hlk hrt (hb hby d11_6) pre263 (show QBi Z oB h0 n0 _ _ _ from ⟨r262, kc262, rfl, N262, K262, z262, G262, Fv262, Fc262, Fn262, V262⟩) (by decide) (by decide)
abbrev own_y_205 : MethodName := (⟨"java/lang/AbstractStringBuilder", "ensureCapacityInternal", "(I)V"⟩ : MethodName)
theorem ef_206 (m : MethodId) (x0 : Addr) (x1 : Int32) : entryFrame m #[(.ref x0), (.int x1)] 3 = mkF m 0 #[.val (.ref x0), .val (.int x1), .unset] [] := by first | (simp [entryFrame, mkF, argsToLocals, Value.category]; done) | rfl
theorem d15_0 : decode jdk_68_method_9_code 0 = .ok (.aload_n 0, 1) := by decide +kernel
theorem d15_1 : decode jdk_68_method_9_code 1 = .ok (.getfield 15, 3) := by decide +kernel
theorem d15_4 : decode jdk_68_method_9_code 4 = .ok (.arraylength, 1) := by decide +kernel
theorem d15_5 : decode jdk_68_method_9_code 5 = .ok (.aload_n 0, 1) := by decide +kernel
theorem d15_6 : decode jdk_68_method_9_code 6 = .ok (.getfield 22, 3) := by decide +kernel
theorem d15_9 : decode jdk_68_method_9_code 9 = .ok (.ishr, 1) := by decide +kernel
theorem d15_10 : decode jdk_68_method_9_code 10 = .ok (.istore_n 2, 1) := by decide +kernel
theorem d15_11 : decode jdk_68_method_9_code 11 = .ok (.iload_n 1, 1) := by decide +kernel
theorem d15_12 : decode jdk_68_method_9_code 12 = .ok (.iload_n 2, 1) := by decide +kernel
theorem d15_13 : decode jdk_68_method_9_code 13 = .ok (.isub, 1) := by decide +kernel
theorem d15_14 : decode jdk_68_method_9_code 14 = .ok (.ifCond .le 24, 3) := by decide +kernel
theorem d15_38 : decode jdk_68_method_9_code 38 = .ok (.return_, 1) := by decide +kernel
set_option maxRecDepth 65536 in
set_option maxHeartbeats 40000000 in
theorem rmEns3 {l : Launch} {Z : State} {a0 : Array Value} (hw : Hw a0 Z) {ws : List Jvm.Cond} (oB yB : Addr) (kB : ClassId) (vs : List Value) {h0 : Heap} {n0 : Nat} (Z0 : n0 ≤ h0.size) (FvB : Fc Z h0 oB (.ref yB)) (FcB : Fd Z h0 oB (.int (0 : Int32))) (VB : Arv Z h0 yB kB .byte (16 : Int32) vs (.int (0 : Int32))) : MF l Z own_y_205 jdk_68_method_9_code 3 none ws (⟨0, 0, 0, 0⟩ : Room) #[(.ref oB), (.int (3 : Int32))] h0 (QU h0 n0) := by
  refine own_en (plainFor_of_name pn_178) (fun m => ef_206 m oB (3 : Int32)) fun p e s m below meth c s₁ bs hx hby hml hZ hown hnm X0 e0 hlk hrt pre0 => ?_
  have N0 := Fr.nil n0
  obtain ⟨cl, A, q, S, M, H, J⟩ := id VB
  obtain ⟨T264, X264, e264, st264⟩ := getF X0 hx hZ hown (host := "") (Or.inl (own_w hw 66 rfl)) Via.refl e0 FvB (g := (mkF m 1 (Y12 oB 3) [(.ref oB)])) rfl rfl (hb hby d15_1)
  obtain ⟨T265, X265, e265, st265⟩ := getF X264 hx hZ hown (host := "") (Or.inl (own_w hw 68 rfl)) Via.refl e264 FcB (g := (mkF m 6 (Y12 oB 3) [(.ref oB), (.int (16 : Int32))])) rfl rfl (hb hby d15_6)
  have pre266 : PQ p e below T265 (mkF m 38 (Y13 oB 3 16) []) bs := fun t kt => pre0 t (by
    refine XS.aloadN X0.here hx rfl (hb hby d15_0) rfl rfl ?_
    refine st264 _ ?_
    refine X264.arraylength hx (by rw [e264]; exact A.1) (State.isArrayOf_alike hZ.alike A.2.1) (g := (mkF m 4 (Y12 oB 3) [(.ref yB)])) rfl rfl (hb hby d15_4) _ ?_
    rw [len_of S M]
    refine XS.aloadN X264.here hx rfl (hb hby d15_5) rfl rfl ?_
    refine st265 _ ?_
    refine XS.ishr X265.here hx rfl (hb hby d15_9) rfl ?_
    refine XS.istoreN X265.here hx rfl (hb hby d15_10) rfl (l' := (Y13 oB 3 16)) rfl ?_
    refine XS.iloadN X265.here hx rfl (hb hby d15_11) rfl ?_
    refine XS.iloadN X265.here hx rfl (hb hby d15_12) rfl ?_
    refine XS.isub X265.here hx rfl (hb hby d15_13) rfl ?_
    refine XS.ifYes X265.here hx rfl (pc0 := 14) (pc' := 38) rfl (hb hby d15_14) rfl ((if0 _ _).trans (flt (by decide : ¬ ((0 : Int32) < (-13 : Int32)))).2.2.2) (by decide) (by decide) ?_
    exact kt)
  exact own_retV X265 hx hlk hrt (hb hby d15_38) pre266 (show QU h0 n0 _ _ _ from ⟨rfl, N0, e265⟩) (by decide) (by decide)
set_option maxRecDepth 65536 in
set_option maxHeartbeats 40000000 in
theorem rmEns4 {l : Launch} {Z : State} {a0 : Array Value} (hw : Hw a0 Z) {ws : List Jvm.Cond} (oB yB : Addr) (kB : ClassId) (vs : List Value) {h0 : Heap} {n0 : Nat} (Z0 : n0 ≤ h0.size) (FvB : Fc Z h0 oB (.ref yB)) (FcB : Fd Z h0 oB (.int (0 : Int32))) (VB : Arv Z h0 yB kB .byte (16 : Int32) vs (.int (0 : Int32))) : MF l Z own_y_205 jdk_68_method_9_code 3 none ws (⟨0, 0, 0, 0⟩ : Room) #[(.ref oB), (.int (4 : Int32))] h0 (QU h0 n0) := by
  refine own_en (plainFor_of_name pn_178) (fun m => ef_206 m oB (4 : Int32)) fun p e s m below meth c s₁ bs hx hby hml hZ hown hnm X0 e0 hlk hrt pre0 => ?_
  have N0 := Fr.nil n0
  obtain ⟨cl, A, q, S, M, H, J⟩ := id VB
  obtain ⟨T267, X267, e267, st267⟩ := getF X0 hx hZ hown (host := "") (Or.inl (own_w hw 66 rfl)) Via.refl e0 FvB (g := (mkF m 1 (Y12 oB 4) [(.ref oB)])) rfl rfl (hb hby d15_1)
  obtain ⟨T268, X268, e268, st268⟩ := getF X267 hx hZ hown (host := "") (Or.inl (own_w hw 68 rfl)) Via.refl e267 FcB (g := (mkF m 6 (Y12 oB 4) [(.ref oB), (.int (16 : Int32))])) rfl rfl (hb hby d15_6)
  have pre269 : PQ p e below T268 (mkF m 38 (Y13 oB 4 16) []) bs := fun t kt => pre0 t (by
    refine XS.aloadN X0.here hx rfl (hb hby d15_0) rfl rfl ?_
    refine st267 _ ?_
    refine X267.arraylength hx (by rw [e267]; exact A.1) (State.isArrayOf_alike hZ.alike A.2.1) (g := (mkF m 4 (Y12 oB 4) [(.ref yB)])) rfl rfl (hb hby d15_4) _ ?_
    rw [len_of S M]
    refine XS.aloadN X267.here hx rfl (hb hby d15_5) rfl rfl ?_
    refine st268 _ ?_
    refine XS.ishr X268.here hx rfl (hb hby d15_9) rfl ?_
    refine XS.istoreN X268.here hx rfl (hb hby d15_10) rfl (l' := (Y13 oB 4 16)) rfl ?_
    refine XS.iloadN X268.here hx rfl (hb hby d15_11) rfl ?_
    refine XS.iloadN X268.here hx rfl (hb hby d15_12) rfl ?_
    refine XS.isub X268.here hx rfl (hb hby d15_13) rfl ?_
    refine XS.ifYes X268.here hx rfl (pc0 := 14) (pc' := 38) rfl (hb hby d15_14) rfl ((if0 _ _).trans (flt (by decide : ¬ ((0 : Int32) < (-12 : Int32)))).2.2.2) (by decide) (by decide) ?_
    exact kt)
  exact own_retV X268 hx hlk hrt (hb hby d15_38) pre269 (show QU h0 n0 _ _ _ from ⟨rfl, N0, e268⟩) (by decide) (by decide)
set_option maxRecDepth 65536 in
set_option maxHeartbeats 40000000 in
theorem rmEns5 {l : Launch} {Z : State} {a0 : Array Value} (hw : Hw a0 Z) {ws : List Jvm.Cond} (oB yB : Addr) (kB : ClassId) (vs : List Value) {h0 : Heap} {n0 : Nat} (Z0 : n0 ≤ h0.size) (FvB : Fc Z h0 oB (.ref yB)) (FcB : Fd Z h0 oB (.int (0 : Int32))) (VB : Arv Z h0 yB kB .byte (16 : Int32) vs (.int (0 : Int32))) : MF l Z own_y_205 jdk_68_method_9_code 3 none ws (⟨0, 0, 0, 0⟩ : Room) #[(.ref oB), (.int (5 : Int32))] h0 (QU h0 n0) := by
  refine own_en (plainFor_of_name pn_178) (fun m => ef_206 m oB (5 : Int32)) fun p e s m below meth c s₁ bs hx hby hml hZ hown hnm X0 e0 hlk hrt pre0 => ?_
  have N0 := Fr.nil n0
  obtain ⟨cl, A, q, S, M, H, J⟩ := id VB
  obtain ⟨T270, X270, e270, st270⟩ := getF X0 hx hZ hown (host := "") (Or.inl (own_w hw 66 rfl)) Via.refl e0 FvB (g := (mkF m 1 (Y12 oB 5) [(.ref oB)])) rfl rfl (hb hby d15_1)
  obtain ⟨T271, X271, e271, st271⟩ := getF X270 hx hZ hown (host := "") (Or.inl (own_w hw 68 rfl)) Via.refl e270 FcB (g := (mkF m 6 (Y12 oB 5) [(.ref oB), (.int (16 : Int32))])) rfl rfl (hb hby d15_6)
  have pre272 : PQ p e below T271 (mkF m 38 (Y13 oB 5 16) []) bs := fun t kt => pre0 t (by
    refine XS.aloadN X0.here hx rfl (hb hby d15_0) rfl rfl ?_
    refine st270 _ ?_
    refine X270.arraylength hx (by rw [e270]; exact A.1) (State.isArrayOf_alike hZ.alike A.2.1) (g := (mkF m 4 (Y12 oB 5) [(.ref yB)])) rfl rfl (hb hby d15_4) _ ?_
    rw [len_of S M]
    refine XS.aloadN X270.here hx rfl (hb hby d15_5) rfl rfl ?_
    refine st271 _ ?_
    refine XS.ishr X271.here hx rfl (hb hby d15_9) rfl ?_
    refine XS.istoreN X271.here hx rfl (hb hby d15_10) rfl (l' := (Y13 oB 5 16)) rfl ?_
    refine XS.iloadN X271.here hx rfl (hb hby d15_11) rfl ?_
    refine XS.iloadN X271.here hx rfl (hb hby d15_12) rfl ?_
    refine XS.isub X271.here hx rfl (hb hby d15_13) rfl ?_
    refine XS.ifYes X271.here hx rfl (pc0 := 14) (pc' := 38) rfl (hb hby d15_14) rfl ((if0 _ _).trans (flt (by decide : ¬ ((0 : Int32) < (-11 : Int32)))).2.2.2) (by decide) (by decide) ?_
    exact kt)
  exact own_retV X271 hx hlk hrt (hb hby d15_38) pre272 (show QU h0 n0 _ _ _ from ⟨rfl, N0, e271⟩) (by decide) (by decide)
set_option maxRecDepth 65536 in
set_option maxHeartbeats 40000000 in
theorem rmEns6 {l : Launch} {Z : State} {a0 : Array Value} (hw : Hw a0 Z) {ws : List Jvm.Cond} (oB yB : Addr) (kB : ClassId) (vs : List Value) {h0 : Heap} {n0 : Nat} (Z0 : n0 ≤ h0.size) (FvB : Fc Z h0 oB (.ref yB)) (FcB : Fd Z h0 oB (.int (0 : Int32))) (VB : Arv Z h0 yB kB .byte (16 : Int32) vs (.int (0 : Int32))) : MF l Z own_y_205 jdk_68_method_9_code 3 none ws (⟨0, 0, 0, 0⟩ : Room) #[(.ref oB), (.int (6 : Int32))] h0 (QU h0 n0) := by
  refine own_en (plainFor_of_name pn_178) (fun m => ef_206 m oB (6 : Int32)) fun p e s m below meth c s₁ bs hx hby hml hZ hown hnm X0 e0 hlk hrt pre0 => ?_
  have N0 := Fr.nil n0
  obtain ⟨cl, A, q, S, M, H, J⟩ := id VB
  obtain ⟨T273, X273, e273, st273⟩ := getF X0 hx hZ hown (host := "") (Or.inl (own_w hw 66 rfl)) Via.refl e0 FvB (g := (mkF m 1 (Y12 oB 6) [(.ref oB)])) rfl rfl (hb hby d15_1)
  obtain ⟨T274, X274, e274, st274⟩ := getF X273 hx hZ hown (host := "") (Or.inl (own_w hw 68 rfl)) Via.refl e273 FcB (g := (mkF m 6 (Y12 oB 6) [(.ref oB), (.int (16 : Int32))])) rfl rfl (hb hby d15_6)
  have pre275 : PQ p e below T274 (mkF m 38 (Y13 oB 6 16) []) bs := fun t kt => pre0 t (by
    refine XS.aloadN X0.here hx rfl (hb hby d15_0) rfl rfl ?_
    refine st273 _ ?_
    refine X273.arraylength hx (by rw [e273]; exact A.1) (State.isArrayOf_alike hZ.alike A.2.1) (g := (mkF m 4 (Y12 oB 6) [(.ref yB)])) rfl rfl (hb hby d15_4) _ ?_
    rw [len_of S M]
    refine XS.aloadN X273.here hx rfl (hb hby d15_5) rfl rfl ?_
    refine st274 _ ?_
    refine XS.ishr X274.here hx rfl (hb hby d15_9) rfl ?_
    refine XS.istoreN X274.here hx rfl (hb hby d15_10) rfl (l' := (Y13 oB 6 16)) rfl ?_
    refine XS.iloadN X274.here hx rfl (hb hby d15_11) rfl ?_
    refine XS.iloadN X274.here hx rfl (hb hby d15_12) rfl ?_
    refine XS.isub X274.here hx rfl (hb hby d15_13) rfl ?_
    refine XS.ifYes X274.here hx rfl (pc0 := 14) (pc' := 38) rfl (hb hby d15_14) rfl ((if0 _ _).trans (flt (by decide : ¬ ((0 : Int32) < (-10 : Int32)))).2.2.2) (by decide) (by decide) ?_
    exact kt)
  exact own_retV X274 hx hlk hrt (hb hby d15_38) pre275 (show QU h0 n0 _ _ _ from ⟨rfl, N0, e274⟩) (by decide) (by decide)
abbrev own_y_219 : MethodName := (⟨"java/lang/AbstractStringBuilder", "inflateIfNeededFor", "(Ljava/lang/String;)V"⟩ : MethodName)
theorem ef_220 (m : MethodId) (x0 : Addr) (x1 : Addr) : entryFrame m #[(.ref x0), (.ref x1)] 2 = mkF m 0 #[.val (.ref x0), .val (.ref x1)] [] := by first | (simp [entryFrame, mkF, argsToLocals, Value.category]; done) | rfl
theorem d17_0 : decode jdk_68_method_71_code 0 = .ok (.getstatic 18, 3) := by decide +kernel
theorem d17_3 : decode jdk_68_method_71_code 3 = .ok (.ifCond .eq 18, 3) := by decide +kernel
theorem d17_6 : decode jdk_68_method_71_code 6 = .ok (.aload_n 0, 1) := by decide +kernel
theorem d17_7 : decode jdk_68_method_71_code 7 = .ok (.getfield 22, 3) := by decide +kernel
theorem d17_10 : decode jdk_68_method_71_code 10 = .ok (.aload_n 1, 1) := by decide +kernel
theorem d17_11 : decode jdk_68_method_71_code 11 = .ok (.invokevirtual 40, 3) := by decide +kernel
theorem own_k_227 {Z : State} {a0 : Array Value} (hw : Hw a0 Z) : KV Z a0 "java/lang/AbstractStringBuilder" "java/lang/String" 40 own_y_0 jdk_42_method_152_code 1 (some .byte) := ⟨(own_w hw 98 rfl), (own_w hw 48 rfl), (own_w hw 50 rfl), (own_w hw 49 rfl), (own_w hw 51 rfl), (own_w hw 8 rfl), by decide⟩
theorem d17_14 : decode jdk_68_method_71_code 14 = .ok (.if_icmp .eq 7, 3) := by decide +kernel
theorem d17_21 : decode jdk_68_method_71_code 21 = .ok (.return_, 1) := by decide +kernel
set_option maxRecDepth 65536 in
set_option maxHeartbeats 40000000 in
theorem rmInf {l : Launch} {Z : State} {a0 : Array Value} (hw : Hw a0 Z) {ws : List Jvm.Cond} (oB oS : Addr) {h0 : Heap} {n0 : Nat} (Z0 : n0 ≤ h0.size) {cs : Int32} {fv : Value} (Ev : Ev0 Z n0 h0 cs fv) (FcB : Fd Z h0 oB (.int (0 : Int32))) (ES : Exa Z h0 oS "java/lang/String") (FcS : Fa Z h0 oS (.int (0 : Int32))) : MF l Z own_y_219 jdk_68_method_71_code 2 none ws (⟨1, 0, 0, 13⟩ : Room) #[(.ref oB), (.ref oS)] h0 (QU h0 n0) := by
  refine own_en (plainFor_of_name pn_178) (fun m => ef_220 m oB oS) fun p e s m below meth c s₁ bs hx hby hml hZ hown hnm X0 e0 hlk hrt pre0 => ?_
  have N0 := Fr.nil n0
  obtain ⟨T276, X276, e276, st276⟩ := getS2 X0 hx hZ hown (host := "") (Or.inl (own_w hw 65 rfl)) Via.refl e0 (own_cs Ev) (g := (mkF m 0 (Y11 oB oS) [])) rfl (hb hby d17_0)
  obtain ⟨T277, X277, e277, st277⟩ := getF X276 hx hZ hown (host := "") (Or.inl (own_w hw 68 rfl)) Via.refl e276 FcB (g := (mkF m 7 (Y11 oB oS) [(.ref oB)])) rfl rfl (hb hby d17_7)
  obtain ⟨_, T278, L278, X278, N278, ⟨_, rfl, -, e278⟩, st278⟩ := own_cV X277 hx hZ hown (own_k_227 hw) (rmCoder hw oS Z0 Ev FcS) (W := 1) (k := 0) (n := 0) (by decide) e277 N0 (fun _ _ _ h => h.2.1) ES (Ls := (Y11 oB oS)) (rest := [(.int (0 : Int32))]) hml.symm (lenOf pd_27 rfl) (Nat.le_of_eq rfl) (hb hby d17_11)
  have pre279 : PQ p e below T278 (mkF m 21 (Y11 oB oS) []) bs := fun t kt => pre0 t (by
    refine st276 _ ?_
    refine XS.ifNo X276.here hx rfl (hb hby d17_3) rfl ((if0 _ _).trans (feq Ev.2.2.1).1) ?_
    refine XS.aloadN X276.here hx rfl (hb hby d17_6) rfl rfl ?_
    refine st277 _ ?_
    refine XS.aloadN X277.here hx rfl (hb hby d17_10) rfl rfl ?_
    refine st278.trans ?_
    refine XS.icmpYes X278.here hx rfl (pc0 := 14) (pc' := 21) rfl (hb hby d17_14) rfl (teq (by decide : (0 : Int32) = (0 : Int32))).1 (by decide) (by decide) ?_
    exact kt)
  exact own_retV X278 hx hlk hrt (hb hby d17_21) pre279 (show QU h0 n0 _ _ _ from ⟨rfl, N278, e278⟩) (by decide) (by decide)
abbrev own_y_230 : MethodName := (⟨"java/lang/String", "getBytes", "([BIB)V"⟩ : MethodName)
theorem ef_231 (m : MethodId) (x0 : Addr) (x1 : Addr) (x2 : Int32) (x3 : Int32) : entryFrame m #[(.ref x0), (.ref x1), (.int x2), (.int x3)] 4 = mkF m 0 #[.val (.ref x0), .val (.ref x1), .val (.int x2), .val (.int x3)] [] := by first | (simp [entryFrame, mkF, argsToLocals, Value.category]; done) | rfl
theorem d18_0 : decode jdk_42_method_147_code 0 = .ok (.aload_n 0, 1) := by decide +kernel
theorem d18_1 : decode jdk_42_method_147_code 1 = .ok (.invokevirtual 335, 3) := by decide +kernel
theorem d18_4 : decode jdk_42_method_147_code 4 = .ok (.iload_n 3, 1) := by decide +kernel
theorem d18_5 : decode jdk_42_method_147_code 5 = .ok (.if_icmp .ne 23, 3) := by decide +kernel
theorem d18_8 : decode jdk_42_method_147_code 8 = .ok (.aload_n 0, 1) := by decide +kernel
theorem d18_9 : decode jdk_42_method_147_code 9 = .ok (.getfield 9, 3) := by decide +kernel
theorem d18_12 : decode jdk_42_method_147_code 12 = .ok (.iconst 0, 1) := by decide +kernel
theorem d18_13 : decode jdk_42_method_147_code 13 = .ok (.aload_n 1, 1) := by decide +kernel
theorem d18_14 : decode jdk_42_method_147_code 14 = .ok (.iload_n 2, 1) := by decide +kernel
theorem d18_15 : decode jdk_42_method_147_code 15 = .ok (.iload_n 3, 1) := by decide +kernel
theorem d18_16 : decode jdk_42_method_147_code 16 = .ok (.ishl, 1) := by decide +kernel
theorem d18_17 : decode jdk_42_method_147_code 17 = .ok (.aload_n 0, 1) := by decide +kernel
theorem d18_18 : decode jdk_42_method_147_code 18 = .ok (.getfield 9, 3) := by decide +kernel
theorem d18_21 : decode jdk_42_method_147_code 21 = .ok (.arraylength, 1) := by decide +kernel
theorem d18_22 : decode jdk_42_method_147_code 22 = .ok (.invokestatic 212, 3) := by decide +kernel
theorem d18_25 : decode jdk_42_method_147_code 25 = .ok (.goto 18, 3) := by decide +kernel
theorem d18_43 : decode jdk_42_method_147_code 43 = .ok (.return_, 1) := by decide +kernel
def QGb03 (Z : State) (yB : Addr) (kB : ClassId) (c0 c1 c2 : Int32) (h0 : Heap) (n0 : Nat) (v : Option Value) (h : Heap) (L : List Loc) : Prop := v = none ∧ Fr n0 L ∧ Keep h0 h [yB] ∧ Arv Z h yB kB .byte (16 : Int32) [(.int c0), (.int c1), (.int c2), o0, o0, o0, o0, o0, o0, o0, o0, o0, o0, o0, o0, o0] (.int (0 : Int32))
set_option maxRecDepth 65536 in
set_option maxHeartbeats 40000000 in
theorem rmGb03 {l : Launch} {Z : State} {a0 : Array Value} (hw : Hw a0 Z) {ws : List Jvm.Cond} (yB : Addr) (kB : ClassId) (oS yS : Addr) (kS : ClassId) (c0 c1 c2 : Int32) {h0 : Heap} {n0 : Nat} (Z0 : n0 ≤ h0.size) {cs : Int32} {fv : Value} (Ev : Ev0 Z n0 h0 cs fv) (ES : Exa Z h0 oS "java/lang/String") (FcS : Fa Z h0 oS (.int (0 : Int32))) (FvS : Fb Z h0 oS (.ref yS)) (VS : Arv Z h0 yS kS .byte (3 : Int32) [(.int c0), (.int c1), (.int c2)] (.int (0 : Int32))) (VB : Arv Z h0 yB kB .byte (16 : Int32) [(.int (0 : Int32)), o0, o0, o0, o0, o0, o0, o0, o0, o0, o0, o0, o0, o0, o0, o0] (.int (0 : Int32))) (GB : n0 ≤ yB) : MF l Z own_y_230 jdk_42_method_147_code 4 none ws (⟨1, 0, 0, 18⟩ : Room) #[(.ref oS), (.ref yB), o0, o0] h0 (QGb03 Z yB kB c0 c1 c2 h0 n0) := by
  refine own_en (plainFor_of_name pn_2) (fun m => ef_231 m oS yB (0 : Int32) (0 : Int32)) fun p e s m below meth c s₁ bs hx hby hml hZ hown hnm X0 e0 hlk hrt pre0 => ?_
  have N0 := Fr.nil n0
  obtain ⟨_, T280, L280, X280, N280, ⟨_, rfl, -, e280⟩, st280⟩ := own_cV X0 hx hZ hown (own_k_26 hw) (rmCoder hw oS Z0 Ev FcS) (W := 0) (k := 0) (n := 0) (by decide) e0 N0 (fun _ _ _ h => h.2.1) ES (Ls := (Y14 oS yB 0 0)) (rest := []) hml.symm (lenOf pd_27 rfl) (Nat.le_of_eq rfl) (hb hby d18_1)
  obtain ⟨T281, X281, e281, st281⟩ := getF X280 hx hZ hown (host := "") (Or.inl (own_w hw 33 rfl)) Via.refl e280 FvS (g := (mkF m 9 (Y14 oS yB 0 0) [(.ref oS)])) rfl rfl (hb hby d18_9)
  obtain ⟨T282, X282, e282, st282⟩ := getF X281 hx hZ hown (host := "") (Or.inl (own_w hw 33 rfl)) Via.refl e281 FvS (g := (mkF m 18 (Y14 oS yB 0 0) [(.ref oS), o0, (.ref yB), o0, (.ref yS)])) rfl rfl (hb hby d18_18)
  obtain ⟨cl283, A283, q283, S283, M283, H283, J283⟩ := id VS
  obtain ⟨T284, h284, L284, X284, e284, N284, K284, U284, st284⟩ := cpA X282 hx hZ hown (own_w hw 104 rfl) (own_w hw 107 rfl) (own_w hw 105 rfl) (own_w hw 106 rfl) e282 (us := [(.int c0), (.int c1), (.int c2)]) VS VB (Or.inl ⟨rfl, rfl⟩) (by decide) (by decide) (by decide) (by decide) (by decide) rfl (Nat.le_of_ble_eq_true rfl) N280 GB (g := (mkF m 22 (Y14 oS yB 0 0) [(.int (3 : Int32)), o0, (.ref yB), o0, (.ref yS)])) rfl (by rw [hml]; rfl) rfl (hb hby d18_22) (by decide) (W := 0) (by show 2 * 0 + _ ≤ _; exact Nat.le_of_eq rfl) (by decide)
  have V284 : Arv Z h284 yB kB .byte (16 : Int32) [(.int c0), (.int c1), (.int c2), o0, o0, o0, o0, o0, o0, o0, o0, o0, o0, o0, o0, o0] (.int (0 : Int32)) := U284
  have c286 := (Keep.refl h0 [yB]).trans K284 (allS (Or.inl (List.mem_of_getElem? (i := 0) rfl)) all0)
  have pre289 : PQ p e below T284 (mkF m 43 (Y14 oS yB 0 0) []) bs := fun t kt => pre0 t (by
    refine XS.aloadN X0.here hx rfl (hb hby d18_0) rfl rfl ?_
    refine st280.trans ?_
    refine XS.iloadN X280.here hx rfl (hb hby d18_4) rfl ?_
    refine XS.icmpNo X280.here hx rfl (hb hby d18_5) rfl (teq (by decide : (0 : Int32) = (0 : Int32))).2 ?_
    refine XS.aloadN X280.here hx rfl (hb hby d18_8) rfl rfl ?_
    refine st281 _ ?_
    refine XS.iconst X281.here hx rfl (hb hby d18_12) ?_
    refine XS.aloadN X281.here hx rfl (hb hby d18_13) rfl rfl ?_
    refine XS.iloadN X281.here hx rfl (hb hby d18_14) rfl ?_
    refine XS.iloadN X281.here hx rfl (hb hby d18_15) rfl ?_
    refine XS.ishl X281.here hx rfl (hb hby d18_16) rfl ?_
    refine XS.aloadN X281.here hx rfl (hb hby d18_17) rfl rfl ?_
    refine st282 _ ?_
    refine X282.arraylength hx (by rw [e282]; exact A283.1) (State.isArrayOf_alike hZ.alike A283.2.1) (g := (mkF m 21 (Y14 oS yB 0 0) [(.ref yS), o0, (.ref yB), o0, (.ref yS)])) rfl rfl (hb hby d18_21) _ ?_
    rw [len_of S283 M283]
    refine st284 _ ?_
    refine XS.goto X284.here hx rfl (pc0 := 25) (pc' := 43) rfl (hb hby d18_25) (by decide) (by decide) ?_
    exact kt)
  have hQ : QGb03 Z yB kB c0 c1 c2 h0 n0 none h284 _ := ⟨rfl, N284, c286, V284⟩
  exact own_retV X284 hx hlk hrt (hb hby d18_43) pre289 (show QGb03 Z yB kB c0 c1 c2 h0 n0 _ _ _ from (by rw [e284]; exact hQ)) (by decide) (by decide)
abbrev own_y_249 : MethodName := (⟨"java/lang/AbstractStringBuilder", "putStringAt", "(ILjava/lang/String;)V"⟩ : MethodName)
theorem ef_250 (m : MethodId) (x0 : Addr) (x1 : Int32) (x2 : Addr) : entryFrame m #[(.ref x0), (.int x1), (.ref x2)] 3 = mkF m 0 #[.val (.ref x0), .val (.int x1), .val (.ref x2)] [] := by first | (simp [entryFrame, mkF, argsToLocals, Value.category]; done) | rfl
theorem d16_0 : decode jdk_68_method_73_code 0 = .ok (.aload_n 0, 1) := by decide +kernel
theorem d16_1 : decode jdk_68_method_73_code 1 = .ok (.aload_n 2, 1) := by decide +kernel
theorem d16_2 : decode jdk_68_method_73_code 2 = .ok (.invokevirtual 397, 3) := by decide +kernel
theorem pd_254 : parseMethodDescriptor "(Ljava/lang/String;)V" = some ⟨[(.object "java/lang/String")], none⟩ := by decide +kernel
theorem d16_5 : decode jdk_68_method_73_code 5 = .ok (.aload_n 2, 1) := by decide +kernel
theorem d16_6 : decode jdk_68_method_73_code 6 = .ok (.aload_n 0, 1) := by decide +kernel
theorem d16_7 : decode jdk_68_method_73_code 7 = .ok (.getfield 15, 3) := by decide +kernel
theorem d16_10 : decode jdk_68_method_73_code 10 = .ok (.iload_n 1, 1) := by decide +kernel
theorem d16_11 : decode jdk_68_method_73_code 11 = .ok (.aload_n 0, 1) := by decide +kernel
theorem d16_12 : decode jdk_68_method_73_code 12 = .ok (.getfield 22, 3) := by decide +kernel
theorem d16_15 : decode jdk_68_method_73_code 15 = .ok (.invokevirtual 399, 3) := by decide +kernel
theorem own_k_262 {Z : State} {a0 : Array Value} (hw : Hw a0 Z) : KV Z a0 "java/lang/AbstractStringBuilder" "java/lang/String" 399 own_y_230 jdk_42_method_147_code 4 none := ⟨(own_w hw 99 rfl), (own_w hw 100 rfl), (own_w hw 102 rfl), (own_w hw 101 rfl), (own_w hw 103 rfl), (own_w hw 8 rfl), by decide⟩
theorem pd_263 : parseMethodDescriptor "([BIB)V" = some ⟨[(.array .byte), .int, .byte], none⟩ := by decide +kernel
theorem d16_18 : decode jdk_68_method_73_code 18 = .ok (.return_, 1) := by decide +kernel
set_option maxRecDepth 65536 in
set_option maxHeartbeats 40000000 in
theorem rmPs03 {l : Launch} {Z : State} {a0 : Array Value} (hw : Hw a0 Z) {ws : List Jvm.Cond} (oB yB : Addr) (kB : ClassId) (oS yS : Addr) (kS : ClassId) (c0 c1 c2 : Int32) {h0 : Heap} {n0 : Nat} (Z0 : n0 ≤ h0.size) {cs : Int32} {fv : Value} (Ev : Ev0 Z n0 h0 cs fv) (EB : Exa Z h0 oB "java/lang/StringBuilder") (FvB : Fc Z h0 oB (.ref yB)) (FcB : Fd Z h0 oB (.int (0 : Int32))) (FnB : Fe Z h0 oB (.int (0 : Int32))) (VB : Arv Z h0 yB kB .byte (16 : Int32) [(.int (0 : Int32)), o0, o0, o0, o0, o0, o0, o0, o0, o0, o0, o0, o0, o0, o0, o0] (.int (0 : Int32))) (ES : Exa Z h0 oS "java/lang/String") (FcS : Fa Z h0 oS (.int (0 : Int32))) (FvS : Fb Z h0 oS (.ref yS)) (VS : Arv Z h0 yS kS .byte (3 : Int32) [(.int c0), (.int c1), (.int c2)] (.int (0 : Int32))) (GB : n0 ≤ yB) : MF l Z own_y_249 jdk_68_method_73_code 3 none ws (⟨2, 0, 0, 33⟩ : Room) #[(.ref oB), o0, (.ref oS)] h0 (QGb03 Z yB kB c0 c1 c2 h0 n0) := by
  refine own_en (plainFor_of_name pn_178) (fun m => ef_250 m oB (0 : Int32) oS) fun p e s m below meth c s₁ bs hx hby hml hZ hown hnm X0 e0 hlk hrt pre0 => ?_
  have N0 := Fr.nil n0
  obtain ⟨cq290, q290, q290'⟩ := EB.cell
  obtain ⟨_, _, ⟨T290, L290, k290, n290⟩, -, X290, ⟨Lc290, hQ290, l290, y290, z290⟩, st290⟩ := X0.privateBack hx (y := own_y_219) hown (mvT hZ (own_w hw 93 rfl)) (mvT hZ (own_w hw 94 rfl)) (own_selfsel (args := #[]) (mvT hZ (own_w hw 96 rfl)) (Cond.privateMethod_at (mvP hZ (own_w hw 95 rfl) (args := #[]))) (mvT hZ (own_w hw 94 rfl)) (by decide)) (Cond.privateMethod_at (mvP hZ (own_w hw 95 rfl) (args := #[]))) (mvT hZ (own_w hw 97 rfl)) (by decide) (backOf (W := 0) (rmInf hw oB oS Z0 Ev FcB ES FcS) hZ (own_w hw 97 rfl) (own_w hw 62 rfl) (by decide) (by decide)) (g := (mkF m 2 (Y15 oB 0 oS) [(.ref oS), (.ref oB)])) rfl (by rw [hml]; rfl) (Steps.refl _) (a := oB) (by rw [e0]; exact q290) q290' (argsL := [(.ref oS)]) (rest := []) (lenOf pd_254 rfl) rfl (by show 2 * 0 + _ ≤ _; exact Nat.le_of_eq rfl) (hb hby d16_2) (fun _ _ => ⟨rfl, e0, (by decide : 0 + 0 ≤ _), (by decide : 0 + 0 ≤ _)⟩)
  dsimp only [Pt.U, Pt.locs, Pt.cells, Pt.slots] at X290 l290 y290 z290 st290 hQ290
  subst y290 z290
  obtain ⟨rfl, Nq290, e290⟩ := hQ290
  have N290 : Fr n0 L290 := by rw [l290]; exact Fr.app N0 Nq290
  replace X290 := own_more (k := 0) (n := 0) X290 (Nat.le_of_ble_eq_true rfl) (Nat.le_of_ble_eq_true rfl)
  obtain ⟨T291, X291, e291, st291⟩ := getF X290 hx hZ hown (host := "") (Or.inl (own_w hw 66 rfl)) Via.refl e290 FvB (g := (mkF m 7 (Y15 oB 0 oS) [(.ref oB), (.ref oS)])) rfl rfl (hb hby d16_7)
  obtain ⟨T292, X292, e292, st292⟩ := getF X291 hx hZ hown (host := "") (Or.inl (own_w hw 68 rfl)) Via.refl e291 FcB (g := (mkF m 12 (Y15 oB 0 oS) [(.ref oB), o0, (.ref yB), (.ref oS)])) rfl rfl (hb hby d16_12)
  obtain ⟨_, T293, L293, X293, N293, ⟨_, rfl, -, K293, V293⟩, st293⟩ := own_cV X292 hx hZ hown (own_k_262 hw) (rmGb03 hw yB kB oS yS kS c0 c1 c2 Z0 Ev ES FcS FvS VS VB GB) (W := 0) (k := 0) (n := 0) (by decide) e292 N290 (fun _ _ _ h => h.2.1) ES (Ls := (Y15 oB 0 oS)) (rest := []) hml.symm (lenOf pd_263 rfl) (Nat.le_of_eq rfl) (hb hby d16_15)
  have pre294 : PQ p e below T293 (mkF m 18 (Y15 oB 0 oS) []) bs := fun t kt => pre0 t (by
    refine XS.aloadN X0.here hx rfl (hb hby d16_0) rfl rfl ?_
    refine XS.aloadN X0.here hx rfl (hb hby d16_1) rfl rfl ?_
    refine st290.trans ?_
    refine XS.aloadN X290.here hx rfl (hb hby d16_5) rfl rfl ?_
    refine XS.aloadN X290.here hx rfl (hb hby d16_6) rfl rfl ?_
    refine st291 _ ?_
    refine XS.iloadN X291.here hx rfl (hb hby d16_10) rfl ?_
    refine XS.aloadN X291.here hx rfl (hb hby d16_11) rfl rfl ?_
    refine st292 _ ?_
    refine st293.trans ?_
    exact kt)
  exact own_retV X293 hx hlk hrt (hb hby d16_18) pre294 (show QGb03 Z yB kB c0 c1 c2 h0 n0 _ _ _ from ⟨rfl, N293, K293, V293⟩) (by decide) (by decide)
abbrev own_y_265 : MethodName := (⟨"java/lang/AbstractStringBuilder", "append", "(Ljava/lang/String;)Ljava/lang/AbstractStringBuilder;"⟩ : MethodName)
theorem ef_266 (m : MethodId) (x0 : Addr) (x1 : Addr) : entryFrame m #[(.ref x0), (.ref x1)] 3 = mkF m 0 #[.val (.ref x0), .val (.ref x1), .unset] [] := by first | (simp [entryFrame, mkF, argsToLocals, Value.category]; done) | rfl
theorem d14_0 : decode jdk_68_method_22_code 0 = .ok (.aload_n 1, 1) := by decide +kernel
theorem d14_1 : decode jdk_68_method_22_code 1 = .ok (.ifnonnull 8, 3) := by decide +kernel
theorem d14_9 : decode jdk_68_method_22_code 9 = .ok (.aload_n 1, 1) := by decide +kernel
theorem d14_10 : decode jdk_68_method_22_code 10 = .ok (.invokevirtual 32, 3) := by decide +kernel
theorem own_k_271 {Z : State} {a0 : Array Value} (hw : Hw a0 Z) : KV Z a0 "java/lang/AbstractStringBuilder" "java/lang/String" 32 own_y_19 jdk_42_method_54_code 1 (some .int) := ⟨(own_w hw 80 rfl), (own_w hw 43 rfl), (own_w hw 45 rfl), (own_w hw 44 rfl), (own_w hw 46 rfl), (own_w hw 8 rfl), by decide⟩
theorem pd_272 : parseMethodDescriptor "()I" = some ⟨[], some .int⟩ := by decide +kernel
theorem d14_13 : decode jdk_68_method_22_code 13 = .ok (.istore_n 2, 1) := by decide +kernel
theorem d14_14 : decode jdk_68_method_22_code 14 = .ok (.aload_n 0, 1) := by decide +kernel
theorem d14_15 : decode jdk_68_method_22_code 15 = .ok (.aload_n 0, 1) := by decide +kernel
theorem d14_16 : decode jdk_68_method_22_code 16 = .ok (.getfield 79, 3) := by decide +kernel
theorem d14_19 : decode jdk_68_method_22_code 19 = .ok (.iload_n 2, 1) := by decide +kernel
theorem d14_20 : decode jdk_68_method_22_code 20 = .ok (.iadd, 1) := by decide +kernel
theorem d14_21 : decode jdk_68_method_22_code 21 = .ok (.invokevirtual 100, 3) := by decide +kernel
theorem d14_24 : decode jdk_68_method_22_code 24 = .ok (.aload_n 0, 1) := by decide +kernel
theorem d14_25 : decode jdk_68_method_22_code 25 = .ok (.aload_n 0, 1) := by decide +kernel
theorem d14_26 : decode jdk_68_method_22_code 26 = .ok (.getfield 79, 3) := by decide +kernel
theorem d14_29 : decode jdk_68_method_22_code 29 = .ok (.aload_n 1, 1) := by decide +kernel
theorem d14_30 : decode jdk_68_method_22_code 30 = .ok (.invokevirtual 208, 3) := by decide +kernel
theorem pd_285 : parseMethodDescriptor "(ILjava/lang/String;)V" = some ⟨[.int, (.object "java/lang/String")], none⟩ := by decide +kernel
theorem d14_33 : decode jdk_68_method_22_code 33 = .ok (.aload_n 0, 1) := by decide +kernel
theorem d14_34 : decode jdk_68_method_22_code 34 = .ok (.dup, 1) := by decide +kernel
theorem d14_35 : decode jdk_68_method_22_code 35 = .ok (.getfield 79, 3) := by decide +kernel
theorem d14_38 : decode jdk_68_method_22_code 38 = .ok (.iload_n 2, 1) := by decide +kernel
theorem d14_39 : decode jdk_68_method_22_code 39 = .ok (.iadd, 1) := by decide +kernel
theorem d14_40 : decode jdk_68_method_22_code 40 = .ok (.putfield 79, 3) := by decide +kernel
theorem own_sn_292 {Z : State} {a0 : Array Value} (hw : ∀ d ∈ tables_1, d.before a0 Z = true) : Jvm.RoadKit.slotOf Z "java/lang/AbstractStringBuilder" "value" "[B" ≠ Jvm.RoadKit.slotOf Z "java/lang/AbstractStringBuilder" "count" "I" := slot_ne (C := "java/lang/StringBuilder") (Or.inl (own_w hw 67 rfl)) (Or.inl (own_w hw 82 rfl)) (by decide) (t := (.array .byte)) (t' := .int) (by decide) (by decide)
theorem own_sn_293 {Z : State} {a0 : Array Value} (hw : ∀ d ∈ tables_1, d.before a0 Z = true) : Jvm.RoadKit.slotOf Z "java/lang/AbstractStringBuilder" "coder" "B" ≠ Jvm.RoadKit.slotOf Z "java/lang/AbstractStringBuilder" "count" "I" := slot_ne (C := "java/lang/StringBuilder") (Or.inl (own_w hw 69 rfl)) (Or.inl (own_w hw 82 rfl)) (by decide) (t := .byte) (t' := .int) (by decide) (by decide)
theorem d14_43 : decode jdk_68_method_22_code 43 = .ok (.aload_n 0, 1) := by decide +kernel
theorem d14_44 : decode jdk_68_method_22_code 44 = .ok (.areturn, 1) := by decide +kernel
def QAp03 (Z : State) (oB yB : Addr) (kB : ClassId) (c0 c1 c2 : Int32) (h0 : Heap) (n0 : Nat) (v : Option Value) (h : Heap) (L : List Loc) : Prop := v = some (.ref oB) ∧ Fr n0 L ∧ Keep h0 h [oB, yB] ∧ Fc Z h oB (.ref yB) ∧ Fd Z h oB (.int (0 : Int32)) ∧ Fe Z h oB (.int (3 : Int32)) ∧ Arv Z h yB kB .byte (16 : Int32) [(.int c0), (.int c1), (.int c2), o0, o0, o0, o0, o0, o0, o0, o0, o0, o0, o0, o0, o0] (.int (0 : Int32))
set_option maxRecDepth 65536 in
set_option maxHeartbeats 40000000 in
theorem rmAp03 {l : Launch} {Z : State} {a0 : Array Value} (hw : Hw a0 Z) {ws : List Jvm.Cond} (oB yB : Addr) (kB : ClassId) (oS yS : Addr) (kS : ClassId) (c0 c1 c2 : Int32) {h0 : Heap} {n0 : Nat} (Z0 : n0 ≤ h0.size) {cs : Int32} {fv : Value} (Ev : Ev0 Z n0 h0 cs fv) (EB : Exa Z h0 oB "java/lang/StringBuilder") (FvB : Fc Z h0 oB (.ref yB)) (FcB : Fd Z h0 oB (.int (0 : Int32))) (FnB : Fe Z h0 oB (.int (0 : Int32))) (VB : Arv Z h0 yB kB .byte (16 : Int32) [(.int (0 : Int32)), o0, o0, o0, o0, o0, o0, o0, o0, o0, o0, o0, o0, o0, o0, o0] (.int (0 : Int32))) (ES : Exa Z h0 oS "java/lang/String") (FcS : Fa Z h0 oS (.int (0 : Int32))) (FvS : Fb Z h0 oS (.ref yS)) (VS : Arv Z h0 yS kS .byte (3 : Int32) [(.int c0), (.int c1), (.int c2)] (.int (0 : Int32))) (GB : n0 ≤ oB) (GY : n0 ≤ yB) (hne : yB ≠ oB) : MF l Z own_y_265 jdk_68_method_22_code 3 (some (.object "java/lang/AbstractStringBuilder")) ws (⟨3, 0, 0, 47⟩ : Room) #[(.ref oB), (.ref oS)] h0 (QAp03 Z oB yB kB c0 c1 c2 h0 n0) := by
  refine own_en (plainFor_of_name pn_178) (fun m => ef_266 m oB oS) fun p e s m below meth c s₁ bs hx hby hml hZ hown hnm X0 e0 hlk hrt pre0 => ?_
  have N0 := Fr.nil n0
  obtain ⟨_, T295, L295, X295, N295, ⟨_, rfl, -, e295⟩, st295⟩ := own_cV X0 hx hZ hown (own_k_271 hw) (rmLen3 hw oS yS kS c0 c1 c2 Z0 Ev ES FcS FvS VS) (W := 0) (k := 0) (n := 0) (by decide) e0 N0 (fun _ _ _ h => h.2.1) ES (Ls := (Y16 oB oS)) (rest := []) hml.symm (lenOf pd_272 rfl) (Nat.le_of_eq rfl) (hb hby d14_10)
  obtain ⟨T296, X296, e296, st296⟩ := getF X295 hx hZ hown (host := "") (Or.inl (own_w hw 81 rfl)) Via.refl e295 FnB (g := (mkF m 16 (Y17 oB oS 3) [(.ref oB), (.ref oB)])) rfl rfl (hb hby d14_16)
  obtain ⟨cq297, q297, q297'⟩ := EB.cell
  obtain ⟨_, _, ⟨T297, L297, k297, n297⟩, -, X297, ⟨Lc297, hQ297, l297, y297, z297⟩, st297⟩ := X296.privateBack hx (y := own_y_205) hown (mvT hZ (own_w hw 83 rfl)) (mvT hZ (own_w hw 84 rfl)) (own_selfsel (args := #[]) (mvT hZ (own_w hw 86 rfl)) (Cond.privateMethod_at (mvP hZ (own_w hw 85 rfl) (args := #[]))) (mvT hZ (own_w hw 84 rfl)) (by decide)) (Cond.privateMethod_at (mvP hZ (own_w hw 85 rfl) (args := #[]))) (mvT hZ (own_w hw 87 rfl)) (by decide) (backOf (W := 0) (rmEns3 hw oB yB kB [(.int (0 : Int32)), o0, o0, o0, o0, o0, o0, o0, o0, o0, o0, o0, o0, o0, o0, o0] Z0 FvB FcB VB) hZ (own_w hw 87 rfl) (own_w hw 62 rfl) (by decide) (by decide)) (g := (mkF m 21 (Y17 oB oS 3) [(.int (3 : Int32)), (.ref oB)])) rfl (by rw [hml]; rfl) (Steps.refl _) (a := oB) (by rw [e296]; exact q297) q297' (argsL := [(.int (3 : Int32))]) (rest := []) (lenOf pd_203 rfl) rfl (by show 2 * 0 + _ ≤ _; exact Nat.le_of_eq rfl) (hb hby d14_21) (fun _ _ => ⟨rfl, e296, (by decide : 0 + 0 ≤ _), (by decide : 0 + 0 ≤ _)⟩)
  dsimp only [Pt.U, Pt.locs, Pt.cells, Pt.slots] at X297 l297 y297 z297 st297 hQ297
  subst y297 z297
  obtain ⟨rfl, Nq297, e297⟩ := hQ297
  have N297 : Fr n0 L297 := by rw [l297]; exact Fr.app N295 Nq297
  replace X297 := own_more (k := 0) (n := 0) X297 (Nat.le_of_ble_eq_true rfl) (Nat.le_of_ble_eq_true rfl)
  obtain ⟨T298, X298, e298, st298⟩ := getF X297 hx hZ hown (host := "") (Or.inl (own_w hw 81 rfl)) Via.refl e297 FnB (g := (mkF m 26 (Y17 oB oS 3) [(.ref oB), (.ref oB)])) rfl rfl (hb hby d14_26)
  obtain ⟨cq299, q299, q299'⟩ := EB.cell
  obtain ⟨_, _, ⟨T299, L299, k299, n299⟩, -, X299, ⟨Lc299, hQ299, l299, y299, z299⟩, st299⟩ := X298.privateBack hx (y := own_y_249) hown (mvT hZ (own_w hw 88 rfl)) (mvT hZ (own_w hw 89 rfl)) (own_selfsel (args := #[]) (mvT hZ (own_w hw 91 rfl)) (Cond.privateMethod_at (mvP hZ (own_w hw 90 rfl) (args := #[]))) (mvT hZ (own_w hw 89 rfl)) (by decide)) (Cond.privateMethod_at (mvP hZ (own_w hw 90 rfl) (args := #[]))) (mvT hZ (own_w hw 92 rfl)) (by decide) (backOf (W := 0) (rmPs03 hw oB yB kB oS yS kS c0 c1 c2 Z0 Ev EB FvB FcB FnB VB ES FcS FvS VS GY) hZ (own_w hw 92 rfl) (own_w hw 62 rfl) (by decide) (by decide)) (g := (mkF m 30 (Y17 oB oS 3) [(.ref oS), o0, (.ref oB)])) rfl (by rw [hml]; rfl) (Steps.refl _) (a := oB) (by rw [e298]; exact q299) q299' (argsL := [(.int (0 : Int32)), (.ref oS)]) (rest := []) (lenOf pd_285 rfl) rfl (by show 2 * 0 + _ ≤ _; exact Nat.le_of_eq rfl) (hb hby d14_30) (fun _ _ => ⟨rfl, e298, (by decide : 0 + 0 ≤ _), (by decide : 0 + 0 ≤ _)⟩)
  dsimp only [Pt.U, Pt.locs, Pt.cells, Pt.slots] at X299 l299 y299 z299 st299 hQ299
  subst y299 z299
  obtain ⟨rfl, Nq299, K299, V299⟩ := hQ299
  have N299 : Fr n0 L299 := by rw [l299]; exact Fr.app N297 Nq299
  replace X299 := own_more (k := 0) (n := 0) X299 (Nat.le_of_ble_eq_true rfl) (Nat.le_of_ble_eq_true rfl)
  have c301 := (Keep.refl h0 [oB, yB]).trans K299 (allS (Or.inl (List.mem_of_getElem? (i := 1) rfl)) all0)
  have c303 := EB.keep K299
  have c304 := FvB.keep K299 (ninS (Ne.symm hne) nin0)
  have c305 := FcB.keep K299 (ninS (Ne.symm hne) nin0)
  have c306 := FnB.keep K299 (ninS (Ne.symm hne) nin0)
  obtain ⟨T308, X308, e308, st308⟩ := getF X299 hx hZ hown (host := "") (Or.inl (own_w hw 81 rfl)) Via.refl rfl c306 (g := (mkF m 35 (Y17 oB oS 3) [(.ref oB), (.ref oB)])) rfl rfl (hb hby d14_35)
  obtain ⟨T309, h309, X309, e309, W309, st309⟩ := putF X308 hx hZ hown (host := "") (Or.inl (own_w hw 81 rfl)) Via.refl e308 c306 c303 (Or.inl (own_w hw 82 rfl)) (own_w hw 53 rfl) (ty := .int) (by decide) rfl rfl (g := (mkF m 40 (Y17 oB oS 3) [(.int (3 : Int32)), (.ref oB)])) rfl rfl (hb hby d14_40)
  have Fw309 := c306.same W309
  have N309 := Fr.snoc X309 N299 GB
  have c311 := c301.wr W309 (Or.inl (List.mem_of_getElem? (i := 0) rfl))
  have c314 := c304.other W309 (Or.inr (own_sn_292 hw))
  have c315 := c305.other W309 (Or.inr (own_sn_293 hw))
  have c317 := V299.other W309 hne
  have pre318 : PQ p e below T309 (mkF m 44 (Y17 oB oS 3) [(.ref oB)]) bs := fun t kt => pre0 t (by
    refine XS.aloadN X0.here hx rfl (hb hby d14_0) rfl rfl ?_
    refine XS.ifnonnullYes X0.here hx rfl (pc0 := 1) (pc' := 9) rfl (hb hby d14_1) rfl (by decide) (by decide) ?_
    refine XS.aloadN X0.here hx rfl (hb hby d14_9) rfl rfl ?_
    refine st295.trans ?_
    refine XS.istoreN X295.here hx rfl (hb hby d14_13) rfl (l' := (Y17 oB oS 3)) rfl ?_
    refine XS.aloadN X295.here hx rfl (hb hby d14_14) rfl rfl ?_
    refine XS.aloadN X295.here hx rfl (hb hby d14_15) rfl rfl ?_
    refine st296 _ ?_
    refine XS.iloadN X296.here hx rfl (hb hby d14_19) rfl ?_
    refine XS.iadd X296.here hx rfl (hb hby d14_20) rfl ?_
    refine st297.trans ?_
    refine XS.aloadN X297.here hx rfl (hb hby d14_24) rfl rfl ?_
    refine XS.aloadN X297.here hx rfl (hb hby d14_25) rfl rfl ?_
    refine st298 _ ?_
    refine XS.aloadN X298.here hx rfl (hb hby d14_29) rfl rfl ?_
    refine st299.trans ?_
    refine XS.aloadN X299.here hx rfl (hb hby d14_33) rfl rfl ?_
    refine XS.dup X299.here hx rfl (hb hby d14_34) rfl rfl ?_
    refine st308 _ ?_
    refine XS.iloadN X308.here hx rfl (hb hby d14_38) rfl ?_
    refine XS.iadd X308.here hx rfl (hb hby d14_39) rfl ?_
    refine st309 _ ?_
    refine XS.aloadN X309.here hx rfl (hb hby d14_43) rfl rfl ?_
    exact kt)
  have hQ : QAp03 Z oB yB kB c0 c1 c2 h0 n0 (some (.ref oB)) h309 _ := ⟨rfl, N309, c311, c314, c315, Fw309, c317⟩
  exact own_retA X309 hx hlk rfl hrt rfl (hb hby d14_44) pre318 (show QAp03 Z oB yB kB c0 c1 c2 h0 n0 _ _ _ from (by rw [e309]; exact hQ)) (by decide) (by decide)
abbrev own_y_296 : MethodName := (⟨"java/lang/StringBuilder", "append", "(Ljava/lang/String;)Ljava/lang/StringBuilder;"⟩ : MethodName)
theorem ef_297 (m : MethodId) (x0 : Addr) (x1 : Addr) : entryFrame m #[(.ref x0), (.ref x1)] 2 = mkF m 0 #[.val (.ref x0), .val (.ref x1)] [] := by first | (simp [entryFrame, mkF, argsToLocals, Value.category]; done) | rfl
theorem d13_0 : decode jdk_67_method_7_code 0 = .ok (.aload_n 0, 1) := by decide +kernel
theorem d13_1 : decode jdk_67_method_7_code 1 = .ok (.aload_n 1, 1) := by decide +kernel
theorem d13_2 : decode jdk_67_method_7_code 2 = .ok (.invokespecial 29, 3) := by decide +kernel
theorem pd_301 : parseMethodDescriptor "(Ljava/lang/String;)Ljava/lang/AbstractStringBuilder;" = some ⟨[(.object "java/lang/String")], some (.object "java/lang/AbstractStringBuilder")⟩ := by decide +kernel
theorem d13_5 : decode jdk_67_method_7_code 5 = .ok (.pop, 1) := by decide +kernel
theorem d13_6 : decode jdk_67_method_7_code 6 = .ok (.aload_n 0, 1) := by decide +kernel
theorem d13_7 : decode jdk_67_method_7_code 7 = .ok (.areturn, 1) := by decide +kernel
set_option maxRecDepth 65536 in
set_option maxHeartbeats 40000000 in
theorem rmAq03 {l : Launch} {Z : State} {a0 : Array Value} (hw : Hw a0 Z) {ws : List Jvm.Cond} (oB yB : Addr) (kB : ClassId) (oS yS : Addr) (kS : ClassId) (c0 c1 c2 : Int32) {h0 : Heap} {n0 : Nat} (Z0 : n0 ≤ h0.size) {cs : Int32} {fv : Value} (Ev : Ev0 Z n0 h0 cs fv) (EB : Exa Z h0 oB "java/lang/StringBuilder") (FvB : Fc Z h0 oB (.ref yB)) (FcB : Fd Z h0 oB (.int (0 : Int32))) (FnB : Fe Z h0 oB (.int (0 : Int32))) (VB : Arv Z h0 yB kB .byte (16 : Int32) [(.int (0 : Int32)), o0, o0, o0, o0, o0, o0, o0, o0, o0, o0, o0, o0, o0, o0, o0] (.int (0 : Int32))) (ES : Exa Z h0 oS "java/lang/String") (FcS : Fa Z h0 oS (.int (0 : Int32))) (FvS : Fb Z h0 oS (.ref yS)) (VS : Arv Z h0 yS kS .byte (3 : Int32) [(.int c0), (.int c1), (.int c2)] (.int (0 : Int32))) (GB : n0 ≤ oB) (GY : n0 ≤ yB) (hne : yB ≠ oB) : MF l Z own_y_296 jdk_67_method_7_code 2 (some (.object "java/lang/StringBuilder")) ws (⟨4, 0, 0, 61⟩ : Room) #[(.ref oB), (.ref oS)] h0 (QAp03 Z oB yB kB c0 c1 c2 h0 n0) := by
  refine own_en (plainFor_of_name pn_198) (fun m => ef_297 m oB oS) fun p e s m below meth c s₁ bs hx hby hml hZ hown hnm X0 e0 hlk hrt pre0 => ?_
  have N0 := Fr.nil n0
  obtain ⟨_, _, ⟨T319, L319, k319, n319⟩, -, X319, ⟨Lc319, hQ319, l319, y319, z319⟩, st319⟩ := superBack X0 hx hZ (y := own_y_265) hown (own_w hw 75 rfl) (own_same (y' := ⟨"java/lang/AbstractStringBuilder", "getValue", "()[B"⟩) (own_w hw 123 rfl) rfl (own_w hw 76 rfl) (by decide)) (own_w hw 76 rfl) (own_w hw 77 rfl) (by decide) (backOf (W := 0) (rmAp03 hw oB yB kB oS yS kS c0 c1 c2 Z0 Ev EB FvB FcB FnB VB ES FcS FvS VS GB GY hne) hZ (own_w hw 79 rfl) (own_w hw 62 rfl) (by decide) (by decide)) e0 (Ins.self EB) (g := (mkF m 2 (Y11 oB oS) [(.ref oS), (.ref oB)])) rfl (by rw [hml]; rfl) (own_w hw 79 rfl) (argsL := [(.ref oS)]) (rest := []) (lenOf pd_301 rfl) rfl (by show 2 * 0 + _ ≤ _; exact Nat.le_of_eq rfl) (hb hby d13_2) (fun _ _ => ⟨rfl, e0, (by decide : 0 + 0 ≤ _), (by decide : 0 + 0 ≤ _)⟩)
  dsimp only [Pt.U, Pt.locs, Pt.cells, Pt.slots] at X319 l319 y319 z319 st319 hQ319
  subst y319 z319
  obtain ⟨rfl, Nq319, K319, Fv319, Fc319, Fn319, V319⟩ := hQ319
  have N319 : Fr n0 L319 := by rw [l319]; exact Fr.app N0 Nq319
  replace X319 := own_more (k := 0) (n := 0) X319 (Nat.le_of_ble_eq_true rfl) (Nat.le_of_ble_eq_true rfl)
  have pre320 : PQ p e below T319 (mkF m 7 (Y11 oB oS) [(.ref oB)]) bs := fun t kt => pre0 t (by
    refine XS.aloadN X0.here hx rfl (hb hby d13_0) rfl rfl ?_
    refine XS.aloadN X0.here hx rfl (hb hby d13_1) rfl rfl ?_
    refine st319.trans ?_
    refine XS.pop X319.here hx rfl (hb hby d13_5) rfl rfl ?_
    refine XS.aloadN X319.here hx rfl (hb hby d13_6) rfl rfl ?_
    exact kt)
  exact own_retA X319 hx hlk rfl hrt rfl (hb hby d13_7) pre320 (show QAp03 Z oB yB kB c0 c1 c2 h0 n0 _ _ _ from ⟨rfl, N319, K319, Fv319, Fc319, Fn319, V319⟩) (by decide) (by decide)
def QGb30 (Z : State) (yB : Addr) (kB : ClassId) (d0 d1 d2 : Int32) (h0 : Heap) (n0 : Nat) (v : Option Value) (h : Heap) (L : List Loc) : Prop := v = none ∧ Fr n0 L ∧ Keep h0 h [yB] ∧ Arv Z h yB kB .byte (16 : Int32) [(.int d0), (.int d1), (.int d2), o0, o0, o0, o0, o0, o0, o0, o0, o0, o0, o0, o0, o0] (.int (0 : Int32))
set_option maxRecDepth 65536 in
set_option maxHeartbeats 40000000 in
theorem rmGb30 {l : Launch} {Z : State} {a0 : Array Value} (hw : Hw a0 Z) {ws : List Jvm.Cond} (yB : Addr) (kB : ClassId) (oS yS : Addr) (kS : ClassId) (d0 d1 d2 : Int32) {h0 : Heap} {n0 : Nat} (Z0 : n0 ≤ h0.size) {cs : Int32} {fv : Value} (Ev : Ev0 Z n0 h0 cs fv) (ES : Exa Z h0 oS "java/lang/String") (FcS : Fa Z h0 oS (.int (0 : Int32))) (FvS : Fb Z h0 oS (.ref yS)) (VS : Arv Z h0 yS kS .byte (0 : Int32) [] (.int (0 : Int32))) (VB : Arv Z h0 yB kB .byte (16 : Int32) [(.int d0), (.int d1), (.int d2), o0, o0, o0, o0, o0, o0, o0, o0, o0, o0, o0, o0, o0] (.int (0 : Int32))) (GB : n0 ≤ yB) : MF l Z own_y_230 jdk_42_method_147_code 4 none ws (⟨1, 0, 0, 18⟩ : Room) #[(.ref oS), (.ref yB), (.int (3 : Int32)), o0] h0 (QGb30 Z yB kB d0 d1 d2 h0 n0) := by
  refine own_en (plainFor_of_name pn_2) (fun m => ef_231 m oS yB (3 : Int32) (0 : Int32)) fun p e s m below meth c s₁ bs hx hby hml hZ hown hnm X0 e0 hlk hrt pre0 => ?_
  have N0 := Fr.nil n0
  obtain ⟨_, T321, L321, X321, N321, ⟨_, rfl, -, e321⟩, st321⟩ := own_cV X0 hx hZ hown (own_k_26 hw) (rmCoder hw oS Z0 Ev FcS) (W := 0) (k := 0) (n := 0) (by decide) e0 N0 (fun _ _ _ h => h.2.1) ES (Ls := (Y14 oS yB 3 0)) (rest := []) hml.symm (lenOf pd_27 rfl) (Nat.le_of_eq rfl) (hb hby d18_1)
  obtain ⟨T322, X322, e322, st322⟩ := getF X321 hx hZ hown (host := "") (Or.inl (own_w hw 33 rfl)) Via.refl e321 FvS (g := (mkF m 9 (Y14 oS yB 3 0) [(.ref oS)])) rfl rfl (hb hby d18_9)
  obtain ⟨T323, X323, e323, st323⟩ := getF X322 hx hZ hown (host := "") (Or.inl (own_w hw 33 rfl)) Via.refl e322 FvS (g := (mkF m 18 (Y14 oS yB 3 0) [(.ref oS), (.int (3 : Int32)), (.ref yB), o0, (.ref yS)])) rfl rfl (hb hby d18_18)
  obtain ⟨cl324, A324, q324, S324, M324, H324, J324⟩ := id VS
  obtain ⟨T325, h325, L325, X325, e325, N325, K325, U325, st325⟩ := cpA X323 hx hZ hown (own_w hw 104 rfl) (own_w hw 107 rfl) (own_w hw 105 rfl) (own_w hw 106 rfl) e323 (us := []) VS VB (Or.inl ⟨rfl, rfl⟩) (by decide) (by decide) (by decide) (by decide) (by decide) rfl (Nat.le_of_ble_eq_true rfl) N321 GB (g := (mkF m 22 (Y14 oS yB 3 0) [(.int (0 : Int32)), (.int (3 : Int32)), (.ref yB), o0, (.ref yS)])) rfl (by rw [hml]; rfl) rfl (hb hby d18_22) (by decide) (W := 0) (by show 2 * 0 + _ ≤ _; exact Nat.le_of_eq rfl) (by decide)
  have V325 : Arv Z h325 yB kB .byte (16 : Int32) [(.int d0), (.int d1), (.int d2), o0, o0, o0, o0, o0, o0, o0, o0, o0, o0, o0, o0, o0] (.int (0 : Int32)) := U325
  have c327 := (Keep.refl h0 [yB]).trans K325 (allS (Or.inl (List.mem_of_getElem? (i := 0) rfl)) all0)
  have pre330 : PQ p e below T325 (mkF m 43 (Y14 oS yB 3 0) []) bs := fun t kt => pre0 t (by
    refine XS.aloadN X0.here hx rfl (hb hby d18_0) rfl rfl ?_
    refine st321.trans ?_
    refine XS.iloadN X321.here hx rfl (hb hby d18_4) rfl ?_
    refine XS.icmpNo X321.here hx rfl (hb hby d18_5) rfl (teq (by decide : (0 : Int32) = (0 : Int32))).2 ?_
    refine XS.aloadN X321.here hx rfl (hb hby d18_8) rfl rfl ?_
    refine st322 _ ?_
    refine XS.iconst X322.here hx rfl (hb hby d18_12) ?_
    refine XS.aloadN X322.here hx rfl (hb hby d18_13) rfl rfl ?_
    refine XS.iloadN X322.here hx rfl (hb hby d18_14) rfl ?_
    refine XS.iloadN X322.here hx rfl (hb hby d18_15) rfl ?_
    refine XS.ishl X322.here hx rfl (hb hby d18_16) rfl ?_
    refine XS.aloadN X322.here hx rfl (hb hby d18_17) rfl rfl ?_
    refine st323 _ ?_
    refine X323.arraylength hx (by rw [e323]; exact A324.1) (State.isArrayOf_alike hZ.alike A324.2.1) (g := (mkF m 21 (Y14 oS yB 3 0) [(.ref yS), (.int (3 : Int32)), (.ref yB), o0, (.ref yS)])) rfl rfl (hb hby d18_21) _ ?_
    rw [len_of S324 M324]
    refine st325 _ ?_
    refine XS.goto X325.here hx rfl (pc0 := 25) (pc' := 43) rfl (hb hby d18_25) (by decide) (by decide) ?_
    exact kt)
  have hQ : QGb30 Z yB kB d0 d1 d2 h0 n0 none h325 _ := ⟨rfl, N325, c327, V325⟩
  exact own_retV X325 hx hlk hrt (hb hby d18_43) pre330 (show QGb30 Z yB kB d0 d1 d2 h0 n0 _ _ _ from (by rw [e325]; exact hQ)) (by decide) (by decide)
set_option maxRecDepth 65536 in
set_option maxHeartbeats 40000000 in
theorem rmPs30 {l : Launch} {Z : State} {a0 : Array Value} (hw : Hw a0 Z) {ws : List Jvm.Cond} (oB yB : Addr) (kB : ClassId) (oS yS : Addr) (kS : ClassId) (d0 d1 d2 : Int32) {h0 : Heap} {n0 : Nat} (Z0 : n0 ≤ h0.size) {cs : Int32} {fv : Value} (Ev : Ev0 Z n0 h0 cs fv) (EB : Exa Z h0 oB "java/lang/StringBuilder") (FvB : Fc Z h0 oB (.ref yB)) (FcB : Fd Z h0 oB (.int (0 : Int32))) (FnB : Fe Z h0 oB (.int (3 : Int32))) (VB : Arv Z h0 yB kB .byte (16 : Int32) [(.int d0), (.int d1), (.int d2), o0, o0, o0, o0, o0, o0, o0, o0, o0, o0, o0, o0, o0] (.int (0 : Int32))) (ES : Exa Z h0 oS "java/lang/String") (FcS : Fa Z h0 oS (.int (0 : Int32))) (FvS : Fb Z h0 oS (.ref yS)) (VS : Arv Z h0 yS kS .byte (0 : Int32) [] (.int (0 : Int32))) (GB : n0 ≤ yB) : MF l Z own_y_249 jdk_68_method_73_code 3 none ws (⟨2, 0, 0, 33⟩ : Room) #[(.ref oB), (.int (3 : Int32)), (.ref oS)] h0 (QGb30 Z yB kB d0 d1 d2 h0 n0) := by
  refine own_en (plainFor_of_name pn_178) (fun m => ef_250 m oB (3 : Int32) oS) fun p e s m below meth c s₁ bs hx hby hml hZ hown hnm X0 e0 hlk hrt pre0 => ?_
  have N0 := Fr.nil n0
  obtain ⟨cq331, q331, q331'⟩ := EB.cell
  obtain ⟨_, _, ⟨T331, L331, k331, n331⟩, -, X331, ⟨Lc331, hQ331, l331, y331, z331⟩, st331⟩ := X0.privateBack hx (y := own_y_219) hown (mvT hZ (own_w hw 93 rfl)) (mvT hZ (own_w hw 94 rfl)) (own_selfsel (args := #[]) (mvT hZ (own_w hw 96 rfl)) (Cond.privateMethod_at (mvP hZ (own_w hw 95 rfl) (args := #[]))) (mvT hZ (own_w hw 94 rfl)) (by decide)) (Cond.privateMethod_at (mvP hZ (own_w hw 95 rfl) (args := #[]))) (mvT hZ (own_w hw 97 rfl)) (by decide) (backOf (W := 0) (rmInf hw oB oS Z0 Ev FcB ES FcS) hZ (own_w hw 97 rfl) (own_w hw 62 rfl) (by decide) (by decide)) (g := (mkF m 2 (Y15 oB 3 oS) [(.ref oS), (.ref oB)])) rfl (by rw [hml]; rfl) (Steps.refl _) (a := oB) (by rw [e0]; exact q331) q331' (argsL := [(.ref oS)]) (rest := []) (lenOf pd_254 rfl) rfl (by show 2 * 0 + _ ≤ _; exact Nat.le_of_eq rfl) (hb hby d16_2) (fun _ _ => ⟨rfl, e0, (by decide : 0 + 0 ≤ _), (by decide : 0 + 0 ≤ _)⟩)
  dsimp only [Pt.U, Pt.locs, Pt.cells, Pt.slots] at X331 l331 y331 z331 st331 hQ331
  subst y331 z331
  obtain ⟨rfl, Nq331, e331⟩ := hQ331
  have N331 : Fr n0 L331 := by rw [l331]; exact Fr.app N0 Nq331
  replace X331 := own_more (k := 0) (n := 0) X331 (Nat.le_of_ble_eq_true rfl) (Nat.le_of_ble_eq_true rfl)
  obtain ⟨T332, X332, e332, st332⟩ := getF X331 hx hZ hown (host := "") (Or.inl (own_w hw 66 rfl)) Via.refl e331 FvB (g := (mkF m 7 (Y15 oB 3 oS) [(.ref oB), (.ref oS)])) rfl rfl (hb hby d16_7)
  obtain ⟨T333, X333, e333, st333⟩ := getF X332 hx hZ hown (host := "") (Or.inl (own_w hw 68 rfl)) Via.refl e332 FcB (g := (mkF m 12 (Y15 oB 3 oS) [(.ref oB), (.int (3 : Int32)), (.ref yB), (.ref oS)])) rfl rfl (hb hby d16_12)
  obtain ⟨_, T334, L334, X334, N334, ⟨_, rfl, -, K334, V334⟩, st334⟩ := own_cV X333 hx hZ hown (own_k_262 hw) (rmGb30 hw yB kB oS yS kS d0 d1 d2 Z0 Ev ES FcS FvS VS VB GB) (W := 0) (k := 0) (n := 0) (by decide) e333 N331 (fun _ _ _ h => h.2.1) ES (Ls := (Y15 oB 3 oS)) (rest := []) hml.symm (lenOf pd_263 rfl) (Nat.le_of_eq rfl) (hb hby d16_15)
  have pre335 : PQ p e below T334 (mkF m 18 (Y15 oB 3 oS) []) bs := fun t kt => pre0 t (by
    refine XS.aloadN X0.here hx rfl (hb hby d16_0) rfl rfl ?_
    refine XS.aloadN X0.here hx rfl (hb hby d16_1) rfl rfl ?_
    refine st331.trans ?_
    refine XS.aloadN X331.here hx rfl (hb hby d16_5) rfl rfl ?_
    refine XS.aloadN X331.here hx rfl (hb hby d16_6) rfl rfl ?_
    refine st332 _ ?_
    refine XS.iloadN X332.here hx rfl (hb hby d16_10) rfl ?_
    refine XS.aloadN X332.here hx rfl (hb hby d16_11) rfl rfl ?_
    refine st333 _ ?_
    refine st334.trans ?_
    exact kt)
  exact own_retV X334 hx hlk hrt (hb hby d16_18) pre335 (show QGb30 Z yB kB d0 d1 d2 h0 n0 _ _ _ from ⟨rfl, N334, K334, V334⟩) (by decide) (by decide)
def QAp30 (Z : State) (oB yB : Addr) (kB : ClassId) (d0 d1 d2 : Int32) (h0 : Heap) (n0 : Nat) (v : Option Value) (h : Heap) (L : List Loc) : Prop := v = some (.ref oB) ∧ Fr n0 L ∧ Keep h0 h [oB, yB] ∧ Fc Z h oB (.ref yB) ∧ Fd Z h oB (.int (0 : Int32)) ∧ Fe Z h oB (.int (3 : Int32)) ∧ Arv Z h yB kB .byte (16 : Int32) [(.int d0), (.int d1), (.int d2), o0, o0, o0, o0, o0, o0, o0, o0, o0, o0, o0, o0, o0] (.int (0 : Int32))
set_option maxRecDepth 65536 in
set_option maxHeartbeats 40000000 in
theorem rmAp30 {l : Launch} {Z : State} {a0 : Array Value} (hw : Hw a0 Z) {ws : List Jvm.Cond} (oB yB : Addr) (kB : ClassId) (oS yS : Addr) (kS : ClassId) (d0 d1 d2 : Int32) {h0 : Heap} {n0 : Nat} (Z0 : n0 ≤ h0.size) {cs : Int32} {fv : Value} (Ev : Ev0 Z n0 h0 cs fv) (EB : Exa Z h0 oB "java/lang/StringBuilder") (FvB : Fc Z h0 oB (.ref yB)) (FcB : Fd Z h0 oB (.int (0 : Int32))) (FnB : Fe Z h0 oB (.int (3 : Int32))) (VB : Arv Z h0 yB kB .byte (16 : Int32) [(.int d0), (.int d1), (.int d2), o0, o0, o0, o0, o0, o0, o0, o0, o0, o0, o0, o0, o0] (.int (0 : Int32))) (ES : Exa Z h0 oS "java/lang/String") (FcS : Fa Z h0 oS (.int (0 : Int32))) (FvS : Fb Z h0 oS (.ref yS)) (VS : Arv Z h0 yS kS .byte (0 : Int32) [] (.int (0 : Int32))) (GB : n0 ≤ oB) (GY : n0 ≤ yB) (hne : yB ≠ oB) : MF l Z own_y_265 jdk_68_method_22_code 3 (some (.object "java/lang/AbstractStringBuilder")) ws (⟨3, 0, 0, 47⟩ : Room) #[(.ref oB), (.ref oS)] h0 (QAp30 Z oB yB kB d0 d1 d2 h0 n0) := by
  refine own_en (plainFor_of_name pn_178) (fun m => ef_266 m oB oS) fun p e s m below meth c s₁ bs hx hby hml hZ hown hnm X0 e0 hlk hrt pre0 => ?_
  have N0 := Fr.nil n0
  obtain ⟨_, T336, L336, X336, N336, ⟨_, rfl, -, e336⟩, st336⟩ := own_cV X0 hx hZ hown (own_k_271 hw) (rmLen0 hw oS yS kS  Z0 Ev ES FcS FvS VS) (W := 0) (k := 0) (n := 0) (by decide) e0 N0 (fun _ _ _ h => h.2.1) ES (Ls := (Y16 oB oS)) (rest := []) hml.symm (lenOf pd_272 rfl) (Nat.le_of_eq rfl) (hb hby d14_10)
  obtain ⟨T337, X337, e337, st337⟩ := getF X336 hx hZ hown (host := "") (Or.inl (own_w hw 81 rfl)) Via.refl e336 FnB (g := (mkF m 16 (Y17 oB oS 0) [(.ref oB), (.ref oB)])) rfl rfl (hb hby d14_16)
  obtain ⟨cq338, q338, q338'⟩ := EB.cell
  obtain ⟨_, _, ⟨T338, L338, k338, n338⟩, -, X338, ⟨Lc338, hQ338, l338, y338, z338⟩, st338⟩ := X337.privateBack hx (y := own_y_205) hown (mvT hZ (own_w hw 83 rfl)) (mvT hZ (own_w hw 84 rfl)) (own_selfsel (args := #[]) (mvT hZ (own_w hw 86 rfl)) (Cond.privateMethod_at (mvP hZ (own_w hw 85 rfl) (args := #[]))) (mvT hZ (own_w hw 84 rfl)) (by decide)) (Cond.privateMethod_at (mvP hZ (own_w hw 85 rfl) (args := #[]))) (mvT hZ (own_w hw 87 rfl)) (by decide) (backOf (W := 0) (rmEns3 hw oB yB kB [(.int d0), (.int d1), (.int d2), o0, o0, o0, o0, o0, o0, o0, o0, o0, o0, o0, o0, o0] Z0 FvB FcB VB) hZ (own_w hw 87 rfl) (own_w hw 62 rfl) (by decide) (by decide)) (g := (mkF m 21 (Y17 oB oS 0) [(.int (3 : Int32)), (.ref oB)])) rfl (by rw [hml]; rfl) (Steps.refl _) (a := oB) (by rw [e337]; exact q338) q338' (argsL := [(.int (3 : Int32))]) (rest := []) (lenOf pd_203 rfl) rfl (by show 2 * 0 + _ ≤ _; exact Nat.le_of_eq rfl) (hb hby d14_21) (fun _ _ => ⟨rfl, e337, (by decide : 0 + 0 ≤ _), (by decide : 0 + 0 ≤ _)⟩)
  dsimp only [Pt.U, Pt.locs, Pt.cells, Pt.slots] at X338 l338 y338 z338 st338 hQ338
  subst y338 z338
  obtain ⟨rfl, Nq338, e338⟩ := hQ338
  have N338 : Fr n0 L338 := by rw [l338]; exact Fr.app N336 Nq338
  replace X338 := own_more (k := 0) (n := 0) X338 (Nat.le_of_ble_eq_true rfl) (Nat.le_of_ble_eq_true rfl)
  obtain ⟨T339, X339, e339, st339⟩ := getF X338 hx hZ hown (host := "") (Or.inl (own_w hw 81 rfl)) Via.refl e338 FnB (g := (mkF m 26 (Y17 oB oS 0) [(.ref oB), (.ref oB)])) rfl rfl (hb hby d14_26)
  obtain ⟨cq340, q340, q340'⟩ := EB.cell
  obtain ⟨_, _, ⟨T340, L340, k340, n340⟩, -, X340, ⟨Lc340, hQ340, l340, y340, z340⟩, st340⟩ := X339.privateBack hx (y := own_y_249) hown (mvT hZ (own_w hw 88 rfl)) (mvT hZ (own_w hw 89 rfl)) (own_selfsel (args := #[]) (mvT hZ (own_w hw 91 rfl)) (Cond.privateMethod_at (mvP hZ (own_w hw 90 rfl) (args := #[]))) (mvT hZ (own_w hw 89 rfl)) (by decide)) (Cond.privateMethod_at (mvP hZ (own_w hw 90 rfl) (args := #[]))) (mvT hZ (own_w hw 92 rfl)) (by decide) (backOf (W := 0) (rmPs30 hw oB yB kB oS yS kS d0 d1 d2 Z0 Ev EB FvB FcB FnB VB ES FcS FvS VS GY) hZ (own_w hw 92 rfl) (own_w hw 62 rfl) (by decide) (by decide)) (g := (mkF m 30 (Y17 oB oS 0) [(.ref oS), (.int (3 : Int32)), (.ref oB)])) rfl (by rw [hml]; rfl) (Steps.refl _) (a := oB) (by rw [e339]; exact q340) q340' (argsL := [(.int (3 : Int32)), (.ref oS)]) (rest := []) (lenOf pd_285 rfl) rfl (by show 2 * 0 + _ ≤ _; exact Nat.le_of_eq rfl) (hb hby d14_30) (fun _ _ => ⟨rfl, e339, (by decide : 0 + 0 ≤ _), (by decide : 0 + 0 ≤ _)⟩)
  dsimp only [Pt.U, Pt.locs, Pt.cells, Pt.slots] at X340 l340 y340 z340 st340 hQ340
  subst y340 z340
  obtain ⟨rfl, Nq340, K340, V340⟩ := hQ340
  have N340 : Fr n0 L340 := by rw [l340]; exact Fr.app N338 Nq340
  replace X340 := own_more (k := 0) (n := 0) X340 (Nat.le_of_ble_eq_true rfl) (Nat.le_of_ble_eq_true rfl)
  have c342 := (Keep.refl h0 [oB, yB]).trans K340 (allS (Or.inl (List.mem_of_getElem? (i := 1) rfl)) all0)
  have c344 := EB.keep K340
  have c345 := FvB.keep K340 (ninS (Ne.symm hne) nin0)
  have c346 := FcB.keep K340 (ninS (Ne.symm hne) nin0)
  have c347 := FnB.keep K340 (ninS (Ne.symm hne) nin0)
  obtain ⟨T349, X349, e349, st349⟩ := getF X340 hx hZ hown (host := "") (Or.inl (own_w hw 81 rfl)) Via.refl rfl c347 (g := (mkF m 35 (Y17 oB oS 0) [(.ref oB), (.ref oB)])) rfl rfl (hb hby d14_35)
  obtain ⟨T350, h350, X350, e350, W350, st350⟩ := putF X349 hx hZ hown (host := "") (Or.inl (own_w hw 81 rfl)) Via.refl e349 c347 c344 (Or.inl (own_w hw 82 rfl)) (own_w hw 53 rfl) (ty := .int) (by decide) rfl rfl (g := (mkF m 40 (Y17 oB oS 0) [(.int (3 : Int32)), (.ref oB)])) rfl rfl (hb hby d14_40)
  have Fw350 := c347.same W350
  have N350 := Fr.snoc X350 N340 GB
  have c352 := c342.wr W350 (Or.inl (List.mem_of_getElem? (i := 0) rfl))
  have c355 := c345.other W350 (Or.inr (own_sn_292 hw))
  have c356 := c346.other W350 (Or.inr (own_sn_293 hw))
  have c358 := V340.other W350 hne
  have pre359 : PQ p e below T350 (mkF m 44 (Y17 oB oS 0) [(.ref oB)]) bs := fun t kt => pre0 t (by
    refine XS.aloadN X0.here hx rfl (hb hby d14_0) rfl rfl ?_
    refine XS.ifnonnullYes X0.here hx rfl (pc0 := 1) (pc' := 9) rfl (hb hby d14_1) rfl (by decide) (by decide) ?_
    refine XS.aloadN X0.here hx rfl (hb hby d14_9) rfl rfl ?_
    refine st336.trans ?_
    refine XS.istoreN X336.here hx rfl (hb hby d14_13) rfl (l' := (Y17 oB oS 0)) rfl ?_
    refine XS.aloadN X336.here hx rfl (hb hby d14_14) rfl rfl ?_
    refine XS.aloadN X336.here hx rfl (hb hby d14_15) rfl rfl ?_
    refine st337 _ ?_
    refine XS.iloadN X337.here hx rfl (hb hby d14_19) rfl ?_
    refine XS.iadd X337.here hx rfl (hb hby d14_20) rfl ?_
    refine st338.trans ?_
    refine XS.aloadN X338.here hx rfl (hb hby d14_24) rfl rfl ?_
    refine XS.aloadN X338.here hx rfl (hb hby d14_25) rfl rfl ?_
    refine st339 _ ?_
    refine XS.aloadN X339.here hx rfl (hb hby d14_29) rfl rfl ?_
    refine st340.trans ?_
    refine XS.aloadN X340.here hx rfl (hb hby d14_33) rfl rfl ?_
    refine XS.dup X340.here hx rfl (hb hby d14_34) rfl rfl ?_
    refine st349 _ ?_
    refine XS.iloadN X349.here hx rfl (hb hby d14_38) rfl ?_
    refine XS.iadd X349.here hx rfl (hb hby d14_39) rfl ?_
    refine st350 _ ?_
    refine XS.aloadN X350.here hx rfl (hb hby d14_43) rfl rfl ?_
    exact kt)
  have hQ : QAp30 Z oB yB kB d0 d1 d2 h0 n0 (some (.ref oB)) h350 _ := ⟨rfl, N350, c352, c355, c356, Fw350, c358⟩
  exact own_retA X350 hx hlk rfl hrt rfl (hb hby d14_44) pre359 (show QAp30 Z oB yB kB d0 d1 d2 h0 n0 _ _ _ from (by rw [e350]; exact hQ)) (by decide) (by decide)
set_option maxRecDepth 65536 in
set_option maxHeartbeats 40000000 in
theorem rmAq30 {l : Launch} {Z : State} {a0 : Array Value} (hw : Hw a0 Z) {ws : List Jvm.Cond} (oB yB : Addr) (kB : ClassId) (oS yS : Addr) (kS : ClassId) (d0 d1 d2 : Int32) {h0 : Heap} {n0 : Nat} (Z0 : n0 ≤ h0.size) {cs : Int32} {fv : Value} (Ev : Ev0 Z n0 h0 cs fv) (EB : Exa Z h0 oB "java/lang/StringBuilder") (FvB : Fc Z h0 oB (.ref yB)) (FcB : Fd Z h0 oB (.int (0 : Int32))) (FnB : Fe Z h0 oB (.int (3 : Int32))) (VB : Arv Z h0 yB kB .byte (16 : Int32) [(.int d0), (.int d1), (.int d2), o0, o0, o0, o0, o0, o0, o0, o0, o0, o0, o0, o0, o0] (.int (0 : Int32))) (ES : Exa Z h0 oS "java/lang/String") (FcS : Fa Z h0 oS (.int (0 : Int32))) (FvS : Fb Z h0 oS (.ref yS)) (VS : Arv Z h0 yS kS .byte (0 : Int32) [] (.int (0 : Int32))) (GB : n0 ≤ oB) (GY : n0 ≤ yB) (hne : yB ≠ oB) : MF l Z own_y_296 jdk_67_method_7_code 2 (some (.object "java/lang/StringBuilder")) ws (⟨4, 0, 0, 61⟩ : Room) #[(.ref oB), (.ref oS)] h0 (QAp30 Z oB yB kB d0 d1 d2 h0 n0) := by
  refine own_en (plainFor_of_name pn_198) (fun m => ef_297 m oB oS) fun p e s m below meth c s₁ bs hx hby hml hZ hown hnm X0 e0 hlk hrt pre0 => ?_
  have N0 := Fr.nil n0
  obtain ⟨_, _, ⟨T360, L360, k360, n360⟩, -, X360, ⟨Lc360, hQ360, l360, y360, z360⟩, st360⟩ := superBack X0 hx hZ (y := own_y_265) hown (own_w hw 75 rfl) (own_same (y' := ⟨"java/lang/AbstractStringBuilder", "getValue", "()[B"⟩) (own_w hw 123 rfl) rfl (own_w hw 76 rfl) (by decide)) (own_w hw 76 rfl) (own_w hw 77 rfl) (by decide) (backOf (W := 0) (rmAp30 hw oB yB kB oS yS kS d0 d1 d2 Z0 Ev EB FvB FcB FnB VB ES FcS FvS VS GB GY hne) hZ (own_w hw 79 rfl) (own_w hw 62 rfl) (by decide) (by decide)) e0 (Ins.self EB) (g := (mkF m 2 (Y11 oB oS) [(.ref oS), (.ref oB)])) rfl (by rw [hml]; rfl) (own_w hw 79 rfl) (argsL := [(.ref oS)]) (rest := []) (lenOf pd_301 rfl) rfl (by show 2 * 0 + _ ≤ _; exact Nat.le_of_eq rfl) (hb hby d13_2) (fun _ _ => ⟨rfl, e0, (by decide : 0 + 0 ≤ _), (by decide : 0 + 0 ≤ _)⟩)
  dsimp only [Pt.U, Pt.locs, Pt.cells, Pt.slots] at X360 l360 y360 z360 st360 hQ360
  subst y360 z360
  obtain ⟨rfl, Nq360, K360, Fv360, Fc360, Fn360, V360⟩ := hQ360
  have N360 : Fr n0 L360 := by rw [l360]; exact Fr.app N0 Nq360
  replace X360 := own_more (k := 0) (n := 0) X360 (Nat.le_of_ble_eq_true rfl) (Nat.le_of_ble_eq_true rfl)
  have pre361 : PQ p e below T360 (mkF m 7 (Y11 oB oS) [(.ref oB)]) bs := fun t kt => pre0 t (by
    refine XS.aloadN X0.here hx rfl (hb hby d13_0) rfl rfl ?_
    refine XS.aloadN X0.here hx rfl (hb hby d13_1) rfl rfl ?_
    refine st360.trans ?_
    refine XS.pop X360.here hx rfl (hb hby d13_5) rfl rfl ?_
    refine XS.aloadN X360.here hx rfl (hb hby d13_6) rfl rfl ?_
    exact kt)
  exact own_retA X360 hx hlk rfl hrt rfl (hb hby d13_7) pre361 (show QAp30 Z oB yB kB d0 d1 d2 h0 n0 _ _ _ from ⟨rfl, N360, K360, Fv360, Fc360, Fn360, V360⟩) (by decide) (by decide)
def QGb31 (Z : State) (yB : Addr) (kB : ClassId) (d0 d1 d2 : Int32) (c0 : Int32) (h0 : Heap) (n0 : Nat) (v : Option Value) (h : Heap) (L : List Loc) : Prop := v = none ∧ Fr n0 L ∧ Keep h0 h [yB] ∧ Arv Z h yB kB .byte (16 : Int32) [(.int d0), (.int d1), (.int d2), (.int c0), o0, o0, o0, o0, o0, o0, o0, o0, o0, o0, o0, o0] (.int (0 : Int32))
set_option maxRecDepth 65536 in
set_option maxHeartbeats 40000000 in
theorem rmGb31 {l : Launch} {Z : State} {a0 : Array Value} (hw : Hw a0 Z) {ws : List Jvm.Cond} (yB : Addr) (kB : ClassId) (oS yS : Addr) (kS : ClassId) (d0 d1 d2 : Int32) (c0 : Int32) {h0 : Heap} {n0 : Nat} (Z0 : n0 ≤ h0.size) {cs : Int32} {fv : Value} (Ev : Ev0 Z n0 h0 cs fv) (ES : Exa Z h0 oS "java/lang/String") (FcS : Fa Z h0 oS (.int (0 : Int32))) (FvS : Fb Z h0 oS (.ref yS)) (VS : Arv Z h0 yS kS .byte (1 : Int32) [(.int c0)] (.int (0 : Int32))) (VB : Arv Z h0 yB kB .byte (16 : Int32) [(.int d0), (.int d1), (.int d2), o0, o0, o0, o0, o0, o0, o0, o0, o0, o0, o0, o0, o0] (.int (0 : Int32))) (GB : n0 ≤ yB) : MF l Z own_y_230 jdk_42_method_147_code 4 none ws (⟨1, 0, 0, 18⟩ : Room) #[(.ref oS), (.ref yB), (.int (3 : Int32)), o0] h0 (QGb31 Z yB kB d0 d1 d2 c0 h0 n0) := by
  refine own_en (plainFor_of_name pn_2) (fun m => ef_231 m oS yB (3 : Int32) (0 : Int32)) fun p e s m below meth c s₁ bs hx hby hml hZ hown hnm X0 e0 hlk hrt pre0 => ?_
  have N0 := Fr.nil n0
  obtain ⟨_, T362, L362, X362, N362, ⟨_, rfl, -, e362⟩, st362⟩ := own_cV X0 hx hZ hown (own_k_26 hw) (rmCoder hw oS Z0 Ev FcS) (W := 0) (k := 0) (n := 0) (by decide) e0 N0 (fun _ _ _ h => h.2.1) ES (Ls := (Y14 oS yB 3 0)) (rest := []) hml.symm (lenOf pd_27 rfl) (Nat.le_of_eq rfl) (hb hby d18_1)
  obtain ⟨T363, X363, e363, st363⟩ := getF X362 hx hZ hown (host := "") (Or.inl (own_w hw 33 rfl)) Via.refl e362 FvS (g := (mkF m 9 (Y14 oS yB 3 0) [(.ref oS)])) rfl rfl (hb hby d18_9)
  obtain ⟨T364, X364, e364, st364⟩ := getF X363 hx hZ hown (host := "") (Or.inl (own_w hw 33 rfl)) Via.refl e363 FvS (g := (mkF m 18 (Y14 oS yB 3 0) [(.ref oS), (.int (3 : Int32)), (.ref yB), o0, (.ref yS)])) rfl rfl (hb hby d18_18)
  obtain ⟨cl365, A365, q365, S365, M365, H365, J365⟩ := id VS
  obtain ⟨T366, h366, L366, X366, e366, N366, K366, U366, st366⟩ := cpA X364 hx hZ hown (own_w hw 104 rfl) (own_w hw 107 rfl) (own_w hw 105 rfl) (own_w hw 106 rfl) e364 (us := [(.int c0)]) VS VB (Or.inl ⟨rfl, rfl⟩) (by decide) (by decide) (by decide) (by decide) (by decide) rfl (Nat.le_of_ble_eq_true rfl) N362 GB (g := (mkF m 22 (Y14 oS yB 3 0) [(.int (1 : Int32)), (.int (3 : Int32)), (.ref yB), o0, (.ref yS)])) rfl (by rw [hml]; rfl) rfl (hb hby d18_22) (by decide) (W := 0) (by show 2 * 0 + _ ≤ _; exact Nat.le_of_eq rfl) (by decide)
  have V366 : Arv Z h366 yB kB .byte (16 : Int32) [(.int d0), (.int d1), (.int d2), (.int c0), o0, o0, o0, o0, o0, o0, o0, o0, o0, o0, o0, o0] (.int (0 : Int32)) := U366
  have c368 := (Keep.refl h0 [yB]).trans K366 (allS (Or.inl (List.mem_of_getElem? (i := 0) rfl)) all0)
  have pre371 : PQ p e below T366 (mkF m 43 (Y14 oS yB 3 0) []) bs := fun t kt => pre0 t (by
    refine XS.aloadN X0.here hx rfl (hb hby d18_0) rfl rfl ?_
    refine st362.trans ?_
    refine XS.iloadN X362.here hx rfl (hb hby d18_4) rfl ?_
    refine XS.icmpNo X362.here hx rfl (hb hby d18_5) rfl (teq (by decide : (0 : Int32) = (0 : Int32))).2 ?_
    refine XS.aloadN X362.here hx rfl (hb hby d18_8) rfl rfl ?_
    refine st363 _ ?_
    refine XS.iconst X363.here hx rfl (hb hby d18_12) ?_
    refine XS.aloadN X363.here hx rfl (hb hby d18_13) rfl rfl ?_
    refine XS.iloadN X363.here hx rfl (hb hby d18_14) rfl ?_
    refine XS.iloadN X363.here hx rfl (hb hby d18_15) rfl ?_
    refine XS.ishl X363.here hx rfl (hb hby d18_16) rfl ?_
    refine XS.aloadN X363.here hx rfl (hb hby d18_17) rfl rfl ?_
    refine st364 _ ?_
    refine X364.arraylength hx (by rw [e364]; exact A365.1) (State.isArrayOf_alike hZ.alike A365.2.1) (g := (mkF m 21 (Y14 oS yB 3 0) [(.ref yS), (.int (3 : Int32)), (.ref yB), o0, (.ref yS)])) rfl rfl (hb hby d18_21) _ ?_
    rw [len_of S365 M365]
    refine st366 _ ?_
    refine XS.goto X366.here hx rfl (pc0 := 25) (pc' := 43) rfl (hb hby d18_25) (by decide) (by decide) ?_
    exact kt)
  have hQ : QGb31 Z yB kB d0 d1 d2 c0 h0 n0 none h366 _ := ⟨rfl, N366, c368, V366⟩
  exact own_retV X366 hx hlk hrt (hb hby d18_43) pre371 (show QGb31 Z yB kB d0 d1 d2 c0 h0 n0 _ _ _ from (by rw [e366]; exact hQ)) (by decide) (by decide)
set_option maxRecDepth 65536 in
set_option maxHeartbeats 40000000 in
theorem rmPs31 {l : Launch} {Z : State} {a0 : Array Value} (hw : Hw a0 Z) {ws : List Jvm.Cond} (oB yB : Addr) (kB : ClassId) (oS yS : Addr) (kS : ClassId) (d0 d1 d2 : Int32) (c0 : Int32) {h0 : Heap} {n0 : Nat} (Z0 : n0 ≤ h0.size) {cs : Int32} {fv : Value} (Ev : Ev0 Z n0 h0 cs fv) (EB : Exa Z h0 oB "java/lang/StringBuilder") (FvB : Fc Z h0 oB (.ref yB)) (FcB : Fd Z h0 oB (.int (0 : Int32))) (FnB : Fe Z h0 oB (.int (3 : Int32))) (VB : Arv Z h0 yB kB .byte (16 : Int32) [(.int d0), (.int d1), (.int d2), o0, o0, o0, o0, o0, o0, o0, o0, o0, o0, o0, o0, o0] (.int (0 : Int32))) (ES : Exa Z h0 oS "java/lang/String") (FcS : Fa Z h0 oS (.int (0 : Int32))) (FvS : Fb Z h0 oS (.ref yS)) (VS : Arv Z h0 yS kS .byte (1 : Int32) [(.int c0)] (.int (0 : Int32))) (GB : n0 ≤ yB) : MF l Z own_y_249 jdk_68_method_73_code 3 none ws (⟨2, 0, 0, 33⟩ : Room) #[(.ref oB), (.int (3 : Int32)), (.ref oS)] h0 (QGb31 Z yB kB d0 d1 d2 c0 h0 n0) := by
  refine own_en (plainFor_of_name pn_178) (fun m => ef_250 m oB (3 : Int32) oS) fun p e s m below meth c s₁ bs hx hby hml hZ hown hnm X0 e0 hlk hrt pre0 => ?_
  have N0 := Fr.nil n0
  obtain ⟨cq372, q372, q372'⟩ := EB.cell
  obtain ⟨_, _, ⟨T372, L372, k372, n372⟩, -, X372, ⟨Lc372, hQ372, l372, y372, z372⟩, st372⟩ := X0.privateBack hx (y := own_y_219) hown (mvT hZ (own_w hw 93 rfl)) (mvT hZ (own_w hw 94 rfl)) (own_selfsel (args := #[]) (mvT hZ (own_w hw 96 rfl)) (Cond.privateMethod_at (mvP hZ (own_w hw 95 rfl) (args := #[]))) (mvT hZ (own_w hw 94 rfl)) (by decide)) (Cond.privateMethod_at (mvP hZ (own_w hw 95 rfl) (args := #[]))) (mvT hZ (own_w hw 97 rfl)) (by decide) (backOf (W := 0) (rmInf hw oB oS Z0 Ev FcB ES FcS) hZ (own_w hw 97 rfl) (own_w hw 62 rfl) (by decide) (by decide)) (g := (mkF m 2 (Y15 oB 3 oS) [(.ref oS), (.ref oB)])) rfl (by rw [hml]; rfl) (Steps.refl _) (a := oB) (by rw [e0]; exact q372) q372' (argsL := [(.ref oS)]) (rest := []) (lenOf pd_254 rfl) rfl (by show 2 * 0 + _ ≤ _; exact Nat.le_of_eq rfl) (hb hby d16_2) (fun _ _ => ⟨rfl, e0, (by decide : 0 + 0 ≤ _), (by decide : 0 + 0 ≤ _)⟩)
  dsimp only [Pt.U, Pt.locs, Pt.cells, Pt.slots] at X372 l372 y372 z372 st372 hQ372
  subst y372 z372
  obtain ⟨rfl, Nq372, e372⟩ := hQ372
  have N372 : Fr n0 L372 := by rw [l372]; exact Fr.app N0 Nq372
  replace X372 := own_more (k := 0) (n := 0) X372 (Nat.le_of_ble_eq_true rfl) (Nat.le_of_ble_eq_true rfl)
  obtain ⟨T373, X373, e373, st373⟩ := getF X372 hx hZ hown (host := "") (Or.inl (own_w hw 66 rfl)) Via.refl e372 FvB (g := (mkF m 7 (Y15 oB 3 oS) [(.ref oB), (.ref oS)])) rfl rfl (hb hby d16_7)
  obtain ⟨T374, X374, e374, st374⟩ := getF X373 hx hZ hown (host := "") (Or.inl (own_w hw 68 rfl)) Via.refl e373 FcB (g := (mkF m 12 (Y15 oB 3 oS) [(.ref oB), (.int (3 : Int32)), (.ref yB), (.ref oS)])) rfl rfl (hb hby d16_12)
  obtain ⟨_, T375, L375, X375, N375, ⟨_, rfl, -, K375, V375⟩, st375⟩ := own_cV X374 hx hZ hown (own_k_262 hw) (rmGb31 hw yB kB oS yS kS d0 d1 d2 c0 Z0 Ev ES FcS FvS VS VB GB) (W := 0) (k := 0) (n := 0) (by decide) e374 N372 (fun _ _ _ h => h.2.1) ES (Ls := (Y15 oB 3 oS)) (rest := []) hml.symm (lenOf pd_263 rfl) (Nat.le_of_eq rfl) (hb hby d16_15)
  have pre376 : PQ p e below T375 (mkF m 18 (Y15 oB 3 oS) []) bs := fun t kt => pre0 t (by
    refine XS.aloadN X0.here hx rfl (hb hby d16_0) rfl rfl ?_
    refine XS.aloadN X0.here hx rfl (hb hby d16_1) rfl rfl ?_
    refine st372.trans ?_
    refine XS.aloadN X372.here hx rfl (hb hby d16_5) rfl rfl ?_
    refine XS.aloadN X372.here hx rfl (hb hby d16_6) rfl rfl ?_
    refine st373 _ ?_
    refine XS.iloadN X373.here hx rfl (hb hby d16_10) rfl ?_
    refine XS.aloadN X373.here hx rfl (hb hby d16_11) rfl rfl ?_
    refine st374 _ ?_
    refine st375.trans ?_
    exact kt)
  exact own_retV X375 hx hlk hrt (hb hby d16_18) pre376 (show QGb31 Z yB kB d0 d1 d2 c0 h0 n0 _ _ _ from ⟨rfl, N375, K375, V375⟩) (by decide) (by decide)
def QAp31 (Z : State) (oB yB : Addr) (kB : ClassId) (d0 d1 d2 : Int32) (c0 : Int32) (h0 : Heap) (n0 : Nat) (v : Option Value) (h : Heap) (L : List Loc) : Prop := v = some (.ref oB) ∧ Fr n0 L ∧ Keep h0 h [oB, yB] ∧ Fc Z h oB (.ref yB) ∧ Fd Z h oB (.int (0 : Int32)) ∧ Fe Z h oB (.int (4 : Int32)) ∧ Arv Z h yB kB .byte (16 : Int32) [(.int d0), (.int d1), (.int d2), (.int c0), o0, o0, o0, o0, o0, o0, o0, o0, o0, o0, o0, o0] (.int (0 : Int32))
set_option maxRecDepth 65536 in
set_option maxHeartbeats 40000000 in
theorem rmAp31 {l : Launch} {Z : State} {a0 : Array Value} (hw : Hw a0 Z) {ws : List Jvm.Cond} (oB yB : Addr) (kB : ClassId) (oS yS : Addr) (kS : ClassId) (d0 d1 d2 : Int32) (c0 : Int32) {h0 : Heap} {n0 : Nat} (Z0 : n0 ≤ h0.size) {cs : Int32} {fv : Value} (Ev : Ev0 Z n0 h0 cs fv) (EB : Exa Z h0 oB "java/lang/StringBuilder") (FvB : Fc Z h0 oB (.ref yB)) (FcB : Fd Z h0 oB (.int (0 : Int32))) (FnB : Fe Z h0 oB (.int (3 : Int32))) (VB : Arv Z h0 yB kB .byte (16 : Int32) [(.int d0), (.int d1), (.int d2), o0, o0, o0, o0, o0, o0, o0, o0, o0, o0, o0, o0, o0] (.int (0 : Int32))) (ES : Exa Z h0 oS "java/lang/String") (FcS : Fa Z h0 oS (.int (0 : Int32))) (FvS : Fb Z h0 oS (.ref yS)) (VS : Arv Z h0 yS kS .byte (1 : Int32) [(.int c0)] (.int (0 : Int32))) (GB : n0 ≤ oB) (GY : n0 ≤ yB) (hne : yB ≠ oB) : MF l Z own_y_265 jdk_68_method_22_code 3 (some (.object "java/lang/AbstractStringBuilder")) ws (⟨3, 0, 0, 47⟩ : Room) #[(.ref oB), (.ref oS)] h0 (QAp31 Z oB yB kB d0 d1 d2 c0 h0 n0) := by
  refine own_en (plainFor_of_name pn_178) (fun m => ef_266 m oB oS) fun p e s m below meth c s₁ bs hx hby hml hZ hown hnm X0 e0 hlk hrt pre0 => ?_
  have N0 := Fr.nil n0
  obtain ⟨_, T377, L377, X377, N377, ⟨_, rfl, -, e377⟩, st377⟩ := own_cV X0 hx hZ hown (own_k_271 hw) (rmLen1 hw oS yS kS c0 Z0 Ev ES FcS FvS VS) (W := 0) (k := 0) (n := 0) (by decide) e0 N0 (fun _ _ _ h => h.2.1) ES (Ls := (Y16 oB oS)) (rest := []) hml.symm (lenOf pd_272 rfl) (Nat.le_of_eq rfl) (hb hby d14_10)
  obtain ⟨T378, X378, e378, st378⟩ := getF X377 hx hZ hown (host := "") (Or.inl (own_w hw 81 rfl)) Via.refl e377 FnB (g := (mkF m 16 (Y17 oB oS 1) [(.ref oB), (.ref oB)])) rfl rfl (hb hby d14_16)
  obtain ⟨cq379, q379, q379'⟩ := EB.cell
  obtain ⟨_, _, ⟨T379, L379, k379, n379⟩, -, X379, ⟨Lc379, hQ379, l379, y379, z379⟩, st379⟩ := X378.privateBack hx (y := own_y_205) hown (mvT hZ (own_w hw 83 rfl)) (mvT hZ (own_w hw 84 rfl)) (own_selfsel (args := #[]) (mvT hZ (own_w hw 86 rfl)) (Cond.privateMethod_at (mvP hZ (own_w hw 85 rfl) (args := #[]))) (mvT hZ (own_w hw 84 rfl)) (by decide)) (Cond.privateMethod_at (mvP hZ (own_w hw 85 rfl) (args := #[]))) (mvT hZ (own_w hw 87 rfl)) (by decide) (backOf (W := 0) (rmEns4 hw oB yB kB [(.int d0), (.int d1), (.int d2), o0, o0, o0, o0, o0, o0, o0, o0, o0, o0, o0, o0, o0] Z0 FvB FcB VB) hZ (own_w hw 87 rfl) (own_w hw 62 rfl) (by decide) (by decide)) (g := (mkF m 21 (Y17 oB oS 1) [(.int (4 : Int32)), (.ref oB)])) rfl (by rw [hml]; rfl) (Steps.refl _) (a := oB) (by rw [e378]; exact q379) q379' (argsL := [(.int (4 : Int32))]) (rest := []) (lenOf pd_203 rfl) rfl (by show 2 * 0 + _ ≤ _; exact Nat.le_of_eq rfl) (hb hby d14_21) (fun _ _ => ⟨rfl, e378, (by decide : 0 + 0 ≤ _), (by decide : 0 + 0 ≤ _)⟩)
  dsimp only [Pt.U, Pt.locs, Pt.cells, Pt.slots] at X379 l379 y379 z379 st379 hQ379
  subst y379 z379
  obtain ⟨rfl, Nq379, e379⟩ := hQ379
  have N379 : Fr n0 L379 := by rw [l379]; exact Fr.app N377 Nq379
  replace X379 := own_more (k := 0) (n := 0) X379 (Nat.le_of_ble_eq_true rfl) (Nat.le_of_ble_eq_true rfl)
  obtain ⟨T380, X380, e380, st380⟩ := getF X379 hx hZ hown (host := "") (Or.inl (own_w hw 81 rfl)) Via.refl e379 FnB (g := (mkF m 26 (Y17 oB oS 1) [(.ref oB), (.ref oB)])) rfl rfl (hb hby d14_26)
  obtain ⟨cq381, q381, q381'⟩ := EB.cell
  obtain ⟨_, _, ⟨T381, L381, k381, n381⟩, -, X381, ⟨Lc381, hQ381, l381, y381, z381⟩, st381⟩ := X380.privateBack hx (y := own_y_249) hown (mvT hZ (own_w hw 88 rfl)) (mvT hZ (own_w hw 89 rfl)) (own_selfsel (args := #[]) (mvT hZ (own_w hw 91 rfl)) (Cond.privateMethod_at (mvP hZ (own_w hw 90 rfl) (args := #[]))) (mvT hZ (own_w hw 89 rfl)) (by decide)) (Cond.privateMethod_at (mvP hZ (own_w hw 90 rfl) (args := #[]))) (mvT hZ (own_w hw 92 rfl)) (by decide) (backOf (W := 0) (rmPs31 hw oB yB kB oS yS kS d0 d1 d2 c0 Z0 Ev EB FvB FcB FnB VB ES FcS FvS VS GY) hZ (own_w hw 92 rfl) (own_w hw 62 rfl) (by decide) (by decide)) (g := (mkF m 30 (Y17 oB oS 1) [(.ref oS), (.int (3 : Int32)), (.ref oB)])) rfl (by rw [hml]; rfl) (Steps.refl _) (a := oB) (by rw [e380]; exact q381) q381' (argsL := [(.int (3 : Int32)), (.ref oS)]) (rest := []) (lenOf pd_285 rfl) rfl (by show 2 * 0 + _ ≤ _; exact Nat.le_of_eq rfl) (hb hby d14_30) (fun _ _ => ⟨rfl, e380, (by decide : 0 + 0 ≤ _), (by decide : 0 + 0 ≤ _)⟩)
  dsimp only [Pt.U, Pt.locs, Pt.cells, Pt.slots] at X381 l381 y381 z381 st381 hQ381
  subst y381 z381
  obtain ⟨rfl, Nq381, K381, V381⟩ := hQ381
  have N381 : Fr n0 L381 := by rw [l381]; exact Fr.app N379 Nq381
  replace X381 := own_more (k := 0) (n := 0) X381 (Nat.le_of_ble_eq_true rfl) (Nat.le_of_ble_eq_true rfl)
  have c383 := (Keep.refl h0 [oB, yB]).trans K381 (allS (Or.inl (List.mem_of_getElem? (i := 1) rfl)) all0)
  have c385 := EB.keep K381
  have c386 := FvB.keep K381 (ninS (Ne.symm hne) nin0)
  have c387 := FcB.keep K381 (ninS (Ne.symm hne) nin0)
  have c388 := FnB.keep K381 (ninS (Ne.symm hne) nin0)
  obtain ⟨T390, X390, e390, st390⟩ := getF X381 hx hZ hown (host := "") (Or.inl (own_w hw 81 rfl)) Via.refl rfl c388 (g := (mkF m 35 (Y17 oB oS 1) [(.ref oB), (.ref oB)])) rfl rfl (hb hby d14_35)
  obtain ⟨T391, h391, X391, e391, W391, st391⟩ := putF X390 hx hZ hown (host := "") (Or.inl (own_w hw 81 rfl)) Via.refl e390 c388 c385 (Or.inl (own_w hw 82 rfl)) (own_w hw 53 rfl) (ty := .int) (by decide) rfl rfl (g := (mkF m 40 (Y17 oB oS 1) [(.int (4 : Int32)), (.ref oB)])) rfl rfl (hb hby d14_40)
  have Fw391 := c388.same W391
  have N391 := Fr.snoc X391 N381 GB
  have c393 := c383.wr W391 (Or.inl (List.mem_of_getElem? (i := 0) rfl))
  have c396 := c386.other W391 (Or.inr (own_sn_292 hw))
  have c397 := c387.other W391 (Or.inr (own_sn_293 hw))
  have c399 := V381.other W391 hne
  have pre400 : PQ p e below T391 (mkF m 44 (Y17 oB oS 1) [(.ref oB)]) bs := fun t kt => pre0 t (by
    refine XS.aloadN X0.here hx rfl (hb hby d14_0) rfl rfl ?_
    refine XS.ifnonnullYes X0.here hx rfl (pc0 := 1) (pc' := 9) rfl (hb hby d14_1) rfl (by decide) (by decide) ?_
    refine XS.aloadN X0.here hx rfl (hb hby d14_9) rfl rfl ?_
    refine st377.trans ?_
    refine XS.istoreN X377.here hx rfl (hb hby d14_13) rfl (l' := (Y17 oB oS 1)) rfl ?_
    refine XS.aloadN X377.here hx rfl (hb hby d14_14) rfl rfl ?_
    refine XS.aloadN X377.here hx rfl (hb hby d14_15) rfl rfl ?_
    refine st378 _ ?_
    refine XS.iloadN X378.here hx rfl (hb hby d14_19) rfl ?_
    refine XS.iadd X378.here hx rfl (hb hby d14_20) rfl ?_
    refine st379.trans ?_
    refine XS.aloadN X379.here hx rfl (hb hby d14_24) rfl rfl ?_
    refine XS.aloadN X379.here hx rfl (hb hby d14_25) rfl rfl ?_
    refine st380 _ ?_
    refine XS.aloadN X380.here hx rfl (hb hby d14_29) rfl rfl ?_
    refine st381.trans ?_
    refine XS.aloadN X381.here hx rfl (hb hby d14_33) rfl rfl ?_
    refine XS.dup X381.here hx rfl (hb hby d14_34) rfl rfl ?_
    refine st390 _ ?_
    refine XS.iloadN X390.here hx rfl (hb hby d14_38) rfl ?_
    refine XS.iadd X390.here hx rfl (hb hby d14_39) rfl ?_
    refine st391 _ ?_
    refine XS.aloadN X391.here hx rfl (hb hby d14_43) rfl rfl ?_
    exact kt)
  have hQ : QAp31 Z oB yB kB d0 d1 d2 c0 h0 n0 (some (.ref oB)) h391 _ := ⟨rfl, N391, c393, c396, c397, Fw391, c399⟩
  exact own_retA X391 hx hlk rfl hrt rfl (hb hby d14_44) pre400 (show QAp31 Z oB yB kB d0 d1 d2 c0 h0 n0 _ _ _ from (by rw [e391]; exact hQ)) (by decide) (by decide)
set_option maxRecDepth 65536 in
set_option maxHeartbeats 40000000 in
theorem rmAq31 {l : Launch} {Z : State} {a0 : Array Value} (hw : Hw a0 Z) {ws : List Jvm.Cond} (oB yB : Addr) (kB : ClassId) (oS yS : Addr) (kS : ClassId) (d0 d1 d2 : Int32) (c0 : Int32) {h0 : Heap} {n0 : Nat} (Z0 : n0 ≤ h0.size) {cs : Int32} {fv : Value} (Ev : Ev0 Z n0 h0 cs fv) (EB : Exa Z h0 oB "java/lang/StringBuilder") (FvB : Fc Z h0 oB (.ref yB)) (FcB : Fd Z h0 oB (.int (0 : Int32))) (FnB : Fe Z h0 oB (.int (3 : Int32))) (VB : Arv Z h0 yB kB .byte (16 : Int32) [(.int d0), (.int d1), (.int d2), o0, o0, o0, o0, o0, o0, o0, o0, o0, o0, o0, o0, o0] (.int (0 : Int32))) (ES : Exa Z h0 oS "java/lang/String") (FcS : Fa Z h0 oS (.int (0 : Int32))) (FvS : Fb Z h0 oS (.ref yS)) (VS : Arv Z h0 yS kS .byte (1 : Int32) [(.int c0)] (.int (0 : Int32))) (GB : n0 ≤ oB) (GY : n0 ≤ yB) (hne : yB ≠ oB) : MF l Z own_y_296 jdk_67_method_7_code 2 (some (.object "java/lang/StringBuilder")) ws (⟨4, 0, 0, 61⟩ : Room) #[(.ref oB), (.ref oS)] h0 (QAp31 Z oB yB kB d0 d1 d2 c0 h0 n0) := by
  refine own_en (plainFor_of_name pn_198) (fun m => ef_297 m oB oS) fun p e s m below meth c s₁ bs hx hby hml hZ hown hnm X0 e0 hlk hrt pre0 => ?_
  have N0 := Fr.nil n0
  obtain ⟨_, _, ⟨T401, L401, k401, n401⟩, -, X401, ⟨Lc401, hQ401, l401, y401, z401⟩, st401⟩ := superBack X0 hx hZ (y := own_y_265) hown (own_w hw 75 rfl) (own_same (y' := ⟨"java/lang/AbstractStringBuilder", "getValue", "()[B"⟩) (own_w hw 123 rfl) rfl (own_w hw 76 rfl) (by decide)) (own_w hw 76 rfl) (own_w hw 77 rfl) (by decide) (backOf (W := 0) (rmAp31 hw oB yB kB oS yS kS d0 d1 d2 c0 Z0 Ev EB FvB FcB FnB VB ES FcS FvS VS GB GY hne) hZ (own_w hw 79 rfl) (own_w hw 62 rfl) (by decide) (by decide)) e0 (Ins.self EB) (g := (mkF m 2 (Y11 oB oS) [(.ref oS), (.ref oB)])) rfl (by rw [hml]; rfl) (own_w hw 79 rfl) (argsL := [(.ref oS)]) (rest := []) (lenOf pd_301 rfl) rfl (by show 2 * 0 + _ ≤ _; exact Nat.le_of_eq rfl) (hb hby d13_2) (fun _ _ => ⟨rfl, e0, (by decide : 0 + 0 ≤ _), (by decide : 0 + 0 ≤ _)⟩)
  dsimp only [Pt.U, Pt.locs, Pt.cells, Pt.slots] at X401 l401 y401 z401 st401 hQ401
  subst y401 z401
  obtain ⟨rfl, Nq401, K401, Fv401, Fc401, Fn401, V401⟩ := hQ401
  have N401 : Fr n0 L401 := by rw [l401]; exact Fr.app N0 Nq401
  replace X401 := own_more (k := 0) (n := 0) X401 (Nat.le_of_ble_eq_true rfl) (Nat.le_of_ble_eq_true rfl)
  have pre402 : PQ p e below T401 (mkF m 7 (Y11 oB oS) [(.ref oB)]) bs := fun t kt => pre0 t (by
    refine XS.aloadN X0.here hx rfl (hb hby d13_0) rfl rfl ?_
    refine XS.aloadN X0.here hx rfl (hb hby d13_1) rfl rfl ?_
    refine st401.trans ?_
    refine XS.pop X401.here hx rfl (hb hby d13_5) rfl rfl ?_
    refine XS.aloadN X401.here hx rfl (hb hby d13_6) rfl rfl ?_
    exact kt)
  exact own_retA X401 hx hlk rfl hrt rfl (hb hby d13_7) pre402 (show QAp31 Z oB yB kB d0 d1 d2 c0 h0 n0 _ _ _ from ⟨rfl, N401, K401, Fv401, Fc401, Fn401, V401⟩) (by decide) (by decide)
def QGb32 (Z : State) (yB : Addr) (kB : ClassId) (d0 d1 d2 : Int32) (c0 c1 : Int32) (h0 : Heap) (n0 : Nat) (v : Option Value) (h : Heap) (L : List Loc) : Prop := v = none ∧ Fr n0 L ∧ Keep h0 h [yB] ∧ Arv Z h yB kB .byte (16 : Int32) [(.int d0), (.int d1), (.int d2), (.int c0), (.int c1), o0, o0, o0, o0, o0, o0, o0, o0, o0, o0, o0] (.int (0 : Int32))
set_option maxRecDepth 65536 in
set_option maxHeartbeats 40000000 in
theorem rmGb32 {l : Launch} {Z : State} {a0 : Array Value} (hw : Hw a0 Z) {ws : List Jvm.Cond} (yB : Addr) (kB : ClassId) (oS yS : Addr) (kS : ClassId) (d0 d1 d2 : Int32) (c0 c1 : Int32) {h0 : Heap} {n0 : Nat} (Z0 : n0 ≤ h0.size) {cs : Int32} {fv : Value} (Ev : Ev0 Z n0 h0 cs fv) (ES : Exa Z h0 oS "java/lang/String") (FcS : Fa Z h0 oS (.int (0 : Int32))) (FvS : Fb Z h0 oS (.ref yS)) (VS : Arv Z h0 yS kS .byte (2 : Int32) [(.int c0), (.int c1)] (.int (0 : Int32))) (VB : Arv Z h0 yB kB .byte (16 : Int32) [(.int d0), (.int d1), (.int d2), o0, o0, o0, o0, o0, o0, o0, o0, o0, o0, o0, o0, o0] (.int (0 : Int32))) (GB : n0 ≤ yB) : MF l Z own_y_230 jdk_42_method_147_code 4 none ws (⟨1, 0, 0, 18⟩ : Room) #[(.ref oS), (.ref yB), (.int (3 : Int32)), o0] h0 (QGb32 Z yB kB d0 d1 d2 c0 c1 h0 n0) := by
  refine own_en (plainFor_of_name pn_2) (fun m => ef_231 m oS yB (3 : Int32) (0 : Int32)) fun p e s m below meth c s₁ bs hx hby hml hZ hown hnm X0 e0 hlk hrt pre0 => ?_
  have N0 := Fr.nil n0
  obtain ⟨_, T403, L403, X403, N403, ⟨_, rfl, -, e403⟩, st403⟩ := own_cV X0 hx hZ hown (own_k_26 hw) (rmCoder hw oS Z0 Ev FcS) (W := 0) (k := 0) (n := 0) (by decide) e0 N0 (fun _ _ _ h => h.2.1) ES (Ls := (Y14 oS yB 3 0)) (rest := []) hml.symm (lenOf pd_27 rfl) (Nat.le_of_eq rfl) (hb hby d18_1)
  obtain ⟨T404, X404, e404, st404⟩ := getF X403 hx hZ hown (host := "") (Or.inl (own_w hw 33 rfl)) Via.refl e403 FvS (g := (mkF m 9 (Y14 oS yB 3 0) [(.ref oS)])) rfl rfl (hb hby d18_9)
  obtain ⟨T405, X405, e405, st405⟩ := getF X404 hx hZ hown (host := "") (Or.inl (own_w hw 33 rfl)) Via.refl e404 FvS (g := (mkF m 18 (Y14 oS yB 3 0) [(.ref oS), (.int (3 : Int32)), (.ref yB), o0, (.ref yS)])) rfl rfl (hb hby d18_18)
  obtain ⟨cl406, A406, q406, S406, M406, H406, J406⟩ := id VS
  obtain ⟨T407, h407, L407, X407, e407, N407, K407, U407, st407⟩ := cpA X405 hx hZ hown (own_w hw 104 rfl) (own_w hw 107 rfl) (own_w hw 105 rfl) (own_w hw 106 rfl) e405 (us := [(.int c0), (.int c1)]) VS VB (Or.inl ⟨rfl, rfl⟩) (by decide) (by decide) (by decide) (by decide) (by decide) rfl (Nat.le_of_ble_eq_true rfl) N403 GB (g := (mkF m 22 (Y14 oS yB 3 0) [(.int (2 : Int32)), (.int (3 : Int32)), (.ref yB), o0, (.ref yS)])) rfl (by rw [hml]; rfl) rfl (hb hby d18_22) (by decide) (W := 0) (by show 2 * 0 + _ ≤ _; exact Nat.le_of_eq rfl) (by decide)
  have V407 : Arv Z h407 yB kB .byte (16 : Int32) [(.int d0), (.int d1), (.int d2), (.int c0), (.int c1), o0, o0, o0, o0, o0, o0, o0, o0, o0, o0, o0] (.int (0 : Int32)) := U407
  have c409 := (Keep.refl h0 [yB]).trans K407 (allS (Or.inl (List.mem_of_getElem? (i := 0) rfl)) all0)
  have pre412 : PQ p e below T407 (mkF m 43 (Y14 oS yB 3 0) []) bs := fun t kt => pre0 t (by
    refine XS.aloadN X0.here hx rfl (hb hby d18_0) rfl rfl ?_
    refine st403.trans ?_
    refine XS.iloadN X403.here hx rfl (hb hby d18_4) rfl ?_
    refine XS.icmpNo X403.here hx rfl (hb hby d18_5) rfl (teq (by decide : (0 : Int32) = (0 : Int32))).2 ?_
    refine XS.aloadN X403.here hx rfl (hb hby d18_8) rfl rfl ?_
    refine st404 _ ?_
    refine XS.iconst X404.here hx rfl (hb hby d18_12) ?_
    refine XS.aloadN X404.here hx rfl (hb hby d18_13) rfl rfl ?_
    refine XS.iloadN X404.here hx rfl (hb hby d18_14) rfl ?_
    refine XS.iloadN X404.here hx rfl (hb hby d18_15) rfl ?_
    refine XS.ishl X404.here hx rfl (hb hby d18_16) rfl ?_
    refine XS.aloadN X404.here hx rfl (hb hby d18_17) rfl rfl ?_
    refine st405 _ ?_
    refine X405.arraylength hx (by rw [e405]; exact A406.1) (State.isArrayOf_alike hZ.alike A406.2.1) (g := (mkF m 21 (Y14 oS yB 3 0) [(.ref yS), (.int (3 : Int32)), (.ref yB), o0, (.ref yS)])) rfl rfl (hb hby d18_21) _ ?_
    rw [len_of S406 M406]
    refine st407 _ ?_
    refine XS.goto X407.here hx rfl (pc0 := 25) (pc' := 43) rfl (hb hby d18_25) (by decide) (by decide) ?_
    exact kt)
  have hQ : QGb32 Z yB kB d0 d1 d2 c0 c1 h0 n0 none h407 _ := ⟨rfl, N407, c409, V407⟩
  exact own_retV X407 hx hlk hrt (hb hby d18_43) pre412 (show QGb32 Z yB kB d0 d1 d2 c0 c1 h0 n0 _ _ _ from (by rw [e407]; exact hQ)) (by decide) (by decide)
set_option maxRecDepth 65536 in
set_option maxHeartbeats 40000000 in
theorem rmPs32 {l : Launch} {Z : State} {a0 : Array Value} (hw : Hw a0 Z) {ws : List Jvm.Cond} (oB yB : Addr) (kB : ClassId) (oS yS : Addr) (kS : ClassId) (d0 d1 d2 : Int32) (c0 c1 : Int32) {h0 : Heap} {n0 : Nat} (Z0 : n0 ≤ h0.size) {cs : Int32} {fv : Value} (Ev : Ev0 Z n0 h0 cs fv) (EB : Exa Z h0 oB "java/lang/StringBuilder") (FvB : Fc Z h0 oB (.ref yB)) (FcB : Fd Z h0 oB (.int (0 : Int32))) (FnB : Fe Z h0 oB (.int (3 : Int32))) (VB : Arv Z h0 yB kB .byte (16 : Int32) [(.int d0), (.int d1), (.int d2), o0, o0, o0, o0, o0, o0, o0, o0, o0, o0, o0, o0, o0] (.int (0 : Int32))) (ES : Exa Z h0 oS "java/lang/String") (FcS : Fa Z h0 oS (.int (0 : Int32))) (FvS : Fb Z h0 oS (.ref yS)) (VS : Arv Z h0 yS kS .byte (2 : Int32) [(.int c0), (.int c1)] (.int (0 : Int32))) (GB : n0 ≤ yB) : MF l Z own_y_249 jdk_68_method_73_code 3 none ws (⟨2, 0, 0, 33⟩ : Room) #[(.ref oB), (.int (3 : Int32)), (.ref oS)] h0 (QGb32 Z yB kB d0 d1 d2 c0 c1 h0 n0) := by
  refine own_en (plainFor_of_name pn_178) (fun m => ef_250 m oB (3 : Int32) oS) fun p e s m below meth c s₁ bs hx hby hml hZ hown hnm X0 e0 hlk hrt pre0 => ?_
  have N0 := Fr.nil n0
  obtain ⟨cq413, q413, q413'⟩ := EB.cell
  obtain ⟨_, _, ⟨T413, L413, k413, n413⟩, -, X413, ⟨Lc413, hQ413, l413, y413, z413⟩, st413⟩ := X0.privateBack hx (y := own_y_219) hown (mvT hZ (own_w hw 93 rfl)) (mvT hZ (own_w hw 94 rfl)) (own_selfsel (args := #[]) (mvT hZ (own_w hw 96 rfl)) (Cond.privateMethod_at (mvP hZ (own_w hw 95 rfl) (args := #[]))) (mvT hZ (own_w hw 94 rfl)) (by decide)) (Cond.privateMethod_at (mvP hZ (own_w hw 95 rfl) (args := #[]))) (mvT hZ (own_w hw 97 rfl)) (by decide) (backOf (W := 0) (rmInf hw oB oS Z0 Ev FcB ES FcS) hZ (own_w hw 97 rfl) (own_w hw 62 rfl) (by decide) (by decide)) (g := (mkF m 2 (Y15 oB 3 oS) [(.ref oS), (.ref oB)])) rfl (by rw [hml]; rfl) (Steps.refl _) (a := oB) (by rw [e0]; exact q413) q413' (argsL := [(.ref oS)]) (rest := []) (lenOf pd_254 rfl) rfl (by show 2 * 0 + _ ≤ _; exact Nat.le_of_eq rfl) (hb hby d16_2) (fun _ _ => ⟨rfl, e0, (by decide : 0 + 0 ≤ _), (by decide : 0 + 0 ≤ _)⟩)
  dsimp only [Pt.U, Pt.locs, Pt.cells, Pt.slots] at X413 l413 y413 z413 st413 hQ413
  subst y413 z413
  obtain ⟨rfl, Nq413, e413⟩ := hQ413
  have N413 : Fr n0 L413 := by rw [l413]; exact Fr.app N0 Nq413
  replace X413 := own_more (k := 0) (n := 0) X413 (Nat.le_of_ble_eq_true rfl) (Nat.le_of_ble_eq_true rfl)
  obtain ⟨T414, X414, e414, st414⟩ := getF X413 hx hZ hown (host := "") (Or.inl (own_w hw 66 rfl)) Via.refl e413 FvB (g := (mkF m 7 (Y15 oB 3 oS) [(.ref oB), (.ref oS)])) rfl rfl (hb hby d16_7)
  obtain ⟨T415, X415, e415, st415⟩ := getF X414 hx hZ hown (host := "") (Or.inl (own_w hw 68 rfl)) Via.refl e414 FcB (g := (mkF m 12 (Y15 oB 3 oS) [(.ref oB), (.int (3 : Int32)), (.ref yB), (.ref oS)])) rfl rfl (hb hby d16_12)
  obtain ⟨_, T416, L416, X416, N416, ⟨_, rfl, -, K416, V416⟩, st416⟩ := own_cV X415 hx hZ hown (own_k_262 hw) (rmGb32 hw yB kB oS yS kS d0 d1 d2 c0 c1 Z0 Ev ES FcS FvS VS VB GB) (W := 0) (k := 0) (n := 0) (by decide) e415 N413 (fun _ _ _ h => h.2.1) ES (Ls := (Y15 oB 3 oS)) (rest := []) hml.symm (lenOf pd_263 rfl) (Nat.le_of_eq rfl) (hb hby d16_15)
  have pre417 : PQ p e below T416 (mkF m 18 (Y15 oB 3 oS) []) bs := fun t kt => pre0 t (by
    refine XS.aloadN X0.here hx rfl (hb hby d16_0) rfl rfl ?_
    refine XS.aloadN X0.here hx rfl (hb hby d16_1) rfl rfl ?_
    refine st413.trans ?_
    refine XS.aloadN X413.here hx rfl (hb hby d16_5) rfl rfl ?_
    refine XS.aloadN X413.here hx rfl (hb hby d16_6) rfl rfl ?_
    refine st414 _ ?_
    refine XS.iloadN X414.here hx rfl (hb hby d16_10) rfl ?_
    refine XS.aloadN X414.here hx rfl (hb hby d16_11) rfl rfl ?_
    refine st415 _ ?_
    refine st416.trans ?_
    exact kt)
  exact own_retV X416 hx hlk hrt (hb hby d16_18) pre417 (show QGb32 Z yB kB d0 d1 d2 c0 c1 h0 n0 _ _ _ from ⟨rfl, N416, K416, V416⟩) (by decide) (by decide)
def QAp32 (Z : State) (oB yB : Addr) (kB : ClassId) (d0 d1 d2 : Int32) (c0 c1 : Int32) (h0 : Heap) (n0 : Nat) (v : Option Value) (h : Heap) (L : List Loc) : Prop := v = some (.ref oB) ∧ Fr n0 L ∧ Keep h0 h [oB, yB] ∧ Fc Z h oB (.ref yB) ∧ Fd Z h oB (.int (0 : Int32)) ∧ Fe Z h oB (.int (5 : Int32)) ∧ Arv Z h yB kB .byte (16 : Int32) [(.int d0), (.int d1), (.int d2), (.int c0), (.int c1), o0, o0, o0, o0, o0, o0, o0, o0, o0, o0, o0] (.int (0 : Int32))
set_option maxRecDepth 65536 in
set_option maxHeartbeats 40000000 in
theorem rmAp32 {l : Launch} {Z : State} {a0 : Array Value} (hw : Hw a0 Z) {ws : List Jvm.Cond} (oB yB : Addr) (kB : ClassId) (oS yS : Addr) (kS : ClassId) (d0 d1 d2 : Int32) (c0 c1 : Int32) {h0 : Heap} {n0 : Nat} (Z0 : n0 ≤ h0.size) {cs : Int32} {fv : Value} (Ev : Ev0 Z n0 h0 cs fv) (EB : Exa Z h0 oB "java/lang/StringBuilder") (FvB : Fc Z h0 oB (.ref yB)) (FcB : Fd Z h0 oB (.int (0 : Int32))) (FnB : Fe Z h0 oB (.int (3 : Int32))) (VB : Arv Z h0 yB kB .byte (16 : Int32) [(.int d0), (.int d1), (.int d2), o0, o0, o0, o0, o0, o0, o0, o0, o0, o0, o0, o0, o0] (.int (0 : Int32))) (ES : Exa Z h0 oS "java/lang/String") (FcS : Fa Z h0 oS (.int (0 : Int32))) (FvS : Fb Z h0 oS (.ref yS)) (VS : Arv Z h0 yS kS .byte (2 : Int32) [(.int c0), (.int c1)] (.int (0 : Int32))) (GB : n0 ≤ oB) (GY : n0 ≤ yB) (hne : yB ≠ oB) : MF l Z own_y_265 jdk_68_method_22_code 3 (some (.object "java/lang/AbstractStringBuilder")) ws (⟨3, 0, 0, 47⟩ : Room) #[(.ref oB), (.ref oS)] h0 (QAp32 Z oB yB kB d0 d1 d2 c0 c1 h0 n0) := by
  refine own_en (plainFor_of_name pn_178) (fun m => ef_266 m oB oS) fun p e s m below meth c s₁ bs hx hby hml hZ hown hnm X0 e0 hlk hrt pre0 => ?_
  have N0 := Fr.nil n0
  obtain ⟨_, T418, L418, X418, N418, ⟨_, rfl, -, e418⟩, st418⟩ := own_cV X0 hx hZ hown (own_k_271 hw) (rmLen2 hw oS yS kS c0 c1 Z0 Ev ES FcS FvS VS) (W := 0) (k := 0) (n := 0) (by decide) e0 N0 (fun _ _ _ h => h.2.1) ES (Ls := (Y16 oB oS)) (rest := []) hml.symm (lenOf pd_272 rfl) (Nat.le_of_eq rfl) (hb hby d14_10)
  obtain ⟨T419, X419, e419, st419⟩ := getF X418 hx hZ hown (host := "") (Or.inl (own_w hw 81 rfl)) Via.refl e418 FnB (g := (mkF m 16 (Y17 oB oS 2) [(.ref oB), (.ref oB)])) rfl rfl (hb hby d14_16)
  obtain ⟨cq420, q420, q420'⟩ := EB.cell
  obtain ⟨_, _, ⟨T420, L420, k420, n420⟩, -, X420, ⟨Lc420, hQ420, l420, y420, z420⟩, st420⟩ := X419.privateBack hx (y := own_y_205) hown (mvT hZ (own_w hw 83 rfl)) (mvT hZ (own_w hw 84 rfl)) (own_selfsel (args := #[]) (mvT hZ (own_w hw 86 rfl)) (Cond.privateMethod_at (mvP hZ (own_w hw 85 rfl) (args := #[]))) (mvT hZ (own_w hw 84 rfl)) (by decide)) (Cond.privateMethod_at (mvP hZ (own_w hw 85 rfl) (args := #[]))) (mvT hZ (own_w hw 87 rfl)) (by decide) (backOf (W := 0) (rmEns5 hw oB yB kB [(.int d0), (.int d1), (.int d2), o0, o0, o0, o0, o0, o0, o0, o0, o0, o0, o0, o0, o0] Z0 FvB FcB VB) hZ (own_w hw 87 rfl) (own_w hw 62 rfl) (by decide) (by decide)) (g := (mkF m 21 (Y17 oB oS 2) [(.int (5 : Int32)), (.ref oB)])) rfl (by rw [hml]; rfl) (Steps.refl _) (a := oB) (by rw [e419]; exact q420) q420' (argsL := [(.int (5 : Int32))]) (rest := []) (lenOf pd_203 rfl) rfl (by show 2 * 0 + _ ≤ _; exact Nat.le_of_eq rfl) (hb hby d14_21) (fun _ _ => ⟨rfl, e419, (by decide : 0 + 0 ≤ _), (by decide : 0 + 0 ≤ _)⟩)
  dsimp only [Pt.U, Pt.locs, Pt.cells, Pt.slots] at X420 l420 y420 z420 st420 hQ420
  subst y420 z420
  obtain ⟨rfl, Nq420, e420⟩ := hQ420
  have N420 : Fr n0 L420 := by rw [l420]; exact Fr.app N418 Nq420
  replace X420 := own_more (k := 0) (n := 0) X420 (Nat.le_of_ble_eq_true rfl) (Nat.le_of_ble_eq_true rfl)
  obtain ⟨T421, X421, e421, st421⟩ := getF X420 hx hZ hown (host := "") (Or.inl (own_w hw 81 rfl)) Via.refl e420 FnB (g := (mkF m 26 (Y17 oB oS 2) [(.ref oB), (.ref oB)])) rfl rfl (hb hby d14_26)
  obtain ⟨cq422, q422, q422'⟩ := EB.cell
  obtain ⟨_, _, ⟨T422, L422, k422, n422⟩, -, X422, ⟨Lc422, hQ422, l422, y422, z422⟩, st422⟩ := X421.privateBack hx (y := own_y_249) hown (mvT hZ (own_w hw 88 rfl)) (mvT hZ (own_w hw 89 rfl)) (own_selfsel (args := #[]) (mvT hZ (own_w hw 91 rfl)) (Cond.privateMethod_at (mvP hZ (own_w hw 90 rfl) (args := #[]))) (mvT hZ (own_w hw 89 rfl)) (by decide)) (Cond.privateMethod_at (mvP hZ (own_w hw 90 rfl) (args := #[]))) (mvT hZ (own_w hw 92 rfl)) (by decide) (backOf (W := 0) (rmPs32 hw oB yB kB oS yS kS d0 d1 d2 c0 c1 Z0 Ev EB FvB FcB FnB VB ES FcS FvS VS GY) hZ (own_w hw 92 rfl) (own_w hw 62 rfl) (by decide) (by decide)) (g := (mkF m 30 (Y17 oB oS 2) [(.ref oS), (.int (3 : Int32)), (.ref oB)])) rfl (by rw [hml]; rfl) (Steps.refl _) (a := oB) (by rw [e421]; exact q422) q422' (argsL := [(.int (3 : Int32)), (.ref oS)]) (rest := []) (lenOf pd_285 rfl) rfl (by show 2 * 0 + _ ≤ _; exact Nat.le_of_eq rfl) (hb hby d14_30) (fun _ _ => ⟨rfl, e421, (by decide : 0 + 0 ≤ _), (by decide : 0 + 0 ≤ _)⟩)
  dsimp only [Pt.U, Pt.locs, Pt.cells, Pt.slots] at X422 l422 y422 z422 st422 hQ422
  subst y422 z422
  obtain ⟨rfl, Nq422, K422, V422⟩ := hQ422
  have N422 : Fr n0 L422 := by rw [l422]; exact Fr.app N420 Nq422
  replace X422 := own_more (k := 0) (n := 0) X422 (Nat.le_of_ble_eq_true rfl) (Nat.le_of_ble_eq_true rfl)
  have c424 := (Keep.refl h0 [oB, yB]).trans K422 (allS (Or.inl (List.mem_of_getElem? (i := 1) rfl)) all0)
  have c426 := EB.keep K422
  have c427 := FvB.keep K422 (ninS (Ne.symm hne) nin0)
  have c428 := FcB.keep K422 (ninS (Ne.symm hne) nin0)
  have c429 := FnB.keep K422 (ninS (Ne.symm hne) nin0)
  obtain ⟨T431, X431, e431, st431⟩ := getF X422 hx hZ hown (host := "") (Or.inl (own_w hw 81 rfl)) Via.refl rfl c429 (g := (mkF m 35 (Y17 oB oS 2) [(.ref oB), (.ref oB)])) rfl rfl (hb hby d14_35)
  obtain ⟨T432, h432, X432, e432, W432, st432⟩ := putF X431 hx hZ hown (host := "") (Or.inl (own_w hw 81 rfl)) Via.refl e431 c429 c426 (Or.inl (own_w hw 82 rfl)) (own_w hw 53 rfl) (ty := .int) (by decide) rfl rfl (g := (mkF m 40 (Y17 oB oS 2) [(.int (5 : Int32)), (.ref oB)])) rfl rfl (hb hby d14_40)
  have Fw432 := c429.same W432
  have N432 := Fr.snoc X432 N422 GB
  have c434 := c424.wr W432 (Or.inl (List.mem_of_getElem? (i := 0) rfl))
  have c437 := c427.other W432 (Or.inr (own_sn_292 hw))
  have c438 := c428.other W432 (Or.inr (own_sn_293 hw))
  have c440 := V422.other W432 hne
  have pre441 : PQ p e below T432 (mkF m 44 (Y17 oB oS 2) [(.ref oB)]) bs := fun t kt => pre0 t (by
    refine XS.aloadN X0.here hx rfl (hb hby d14_0) rfl rfl ?_
    refine XS.ifnonnullYes X0.here hx rfl (pc0 := 1) (pc' := 9) rfl (hb hby d14_1) rfl (by decide) (by decide) ?_
    refine XS.aloadN X0.here hx rfl (hb hby d14_9) rfl rfl ?_
    refine st418.trans ?_
    refine XS.istoreN X418.here hx rfl (hb hby d14_13) rfl (l' := (Y17 oB oS 2)) rfl ?_
    refine XS.aloadN X418.here hx rfl (hb hby d14_14) rfl rfl ?_
    refine XS.aloadN X418.here hx rfl (hb hby d14_15) rfl rfl ?_
    refine st419 _ ?_
    refine XS.iloadN X419.here hx rfl (hb hby d14_19) rfl ?_
    refine XS.iadd X419.here hx rfl (hb hby d14_20) rfl ?_
    refine st420.trans ?_
    refine XS.aloadN X420.here hx rfl (hb hby d14_24) rfl rfl ?_
    refine XS.aloadN X420.here hx rfl (hb hby d14_25) rfl rfl ?_
    refine st421 _ ?_
    refine XS.aloadN X421.here hx rfl (hb hby d14_29) rfl rfl ?_
    refine st422.trans ?_
    refine XS.aloadN X422.here hx rfl (hb hby d14_33) rfl rfl ?_
    refine XS.dup X422.here hx rfl (hb hby d14_34) rfl rfl ?_
    refine st431 _ ?_
    refine XS.iloadN X431.here hx rfl (hb hby d14_38) rfl ?_
    refine XS.iadd X431.here hx rfl (hb hby d14_39) rfl ?_
    refine st432 _ ?_
    refine XS.aloadN X432.here hx rfl (hb hby d14_43) rfl rfl ?_
    exact kt)
  have hQ : QAp32 Z oB yB kB d0 d1 d2 c0 c1 h0 n0 (some (.ref oB)) h432 _ := ⟨rfl, N432, c434, c437, c438, Fw432, c440⟩
  exact own_retA X432 hx hlk rfl hrt rfl (hb hby d14_44) pre441 (show QAp32 Z oB yB kB d0 d1 d2 c0 c1 h0 n0 _ _ _ from (by rw [e432]; exact hQ)) (by decide) (by decide)
set_option maxRecDepth 65536 in
set_option maxHeartbeats 40000000 in
theorem rmAq32 {l : Launch} {Z : State} {a0 : Array Value} (hw : Hw a0 Z) {ws : List Jvm.Cond} (oB yB : Addr) (kB : ClassId) (oS yS : Addr) (kS : ClassId) (d0 d1 d2 : Int32) (c0 c1 : Int32) {h0 : Heap} {n0 : Nat} (Z0 : n0 ≤ h0.size) {cs : Int32} {fv : Value} (Ev : Ev0 Z n0 h0 cs fv) (EB : Exa Z h0 oB "java/lang/StringBuilder") (FvB : Fc Z h0 oB (.ref yB)) (FcB : Fd Z h0 oB (.int (0 : Int32))) (FnB : Fe Z h0 oB (.int (3 : Int32))) (VB : Arv Z h0 yB kB .byte (16 : Int32) [(.int d0), (.int d1), (.int d2), o0, o0, o0, o0, o0, o0, o0, o0, o0, o0, o0, o0, o0] (.int (0 : Int32))) (ES : Exa Z h0 oS "java/lang/String") (FcS : Fa Z h0 oS (.int (0 : Int32))) (FvS : Fb Z h0 oS (.ref yS)) (VS : Arv Z h0 yS kS .byte (2 : Int32) [(.int c0), (.int c1)] (.int (0 : Int32))) (GB : n0 ≤ oB) (GY : n0 ≤ yB) (hne : yB ≠ oB) : MF l Z own_y_296 jdk_67_method_7_code 2 (some (.object "java/lang/StringBuilder")) ws (⟨4, 0, 0, 61⟩ : Room) #[(.ref oB), (.ref oS)] h0 (QAp32 Z oB yB kB d0 d1 d2 c0 c1 h0 n0) := by
  refine own_en (plainFor_of_name pn_198) (fun m => ef_297 m oB oS) fun p e s m below meth c s₁ bs hx hby hml hZ hown hnm X0 e0 hlk hrt pre0 => ?_
  have N0 := Fr.nil n0
  obtain ⟨_, _, ⟨T442, L442, k442, n442⟩, -, X442, ⟨Lc442, hQ442, l442, y442, z442⟩, st442⟩ := superBack X0 hx hZ (y := own_y_265) hown (own_w hw 75 rfl) (own_same (y' := ⟨"java/lang/AbstractStringBuilder", "getValue", "()[B"⟩) (own_w hw 123 rfl) rfl (own_w hw 76 rfl) (by decide)) (own_w hw 76 rfl) (own_w hw 77 rfl) (by decide) (backOf (W := 0) (rmAp32 hw oB yB kB oS yS kS d0 d1 d2 c0 c1 Z0 Ev EB FvB FcB FnB VB ES FcS FvS VS GB GY hne) hZ (own_w hw 79 rfl) (own_w hw 62 rfl) (by decide) (by decide)) e0 (Ins.self EB) (g := (mkF m 2 (Y11 oB oS) [(.ref oS), (.ref oB)])) rfl (by rw [hml]; rfl) (own_w hw 79 rfl) (argsL := [(.ref oS)]) (rest := []) (lenOf pd_301 rfl) rfl (by show 2 * 0 + _ ≤ _; exact Nat.le_of_eq rfl) (hb hby d13_2) (fun _ _ => ⟨rfl, e0, (by decide : 0 + 0 ≤ _), (by decide : 0 + 0 ≤ _)⟩)
  dsimp only [Pt.U, Pt.locs, Pt.cells, Pt.slots] at X442 l442 y442 z442 st442 hQ442
  subst y442 z442
  obtain ⟨rfl, Nq442, K442, Fv442, Fc442, Fn442, V442⟩ := hQ442
  have N442 : Fr n0 L442 := by rw [l442]; exact Fr.app N0 Nq442
  replace X442 := own_more (k := 0) (n := 0) X442 (Nat.le_of_ble_eq_true rfl) (Nat.le_of_ble_eq_true rfl)
  have pre443 : PQ p e below T442 (mkF m 7 (Y11 oB oS) [(.ref oB)]) bs := fun t kt => pre0 t (by
    refine XS.aloadN X0.here hx rfl (hb hby d13_0) rfl rfl ?_
    refine XS.aloadN X0.here hx rfl (hb hby d13_1) rfl rfl ?_
    refine st442.trans ?_
    refine XS.pop X442.here hx rfl (hb hby d13_5) rfl rfl ?_
    refine XS.aloadN X442.here hx rfl (hb hby d13_6) rfl rfl ?_
    exact kt)
  exact own_retA X442 hx hlk rfl hrt rfl (hb hby d13_7) pre443 (show QAp32 Z oB yB kB d0 d1 d2 c0 c1 h0 n0 _ _ _ from ⟨rfl, N442, K442, Fv442, Fc442, Fn442, V442⟩) (by decide) (by decide)
def QGb33 (Z : State) (yB : Addr) (kB : ClassId) (d0 d1 d2 : Int32) (c0 c1 c2 : Int32) (h0 : Heap) (n0 : Nat) (v : Option Value) (h : Heap) (L : List Loc) : Prop := v = none ∧ Fr n0 L ∧ Keep h0 h [yB] ∧ Arv Z h yB kB .byte (16 : Int32) [(.int d0), (.int d1), (.int d2), (.int c0), (.int c1), (.int c2), o0, o0, o0, o0, o0, o0, o0, o0, o0, o0] (.int (0 : Int32))
set_option maxRecDepth 65536 in
set_option maxHeartbeats 40000000 in
theorem rmGb33 {l : Launch} {Z : State} {a0 : Array Value} (hw : Hw a0 Z) {ws : List Jvm.Cond} (yB : Addr) (kB : ClassId) (oS yS : Addr) (kS : ClassId) (d0 d1 d2 : Int32) (c0 c1 c2 : Int32) {h0 : Heap} {n0 : Nat} (Z0 : n0 ≤ h0.size) {cs : Int32} {fv : Value} (Ev : Ev0 Z n0 h0 cs fv) (ES : Exa Z h0 oS "java/lang/String") (FcS : Fa Z h0 oS (.int (0 : Int32))) (FvS : Fb Z h0 oS (.ref yS)) (VS : Arv Z h0 yS kS .byte (3 : Int32) [(.int c0), (.int c1), (.int c2)] (.int (0 : Int32))) (VB : Arv Z h0 yB kB .byte (16 : Int32) [(.int d0), (.int d1), (.int d2), o0, o0, o0, o0, o0, o0, o0, o0, o0, o0, o0, o0, o0] (.int (0 : Int32))) (GB : n0 ≤ yB) : MF l Z own_y_230 jdk_42_method_147_code 4 none ws (⟨1, 0, 0, 18⟩ : Room) #[(.ref oS), (.ref yB), (.int (3 : Int32)), o0] h0 (QGb33 Z yB kB d0 d1 d2 c0 c1 c2 h0 n0) := by
  refine own_en (plainFor_of_name pn_2) (fun m => ef_231 m oS yB (3 : Int32) (0 : Int32)) fun p e s m below meth c s₁ bs hx hby hml hZ hown hnm X0 e0 hlk hrt pre0 => ?_
  have N0 := Fr.nil n0
  obtain ⟨_, T444, L444, X444, N444, ⟨_, rfl, -, e444⟩, st444⟩ := own_cV X0 hx hZ hown (own_k_26 hw) (rmCoder hw oS Z0 Ev FcS) (W := 0) (k := 0) (n := 0) (by decide) e0 N0 (fun _ _ _ h => h.2.1) ES (Ls := (Y14 oS yB 3 0)) (rest := []) hml.symm (lenOf pd_27 rfl) (Nat.le_of_eq rfl) (hb hby d18_1)
  obtain ⟨T445, X445, e445, st445⟩ := getF X444 hx hZ hown (host := "") (Or.inl (own_w hw 33 rfl)) Via.refl e444 FvS (g := (mkF m 9 (Y14 oS yB 3 0) [(.ref oS)])) rfl rfl (hb hby d18_9)
  obtain ⟨T446, X446, e446, st446⟩ := getF X445 hx hZ hown (host := "") (Or.inl (own_w hw 33 rfl)) Via.refl e445 FvS (g := (mkF m 18 (Y14 oS yB 3 0) [(.ref oS), (.int (3 : Int32)), (.ref yB), o0, (.ref yS)])) rfl rfl (hb hby d18_18)
  obtain ⟨cl447, A447, q447, S447, M447, H447, J447⟩ := id VS
  obtain ⟨T448, h448, L448, X448, e448, N448, K448, U448, st448⟩ := cpA X446 hx hZ hown (own_w hw 104 rfl) (own_w hw 107 rfl) (own_w hw 105 rfl) (own_w hw 106 rfl) e446 (us := [(.int c0), (.int c1), (.int c2)]) VS VB (Or.inl ⟨rfl, rfl⟩) (by decide) (by decide) (by decide) (by decide) (by decide) rfl (Nat.le_of_ble_eq_true rfl) N444 GB (g := (mkF m 22 (Y14 oS yB 3 0) [(.int (3 : Int32)), (.int (3 : Int32)), (.ref yB), o0, (.ref yS)])) rfl (by rw [hml]; rfl) rfl (hb hby d18_22) (by decide) (W := 0) (by show 2 * 0 + _ ≤ _; exact Nat.le_of_eq rfl) (by decide)
  have V448 : Arv Z h448 yB kB .byte (16 : Int32) [(.int d0), (.int d1), (.int d2), (.int c0), (.int c1), (.int c2), o0, o0, o0, o0, o0, o0, o0, o0, o0, o0] (.int (0 : Int32)) := U448
  have c450 := (Keep.refl h0 [yB]).trans K448 (allS (Or.inl (List.mem_of_getElem? (i := 0) rfl)) all0)
  have pre453 : PQ p e below T448 (mkF m 43 (Y14 oS yB 3 0) []) bs := fun t kt => pre0 t (by
    refine XS.aloadN X0.here hx rfl (hb hby d18_0) rfl rfl ?_
    refine st444.trans ?_
    refine XS.iloadN X444.here hx rfl (hb hby d18_4) rfl ?_
    refine XS.icmpNo X444.here hx rfl (hb hby d18_5) rfl (teq (by decide : (0 : Int32) = (0 : Int32))).2 ?_
    refine XS.aloadN X444.here hx rfl (hb hby d18_8) rfl rfl ?_
    refine st445 _ ?_
    refine XS.iconst X445.here hx rfl (hb hby d18_12) ?_
    refine XS.aloadN X445.here hx rfl (hb hby d18_13) rfl rfl ?_
    refine XS.iloadN X445.here hx rfl (hb hby d18_14) rfl ?_
    refine XS.iloadN X445.here hx rfl (hb hby d18_15) rfl ?_
    refine XS.ishl X445.here hx rfl (hb hby d18_16) rfl ?_
    refine XS.aloadN X445.here hx rfl (hb hby d18_17) rfl rfl ?_
    refine st446 _ ?_
    refine X446.arraylength hx (by rw [e446]; exact A447.1) (State.isArrayOf_alike hZ.alike A447.2.1) (g := (mkF m 21 (Y14 oS yB 3 0) [(.ref yS), (.int (3 : Int32)), (.ref yB), o0, (.ref yS)])) rfl rfl (hb hby d18_21) _ ?_
    rw [len_of S447 M447]
    refine st448 _ ?_
    refine XS.goto X448.here hx rfl (pc0 := 25) (pc' := 43) rfl (hb hby d18_25) (by decide) (by decide) ?_
    exact kt)
  have hQ : QGb33 Z yB kB d0 d1 d2 c0 c1 c2 h0 n0 none h448 _ := ⟨rfl, N448, c450, V448⟩
  exact own_retV X448 hx hlk hrt (hb hby d18_43) pre453 (show QGb33 Z yB kB d0 d1 d2 c0 c1 c2 h0 n0 _ _ _ from (by rw [e448]; exact hQ)) (by decide) (by decide)
set_option maxRecDepth 65536 in
set_option maxHeartbeats 40000000 in
theorem rmPs33 {l : Launch} {Z : State} {a0 : Array Value} (hw : Hw a0 Z) {ws : List Jvm.Cond} (oB yB : Addr) (kB : ClassId) (oS yS : Addr) (kS : ClassId) (d0 d1 d2 : Int32) (c0 c1 c2 : Int32) {h0 : Heap} {n0 : Nat} (Z0 : n0 ≤ h0.size) {cs : Int32} {fv : Value} (Ev : Ev0 Z n0 h0 cs fv) (EB : Exa Z h0 oB "java/lang/StringBuilder") (FvB : Fc Z h0 oB (.ref yB)) (FcB : Fd Z h0 oB (.int (0 : Int32))) (FnB : Fe Z h0 oB (.int (3 : Int32))) (VB : Arv Z h0 yB kB .byte (16 : Int32) [(.int d0), (.int d1), (.int d2), o0, o0, o0, o0, o0, o0, o0, o0, o0, o0, o0, o0, o0] (.int (0 : Int32))) (ES : Exa Z h0 oS "java/lang/String") (FcS : Fa Z h0 oS (.int (0 : Int32))) (FvS : Fb Z h0 oS (.ref yS)) (VS : Arv Z h0 yS kS .byte (3 : Int32) [(.int c0), (.int c1), (.int c2)] (.int (0 : Int32))) (GB : n0 ≤ yB) : MF l Z own_y_249 jdk_68_method_73_code 3 none ws (⟨2, 0, 0, 33⟩ : Room) #[(.ref oB), (.int (3 : Int32)), (.ref oS)] h0 (QGb33 Z yB kB d0 d1 d2 c0 c1 c2 h0 n0) := by
  refine own_en (plainFor_of_name pn_178) (fun m => ef_250 m oB (3 : Int32) oS) fun p e s m below meth c s₁ bs hx hby hml hZ hown hnm X0 e0 hlk hrt pre0 => ?_
  have N0 := Fr.nil n0
  obtain ⟨cq454, q454, q454'⟩ := EB.cell
  obtain ⟨_, _, ⟨T454, L454, k454, n454⟩, -, X454, ⟨Lc454, hQ454, l454, y454, z454⟩, st454⟩ := X0.privateBack hx (y := own_y_219) hown (mvT hZ (own_w hw 93 rfl)) (mvT hZ (own_w hw 94 rfl)) (own_selfsel (args := #[]) (mvT hZ (own_w hw 96 rfl)) (Cond.privateMethod_at (mvP hZ (own_w hw 95 rfl) (args := #[]))) (mvT hZ (own_w hw 94 rfl)) (by decide)) (Cond.privateMethod_at (mvP hZ (own_w hw 95 rfl) (args := #[]))) (mvT hZ (own_w hw 97 rfl)) (by decide) (backOf (W := 0) (rmInf hw oB oS Z0 Ev FcB ES FcS) hZ (own_w hw 97 rfl) (own_w hw 62 rfl) (by decide) (by decide)) (g := (mkF m 2 (Y15 oB 3 oS) [(.ref oS), (.ref oB)])) rfl (by rw [hml]; rfl) (Steps.refl _) (a := oB) (by rw [e0]; exact q454) q454' (argsL := [(.ref oS)]) (rest := []) (lenOf pd_254 rfl) rfl (by show 2 * 0 + _ ≤ _; exact Nat.le_of_eq rfl) (hb hby d16_2) (fun _ _ => ⟨rfl, e0, (by decide : 0 + 0 ≤ _), (by decide : 0 + 0 ≤ _)⟩)
  dsimp only [Pt.U, Pt.locs, Pt.cells, Pt.slots] at X454 l454 y454 z454 st454 hQ454
  subst y454 z454
  obtain ⟨rfl, Nq454, e454⟩ := hQ454
  have N454 : Fr n0 L454 := by rw [l454]; exact Fr.app N0 Nq454
  replace X454 := own_more (k := 0) (n := 0) X454 (Nat.le_of_ble_eq_true rfl) (Nat.le_of_ble_eq_true rfl)
  obtain ⟨T455, X455, e455, st455⟩ := getF X454 hx hZ hown (host := "") (Or.inl (own_w hw 66 rfl)) Via.refl e454 FvB (g := (mkF m 7 (Y15 oB 3 oS) [(.ref oB), (.ref oS)])) rfl rfl (hb hby d16_7)
  obtain ⟨T456, X456, e456, st456⟩ := getF X455 hx hZ hown (host := "") (Or.inl (own_w hw 68 rfl)) Via.refl e455 FcB (g := (mkF m 12 (Y15 oB 3 oS) [(.ref oB), (.int (3 : Int32)), (.ref yB), (.ref oS)])) rfl rfl (hb hby d16_12)
  obtain ⟨_, T457, L457, X457, N457, ⟨_, rfl, -, K457, V457⟩, st457⟩ := own_cV X456 hx hZ hown (own_k_262 hw) (rmGb33 hw yB kB oS yS kS d0 d1 d2 c0 c1 c2 Z0 Ev ES FcS FvS VS VB GB) (W := 0) (k := 0) (n := 0) (by decide) e456 N454 (fun _ _ _ h => h.2.1) ES (Ls := (Y15 oB 3 oS)) (rest := []) hml.symm (lenOf pd_263 rfl) (Nat.le_of_eq rfl) (hb hby d16_15)
  have pre458 : PQ p e below T457 (mkF m 18 (Y15 oB 3 oS) []) bs := fun t kt => pre0 t (by
    refine XS.aloadN X0.here hx rfl (hb hby d16_0) rfl rfl ?_
    refine XS.aloadN X0.here hx rfl (hb hby d16_1) rfl rfl ?_
    refine st454.trans ?_
    refine XS.aloadN X454.here hx rfl (hb hby d16_5) rfl rfl ?_
    refine XS.aloadN X454.here hx rfl (hb hby d16_6) rfl rfl ?_
    refine st455 _ ?_
    refine XS.iloadN X455.here hx rfl (hb hby d16_10) rfl ?_
    refine XS.aloadN X455.here hx rfl (hb hby d16_11) rfl rfl ?_
    refine st456 _ ?_
    refine st457.trans ?_
    exact kt)
  exact own_retV X457 hx hlk hrt (hb hby d16_18) pre458 (show QGb33 Z yB kB d0 d1 d2 c0 c1 c2 h0 n0 _ _ _ from ⟨rfl, N457, K457, V457⟩) (by decide) (by decide)
def QAp33 (Z : State) (oB yB : Addr) (kB : ClassId) (d0 d1 d2 : Int32) (c0 c1 c2 : Int32) (h0 : Heap) (n0 : Nat) (v : Option Value) (h : Heap) (L : List Loc) : Prop := v = some (.ref oB) ∧ Fr n0 L ∧ Keep h0 h [oB, yB] ∧ Fc Z h oB (.ref yB) ∧ Fd Z h oB (.int (0 : Int32)) ∧ Fe Z h oB (.int (6 : Int32)) ∧ Arv Z h yB kB .byte (16 : Int32) [(.int d0), (.int d1), (.int d2), (.int c0), (.int c1), (.int c2), o0, o0, o0, o0, o0, o0, o0, o0, o0, o0] (.int (0 : Int32))
set_option maxRecDepth 65536 in
set_option maxHeartbeats 40000000 in
theorem rmAp33 {l : Launch} {Z : State} {a0 : Array Value} (hw : Hw a0 Z) {ws : List Jvm.Cond} (oB yB : Addr) (kB : ClassId) (oS yS : Addr) (kS : ClassId) (d0 d1 d2 : Int32) (c0 c1 c2 : Int32) {h0 : Heap} {n0 : Nat} (Z0 : n0 ≤ h0.size) {cs : Int32} {fv : Value} (Ev : Ev0 Z n0 h0 cs fv) (EB : Exa Z h0 oB "java/lang/StringBuilder") (FvB : Fc Z h0 oB (.ref yB)) (FcB : Fd Z h0 oB (.int (0 : Int32))) (FnB : Fe Z h0 oB (.int (3 : Int32))) (VB : Arv Z h0 yB kB .byte (16 : Int32) [(.int d0), (.int d1), (.int d2), o0, o0, o0, o0, o0, o0, o0, o0, o0, o0, o0, o0, o0] (.int (0 : Int32))) (ES : Exa Z h0 oS "java/lang/String") (FcS : Fa Z h0 oS (.int (0 : Int32))) (FvS : Fb Z h0 oS (.ref yS)) (VS : Arv Z h0 yS kS .byte (3 : Int32) [(.int c0), (.int c1), (.int c2)] (.int (0 : Int32))) (GB : n0 ≤ oB) (GY : n0 ≤ yB) (hne : yB ≠ oB) : MF l Z own_y_265 jdk_68_method_22_code 3 (some (.object "java/lang/AbstractStringBuilder")) ws (⟨3, 0, 0, 47⟩ : Room) #[(.ref oB), (.ref oS)] h0 (QAp33 Z oB yB kB d0 d1 d2 c0 c1 c2 h0 n0) := by
  refine own_en (plainFor_of_name pn_178) (fun m => ef_266 m oB oS) fun p e s m below meth c s₁ bs hx hby hml hZ hown hnm X0 e0 hlk hrt pre0 => ?_
  have N0 := Fr.nil n0
  obtain ⟨_, T459, L459, X459, N459, ⟨_, rfl, -, e459⟩, st459⟩ := own_cV X0 hx hZ hown (own_k_271 hw) (rmLen3 hw oS yS kS c0 c1 c2 Z0 Ev ES FcS FvS VS) (W := 0) (k := 0) (n := 0) (by decide) e0 N0 (fun _ _ _ h => h.2.1) ES (Ls := (Y16 oB oS)) (rest := []) hml.symm (lenOf pd_272 rfl) (Nat.le_of_eq rfl) (hb hby d14_10)
  obtain ⟨T460, X460, e460, st460⟩ := getF X459 hx hZ hown (host := "") (Or.inl (own_w hw 81 rfl)) Via.refl e459 FnB (g := (mkF m 16 (Y17 oB oS 3) [(.ref oB), (.ref oB)])) rfl rfl (hb hby d14_16)
  obtain ⟨cq461, q461, q461'⟩ := EB.cell
  obtain ⟨_, _, ⟨T461, L461, k461, n461⟩, -, X461, ⟨Lc461, hQ461, l461, y461, z461⟩, st461⟩ := X460.privateBack hx (y := own_y_205) hown (mvT hZ (own_w hw 83 rfl)) (mvT hZ (own_w hw 84 rfl)) (own_selfsel (args := #[]) (mvT hZ (own_w hw 86 rfl)) (Cond.privateMethod_at (mvP hZ (own_w hw 85 rfl) (args := #[]))) (mvT hZ (own_w hw 84 rfl)) (by decide)) (Cond.privateMethod_at (mvP hZ (own_w hw 85 rfl) (args := #[]))) (mvT hZ (own_w hw 87 rfl)) (by decide) (backOf (W := 0) (rmEns6 hw oB yB kB [(.int d0), (.int d1), (.int d2), o0, o0, o0, o0, o0, o0, o0, o0, o0, o0, o0, o0, o0] Z0 FvB FcB VB) hZ (own_w hw 87 rfl) (own_w hw 62 rfl) (by decide) (by decide)) (g := (mkF m 21 (Y17 oB oS 3) [(.int (6 : Int32)), (.ref oB)])) rfl (by rw [hml]; rfl) (Steps.refl _) (a := oB) (by rw [e460]; exact q461) q461' (argsL := [(.int (6 : Int32))]) (rest := []) (lenOf pd_203 rfl) rfl (by show 2 * 0 + _ ≤ _; exact Nat.le_of_eq rfl) (hb hby d14_21) (fun _ _ => ⟨rfl, e460, (by decide : 0 + 0 ≤ _), (by decide : 0 + 0 ≤ _)⟩)
  dsimp only [Pt.U, Pt.locs, Pt.cells, Pt.slots] at X461 l461 y461 z461 st461 hQ461
  subst y461 z461
  obtain ⟨rfl, Nq461, e461⟩ := hQ461
  have N461 : Fr n0 L461 := by rw [l461]; exact Fr.app N459 Nq461
  replace X461 := own_more (k := 0) (n := 0) X461 (Nat.le_of_ble_eq_true rfl) (Nat.le_of_ble_eq_true rfl)
  obtain ⟨T462, X462, e462, st462⟩ := getF X461 hx hZ hown (host := "") (Or.inl (own_w hw 81 rfl)) Via.refl e461 FnB (g := (mkF m 26 (Y17 oB oS 3) [(.ref oB), (.ref oB)])) rfl rfl (hb hby d14_26)
  obtain ⟨cq463, q463, q463'⟩ := EB.cell
  obtain ⟨_, _, ⟨T463, L463, k463, n463⟩, -, X463, ⟨Lc463, hQ463, l463, y463, z463⟩, st463⟩ := X462.privateBack hx (y := own_y_249) hown (mvT hZ (own_w hw 88 rfl)) (mvT hZ (own_w hw 89 rfl)) (own_selfsel (args := #[]) (mvT hZ (own_w hw 91 rfl)) (Cond.privateMethod_at (mvP hZ (own_w hw 90 rfl) (args := #[]))) (mvT hZ (own_w hw 89 rfl)) (by decide)) (Cond.privateMethod_at (mvP hZ (own_w hw 90 rfl) (args := #[]))) (mvT hZ (own_w hw 92 rfl)) (by decide) (backOf (W := 0) (rmPs33 hw oB yB kB oS yS kS d0 d1 d2 c0 c1 c2 Z0 Ev EB FvB FcB FnB VB ES FcS FvS VS GY) hZ (own_w hw 92 rfl) (own_w hw 62 rfl) (by decide) (by decide)) (g := (mkF m 30 (Y17 oB oS 3) [(.ref oS), (.int (3 : Int32)), (.ref oB)])) rfl (by rw [hml]; rfl) (Steps.refl _) (a := oB) (by rw [e462]; exact q463) q463' (argsL := [(.int (3 : Int32)), (.ref oS)]) (rest := []) (lenOf pd_285 rfl) rfl (by show 2 * 0 + _ ≤ _; exact Nat.le_of_eq rfl) (hb hby d14_30) (fun _ _ => ⟨rfl, e462, (by decide : 0 + 0 ≤ _), (by decide : 0 + 0 ≤ _)⟩)
  dsimp only [Pt.U, Pt.locs, Pt.cells, Pt.slots] at X463 l463 y463 z463 st463 hQ463
  subst y463 z463
  obtain ⟨rfl, Nq463, K463, V463⟩ := hQ463
  have N463 : Fr n0 L463 := by rw [l463]; exact Fr.app N461 Nq463
  replace X463 := own_more (k := 0) (n := 0) X463 (Nat.le_of_ble_eq_true rfl) (Nat.le_of_ble_eq_true rfl)
  have c465 := (Keep.refl h0 [oB, yB]).trans K463 (allS (Or.inl (List.mem_of_getElem? (i := 1) rfl)) all0)
  have c467 := EB.keep K463
  have c468 := FvB.keep K463 (ninS (Ne.symm hne) nin0)
  have c469 := FcB.keep K463 (ninS (Ne.symm hne) nin0)
  have c470 := FnB.keep K463 (ninS (Ne.symm hne) nin0)
  obtain ⟨T472, X472, e472, st472⟩ := getF X463 hx hZ hown (host := "") (Or.inl (own_w hw 81 rfl)) Via.refl rfl c470 (g := (mkF m 35 (Y17 oB oS 3) [(.ref oB), (.ref oB)])) rfl rfl (hb hby d14_35)
  obtain ⟨T473, h473, X473, e473, W473, st473⟩ := putF X472 hx hZ hown (host := "") (Or.inl (own_w hw 81 rfl)) Via.refl e472 c470 c467 (Or.inl (own_w hw 82 rfl)) (own_w hw 53 rfl) (ty := .int) (by decide) rfl rfl (g := (mkF m 40 (Y17 oB oS 3) [(.int (6 : Int32)), (.ref oB)])) rfl rfl (hb hby d14_40)
  have Fw473 := c470.same W473
  have N473 := Fr.snoc X473 N463 GB
  have c475 := c465.wr W473 (Or.inl (List.mem_of_getElem? (i := 0) rfl))
  have c478 := c468.other W473 (Or.inr (own_sn_292 hw))
  have c479 := c469.other W473 (Or.inr (own_sn_293 hw))
  have c481 := V463.other W473 hne
  have pre482 : PQ p e below T473 (mkF m 44 (Y17 oB oS 3) [(.ref oB)]) bs := fun t kt => pre0 t (by
    refine XS.aloadN X0.here hx rfl (hb hby d14_0) rfl rfl ?_
    refine XS.ifnonnullYes X0.here hx rfl (pc0 := 1) (pc' := 9) rfl (hb hby d14_1) rfl (by decide) (by decide) ?_
    refine XS.aloadN X0.here hx rfl (hb hby d14_9) rfl rfl ?_
    refine st459.trans ?_
    refine XS.istoreN X459.here hx rfl (hb hby d14_13) rfl (l' := (Y17 oB oS 3)) rfl ?_
    refine XS.aloadN X459.here hx rfl (hb hby d14_14) rfl rfl ?_
    refine XS.aloadN X459.here hx rfl (hb hby d14_15) rfl rfl ?_
    refine st460 _ ?_
    refine XS.iloadN X460.here hx rfl (hb hby d14_19) rfl ?_
    refine XS.iadd X460.here hx rfl (hb hby d14_20) rfl ?_
    refine st461.trans ?_
    refine XS.aloadN X461.here hx rfl (hb hby d14_24) rfl rfl ?_
    refine XS.aloadN X461.here hx rfl (hb hby d14_25) rfl rfl ?_
    refine st462 _ ?_
    refine XS.aloadN X462.here hx rfl (hb hby d14_29) rfl rfl ?_
    refine st463.trans ?_
    refine XS.aloadN X463.here hx rfl (hb hby d14_33) rfl rfl ?_
    refine XS.dup X463.here hx rfl (hb hby d14_34) rfl rfl ?_
    refine st472 _ ?_
    refine XS.iloadN X472.here hx rfl (hb hby d14_38) rfl ?_
    refine XS.iadd X472.here hx rfl (hb hby d14_39) rfl ?_
    refine st473 _ ?_
    refine XS.aloadN X473.here hx rfl (hb hby d14_43) rfl rfl ?_
    exact kt)
  have hQ : QAp33 Z oB yB kB d0 d1 d2 c0 c1 c2 h0 n0 (some (.ref oB)) h473 _ := ⟨rfl, N473, c475, c478, c479, Fw473, c481⟩
  exact own_retA X473 hx hlk rfl hrt rfl (hb hby d14_44) pre482 (show QAp33 Z oB yB kB d0 d1 d2 c0 c1 c2 h0 n0 _ _ _ from (by rw [e473]; exact hQ)) (by decide) (by decide)
set_option maxRecDepth 65536 in
set_option maxHeartbeats 40000000 in
theorem rmAq33 {l : Launch} {Z : State} {a0 : Array Value} (hw : Hw a0 Z) {ws : List Jvm.Cond} (oB yB : Addr) (kB : ClassId) (oS yS : Addr) (kS : ClassId) (d0 d1 d2 : Int32) (c0 c1 c2 : Int32) {h0 : Heap} {n0 : Nat} (Z0 : n0 ≤ h0.size) {cs : Int32} {fv : Value} (Ev : Ev0 Z n0 h0 cs fv) (EB : Exa Z h0 oB "java/lang/StringBuilder") (FvB : Fc Z h0 oB (.ref yB)) (FcB : Fd Z h0 oB (.int (0 : Int32))) (FnB : Fe Z h0 oB (.int (3 : Int32))) (VB : Arv Z h0 yB kB .byte (16 : Int32) [(.int d0), (.int d1), (.int d2), o0, o0, o0, o0, o0, o0, o0, o0, o0, o0, o0, o0, o0] (.int (0 : Int32))) (ES : Exa Z h0 oS "java/lang/String") (FcS : Fa Z h0 oS (.int (0 : Int32))) (FvS : Fb Z h0 oS (.ref yS)) (VS : Arv Z h0 yS kS .byte (3 : Int32) [(.int c0), (.int c1), (.int c2)] (.int (0 : Int32))) (GB : n0 ≤ oB) (GY : n0 ≤ yB) (hne : yB ≠ oB) : MF l Z own_y_296 jdk_67_method_7_code 2 (some (.object "java/lang/StringBuilder")) ws (⟨4, 0, 0, 61⟩ : Room) #[(.ref oB), (.ref oS)] h0 (QAp33 Z oB yB kB d0 d1 d2 c0 c1 c2 h0 n0) := by
  refine own_en (plainFor_of_name pn_198) (fun m => ef_297 m oB oS) fun p e s m below meth c s₁ bs hx hby hml hZ hown hnm X0 e0 hlk hrt pre0 => ?_
  have N0 := Fr.nil n0
  obtain ⟨_, _, ⟨T483, L483, k483, n483⟩, -, X483, ⟨Lc483, hQ483, l483, y483, z483⟩, st483⟩ := superBack X0 hx hZ (y := own_y_265) hown (own_w hw 75 rfl) (own_same (y' := ⟨"java/lang/AbstractStringBuilder", "getValue", "()[B"⟩) (own_w hw 123 rfl) rfl (own_w hw 76 rfl) (by decide)) (own_w hw 76 rfl) (own_w hw 77 rfl) (by decide) (backOf (W := 0) (rmAp33 hw oB yB kB oS yS kS d0 d1 d2 c0 c1 c2 Z0 Ev EB FvB FcB FnB VB ES FcS FvS VS GB GY hne) hZ (own_w hw 79 rfl) (own_w hw 62 rfl) (by decide) (by decide)) e0 (Ins.self EB) (g := (mkF m 2 (Y11 oB oS) [(.ref oS), (.ref oB)])) rfl (by rw [hml]; rfl) (own_w hw 79 rfl) (argsL := [(.ref oS)]) (rest := []) (lenOf pd_301 rfl) rfl (by show 2 * 0 + _ ≤ _; exact Nat.le_of_eq rfl) (hb hby d13_2) (fun _ _ => ⟨rfl, e0, (by decide : 0 + 0 ≤ _), (by decide : 0 + 0 ≤ _)⟩)
  dsimp only [Pt.U, Pt.locs, Pt.cells, Pt.slots] at X483 l483 y483 z483 st483 hQ483
  subst y483 z483
  obtain ⟨rfl, Nq483, K483, Fv483, Fc483, Fn483, V483⟩ := hQ483
  have N483 : Fr n0 L483 := by rw [l483]; exact Fr.app N0 Nq483
  replace X483 := own_more (k := 0) (n := 0) X483 (Nat.le_of_ble_eq_true rfl) (Nat.le_of_ble_eq_true rfl)
  have pre484 : PQ p e below T483 (mkF m 7 (Y11 oB oS) [(.ref oB)]) bs := fun t kt => pre0 t (by
    refine XS.aloadN X0.here hx rfl (hb hby d13_0) rfl rfl ?_
    refine XS.aloadN X0.here hx rfl (hb hby d13_1) rfl rfl ?_
    refine st483.trans ?_
    refine XS.pop X483.here hx rfl (hb hby d13_5) rfl rfl ?_
    refine XS.aloadN X483.here hx rfl (hb hby d13_6) rfl rfl ?_
    exact kt)
  exact own_retA X483 hx hlk rfl hrt rfl (hb hby d13_7) pre484 (show QAp33 Z oB yB kB d0 d1 d2 c0 c1 c2 h0 n0 _ _ _ from ⟨rfl, N483, K483, Fv483, Fc483, Fn483, V483⟩) (by decide) (by decide)
def QA (r : Addr) (h0 : Heap) (n0 : Nat) (v : Option Value) (h : Heap) (L : List Loc) : Prop := v = some (.ref r) ∧ Fr n0 L ∧ h = h0

abbrev own_y_305 : MethodName := (⟨"java/lang/AbstractStringBuilder", "getValue", "()[B"⟩ : MethodName)
theorem ef_306 (m : MethodId) (x0 : Addr) : entryFrame m #[(.ref x0)] 1 = mkF m 0 #[.val (.ref x0)] [] := by first | (simp [entryFrame, mkF, argsToLocals, Value.category]; done) | rfl
theorem d22_0 : decode jdk_68_method_64_code 0 = .ok (.aload_n 0, 1) := by decide +kernel
theorem d22_1 : decode jdk_68_method_64_code 1 = .ok (.getfield 15, 3) := by decide +kernel
theorem d22_4 : decode jdk_68_method_64_code 4 = .ok (.areturn, 1) := by decide +kernel
set_option maxRecDepth 65536 in
set_option maxHeartbeats 40000000 in
theorem rmGv {l : Launch} {Z : State} {a0 : Array Value} (hw : Hw a0 Z) {ws : List Jvm.Cond} (oB yB : Addr) {h0 : Heap} {n0 : Nat} (Z0 : n0 ≤ h0.size) (FvB : Fc Z h0 oB (.ref yB)) : MF l Z own_y_305 jdk_68_method_64_code 1 (some (.array .byte)) ws (⟨0, 0, 0, 0⟩ : Room) #[(.ref oB)] h0 (QA yB h0 n0) := by
  refine own_en (plainFor_of_name pn_178) (fun m => ef_306 m oB) fun p e s m below meth c s₁ bs hx hby hml hZ hown hnm X0 e0 hlk hrt pre0 => ?_
  have N0 := Fr.nil n0
  obtain ⟨T485, X485, e485, st485⟩ := getF X0 hx hZ hown (host := "") (Or.inl (own_w hw 66 rfl)) Via.refl e0 FvB (g := (mkF m 1 #[.val (.ref oB)] [(.ref oB)])) rfl rfl (hb hby d22_1)
  have pre486 : PQ p e below T485 (mkF m 4 #[.val (.ref oB)] [(.ref yB)]) bs := fun t kt => pre0 t (by
    refine XS.aloadN X0.here hx rfl (hb hby d22_0) rfl rfl ?_
    refine st485 _ ?_
    exact kt)
  exact own_retA X485 hx hlk rfl hrt rfl (hb hby d22_4) pre486 (show QA yB h0 n0 _ _ _ from ⟨rfl, N0, e485⟩) (by decide) (by decide)
abbrev own_y_310 : MethodName := (⟨"java/lang/AbstractStringBuilder", "length", "()I"⟩ : MethodName)
theorem ef_311 (m : MethodId) (x0 : Addr) : entryFrame m #[(.ref x0)] 1 = mkF m 0 #[.val (.ref x0)] [] := by first | (simp [entryFrame, mkF, argsToLocals, Value.category]; done) | rfl
theorem d24_0 : decode jdk_68_method_6_code 0 = .ok (.aload_n 0, 1) := by decide +kernel
theorem d24_1 : decode jdk_68_method_6_code 1 = .ok (.getfield 79, 3) := by decide +kernel
theorem d24_4 : decode jdk_68_method_6_code 4 = .ok (.ireturn, 1) := by decide +kernel
set_option maxRecDepth 65536 in
set_option maxHeartbeats 40000000 in
theorem rmBl {l : Launch} {Z : State} {a0 : Array Value} (hw : Hw a0 Z) {ws : List Jvm.Cond} (oB : Addr) (x : Int32) {h0 : Heap} {n0 : Nat} (Z0 : n0 ≤ h0.size) (FnB : Fe Z h0 oB (.int x)) : MF l Z own_y_310 jdk_68_method_6_code 1 (some .int) ws (⟨0, 0, 0, 0⟩ : Room) #[(.ref oB)] h0 (QI x h0 n0) := by
  refine own_en (plainFor_of_name pn_178) (fun m => ef_311 m oB) fun p e s m below meth c s₁ bs hx hby hml hZ hown hnm X0 e0 hlk hrt pre0 => ?_
  have N0 := Fr.nil n0
  obtain ⟨T487, X487, e487, st487⟩ := getF X0 hx hZ hown (host := "") (Or.inl (own_w hw 81 rfl)) Via.refl e0 FnB (g := (mkF m 1 #[.val (.ref oB)] [(.ref oB)])) rfl rfl (hb hby d24_1)
  have pre488 : PQ p e below T487 (mkF m 4 #[.val (.ref oB)] [(.int x)]) bs := fun t kt => pre0 t (by
    refine XS.aloadN X0.here hx rfl (hb hby d24_0) rfl rfl ?_
    refine st487 _ ?_
    exact kt)
  exact own_retI X487 hx hlk hrt (hb hby d24_4) pre488 (show QI x h0 n0 _ _ _ from ⟨rfl, N0, e487⟩) (by decide) (by decide)
abbrev own_y_315 : MethodName := (⟨"java/lang/StringBuilder", "length", "()I"⟩ : MethodName)
theorem ef_316 (m : MethodId) (x0 : Addr) : entryFrame m #[(.ref x0)] 1 = mkF m 0 #[.val (.ref x0)] [] := by first | (simp [entryFrame, mkF, argsToLocals, Value.category]; done) | rfl
theorem d23_0 : decode jdk_67_method_93_code 0 = .ok (.aload_n 0, 1) := by decide +kernel
theorem d23_1 : decode jdk_67_method_93_code 1 = .ok (.invokespecial 343, 3) := by decide +kernel
theorem d23_4 : decode jdk_67_method_93_code 4 = .ok (.ireturn, 1) := by decide +kernel
set_option maxRecDepth 65536 in
set_option maxHeartbeats 40000000 in
theorem rmBm {l : Launch} {Z : State} {a0 : Array Value} (hw : Hw a0 Z) {ws : List Jvm.Cond} (oB : Addr) (x : Int32) {h0 : Heap} {n0 : Nat} (Z0 : n0 ≤ h0.size) (EB : Exa Z h0 oB "java/lang/StringBuilder") (FnB : Fe Z h0 oB (.int x)) : MF l Z own_y_315 jdk_67_method_93_code 1 (some .int) ws (⟨1, 0, 0, 12⟩ : Room) #[(.ref oB)] h0 (QI x h0 n0) := by
  refine own_en (plainFor_of_name pn_198) (fun m => ef_316 m oB) fun p e s m below meth c s₁ bs hx hby hml hZ hown hnm X0 e0 hlk hrt pre0 => ?_
  have N0 := Fr.nil n0
  obtain ⟨_, _, ⟨T489, L489, k489, n489⟩, -, X489, ⟨Lc489, hQ489, l489, y489, z489⟩, st489⟩ := superBack X0 hx hZ (y := own_y_310) hown (own_w hw 131 rfl) (own_same (y' := ⟨"java/lang/AbstractStringBuilder", "getValue", "()[B"⟩) (own_w hw 123 rfl) rfl (own_w hw 127 rfl) (by decide)) (own_w hw 127 rfl) (own_w hw 77 rfl) (by decide) (backOf (W := 0) (rmBl hw oB x Z0 FnB) hZ (own_w hw 132 rfl) (own_w hw 62 rfl) (by decide) (by decide)) e0 (Ins.self EB) (g := (mkF m 1 #[.val (.ref oB)] [(.ref oB)])) rfl (by rw [hml]; rfl) (own_w hw 132 rfl) (argsL := []) (rest := []) (lenOf pd_272 rfl) rfl (by show 2 * 0 + _ ≤ _; exact Nat.le_of_eq rfl) (hb hby d23_1) (fun _ _ => ⟨rfl, e0, (by decide : 0 + 0 ≤ _), (by decide : 0 + 0 ≤ _)⟩)
  dsimp only [Pt.U, Pt.locs, Pt.cells, Pt.slots] at X489 l489 y489 z489 st489 hQ489
  subst y489 z489
  obtain ⟨rfl, Nq489, e489⟩ := hQ489
  have N489 : Fr n0 L489 := by rw [l489]; exact Fr.app N0 Nq489
  replace X489 := own_more (k := 0) (n := 0) X489 (Nat.le_of_ble_eq_true rfl) (Nat.le_of_ble_eq_true rfl)
  have pre490 : PQ p e below T489 (mkF m 4 #[.val (.ref oB)] [(.int x)]) bs := fun t kt => pre0 t (by
    refine XS.aloadN X0.here hx rfl (hb hby d23_0) rfl rfl ?_
    refine st489.trans ?_
    exact kt)
  exact own_retI X489 hx hlk hrt (hb hby d23_4) pre490 (show QI x h0 n0 _ _ _ from ⟨rfl, N489, e489⟩) (by decide) (by decide)
abbrev own_y_320 : MethodName := (⟨"java/lang/AbstractStringBuilder", "isLatin1", "()Z"⟩ : MethodName)
theorem ef_321 (m : MethodId) (x0 : Addr) : entryFrame m #[(.ref x0)] 1 = mkF m 0 #[.val (.ref x0)] [] := by first | (simp [entryFrame, mkF, argsToLocals, Value.category]; done) | rfl
theorem d25_0 : decode jdk_68_method_68_code 0 = .ok (.getstatic 18, 3) := by decide +kernel
theorem d25_3 : decode jdk_68_method_68_code 3 = .ok (.ifCond .eq 14, 3) := by decide +kernel
theorem d25_6 : decode jdk_68_method_68_code 6 = .ok (.aload_n 0, 1) := by decide +kernel
theorem d25_7 : decode jdk_68_method_68_code 7 = .ok (.getfield 22, 3) := by decide +kernel
theorem d25_10 : decode jdk_68_method_68_code 10 = .ok (.ifCond .ne 7, 3) := by decide +kernel
theorem d25_13 : decode jdk_68_method_68_code 13 = .ok (.iconst 1, 1) := by decide +kernel
theorem d25_14 : decode jdk_68_method_68_code 14 = .ok (.goto 4, 3) := by decide +kernel
theorem d25_18 : decode jdk_68_method_68_code 18 = .ok (.ireturn, 1) := by decide +kernel
set_option maxRecDepth 65536 in
set_option maxHeartbeats 40000000 in
theorem rmBt {l : Launch} {Z : State} {a0 : Array Value} (hw : Hw a0 Z) {ws : List Jvm.Cond} (oB : Addr) {h0 : Heap} {n0 : Nat} (Z0 : n0 ≤ h0.size) {cs : Int32} {fv : Value} (Ev : Ev0 Z n0 h0 cs fv) (FcB : Fd Z h0 oB (.int (0 : Int32))) : MF l Z own_y_320 jdk_68_method_68_code 1 (some .boolean) ws (⟨0, 0, 0, 0⟩ : Room) #[(.ref oB)] h0 (QI (1 : Int32) h0 n0) := by
  refine own_en (plainFor_of_name pn_178) (fun m => ef_321 m oB) fun p e s m below meth c s₁ bs hx hby hml hZ hown hnm X0 e0 hlk hrt pre0 => ?_
  have N0 := Fr.nil n0
  obtain ⟨T491, X491, e491, st491⟩ := getS2 X0 hx hZ hown (host := "") (Or.inl (own_w hw 65 rfl)) Via.refl e0 (own_cs Ev) (g := (mkF m 0 #[.val (.ref oB)] [])) rfl (hb hby d25_0)
  obtain ⟨T492, X492, e492, st492⟩ := getF X491 hx hZ hown (host := "") (Or.inl (own_w hw 68 rfl)) Via.refl e491 FcB (g := (mkF m 7 #[.val (.ref oB)] [(.ref oB)])) rfl rfl (hb hby d25_7)
  have pre493 : PQ p e below T492 (mkF m 18 #[.val (.ref oB)] [(.int (1 : Int32))]) bs := fun t kt => pre0 t (by
    refine st491 _ ?_
    refine XS.ifNo X491.here hx rfl (hb hby d25_3) rfl ((if0 _ _).trans (feq Ev.2.2.1).1) ?_
    refine XS.aloadN X491.here hx rfl (hb hby d25_6) rfl rfl ?_
    refine st492 _ ?_
    refine XS.ifNo X492.here hx rfl (hb hby d25_10) rfl ((if0 _ _).trans (teq (by decide : (0 : Int32) = (0 : Int32))).2) ?_
    refine XS.iconst X492.here hx rfl (hb hby d25_13) ?_
    refine XS.goto X492.here hx rfl (pc0 := 14) (pc' := 18) rfl (hb hby d25_14) (by decide) (by decide) ?_
    exact kt)
  exact own_retN X492 hx hlk (t := .boolean) hrt (by simp) (hb hby d25_18) pre493 (show QI (1 : Int32) h0 n0 _ _ _ from ⟨rfl, N0, e492⟩) (by decide) (by decide)
abbrev own_y_330 : MethodName := (⟨"java/util/Arrays", "checkLength", "(II)V"⟩ : MethodName)
theorem ef_331 (m : MethodId) (x0 : Int32) (x1 : Int32) : entryFrame m #[(.int x0), (.int x1)] 2 = mkF m 0 #[.val (.int x0), .val (.int x1)] [] := by first | (simp [entryFrame, mkF, argsToLocals, Value.category]; done) | rfl
theorem pn_332 : plainName "java/util/Arrays" = true := by first | (simp [plainName, overriddenIn]; done) | decide +kernel
theorem d28_0 : decode jdk_65_method_131_code 0 = .ok (.iload_n 1, 1) := by decide +kernel
theorem d28_1 : decode jdk_65_method_131_code 1 = .ok (.iload_n 0, 1) := by decide +kernel
theorem d28_2 : decode jdk_65_method_131_code 2 = .ok (.if_icmp .ge 35, 3) := by decide +kernel
theorem d28_37 : decode jdk_65_method_131_code 37 = .ok (.return_, 1) := by decide +kernel
set_option maxRecDepth 65536 in
set_option maxHeartbeats 40000000 in
theorem rmCk3 {l : Launch} {Z : State} {a0 : Array Value} (hw : Hw a0 Z) {ws : List Jvm.Cond}  {h0 : Heap} {n0 : Nat} (Z0 : n0 ≤ h0.size) : MF l Z own_y_330 jdk_65_method_131_code 2 none ws (⟨0, 0, 0, 0⟩ : Room) #[(.int (0 : Int32)), (.int (3 : Int32))] h0 (QU h0 n0) := by
  refine own_en (plainFor_of_name pn_332) (fun m => ef_331 m (0 : Int32) (3 : Int32)) fun p e s m below meth c s₁ bs hx hby hml hZ hown hnm X0 e0 hlk hrt pre0 => ?_
  have N0 := Fr.nil n0
  have pre494 : PQ p e below s₁ (mkF m 37 (Y2 0 3) []) bs := fun t kt => pre0 t (by
    refine XS.iloadN X0.here hx rfl (hb hby d28_0) rfl ?_
    refine XS.iloadN X0.here hx rfl (hb hby d28_1) rfl ?_
    refine XS.icmpYes X0.here hx rfl (pc0 := 2) (pc' := 37) rfl (hb hby d28_2) rfl (flt (by decide : ¬ ((3 : Int32) < (0 : Int32)))).2.1 (by decide) (by decide) ?_
    exact kt)
  exact own_retV X0 hx hlk hrt (hb hby d28_37) pre494 (show QU h0 n0 _ _ _ from ⟨rfl, N0, e0⟩) (by decide) (by decide)
abbrev own_y_337 : MethodName := (⟨"java/lang/Math", "min", "(II)I"⟩ : MethodName)
theorem ef_338 (m : MethodId) (x0 : Int32) (x1 : Int32) : entryFrame m #[(.int x0), (.int x1)] 2 = mkF m 0 #[.val (.int x0), .val (.int x1)] [] := by first | (simp [entryFrame, mkF, argsToLocals, Value.category]; done) | rfl
theorem d29_0 : decode jdk_29_method_69_code 0 = .ok (.iload_n 0, 1) := by decide +kernel
theorem d29_1 : decode jdk_29_method_69_code 1 = .ok (.iload_n 1, 1) := by decide +kernel
theorem d29_2 : decode jdk_29_method_69_code 2 = .ok (.if_icmp .gt 7, 3) := by decide +kernel
theorem d29_9 : decode jdk_29_method_69_code 9 = .ok (.iload_n 1, 1) := by decide +kernel
theorem d29_10 : decode jdk_29_method_69_code 10 = .ok (.ireturn, 1) := by decide +kernel
set_option maxRecDepth 65536 in
set_option maxHeartbeats 40000000 in
theorem rmMn3 {l : Launch} {Z : State} {a0 : Array Value} (hw : Hw a0 Z) {ws : List Jvm.Cond}  {h0 : Heap} {n0 : Nat} (Z0 : n0 ≤ h0.size) : MF l Z own_y_337 jdk_29_method_69_code 2 (some .int) ws (⟨0, 0, 0, 0⟩ : Room) #[(.int (16 : Int32)), (.int (3 : Int32))] h0 (QI (3 : Int32) h0 n0) := by
  refine own_en (Jvm.Free.JP.mathPlain rfl (by decide +kernel)) (fun m => ef_338 m (16 : Int32) (3 : Int32)) fun p e s m below meth c s₁ bs hx hby hml hZ hown hnm X0 e0 hlk hrt pre0 => ?_
  have N0 := Fr.nil n0
  have pre495 : PQ p e below s₁ (mkF m 10 (Y2 16 3) [(.int (3 : Int32))]) bs := fun t kt => pre0 t (by
    refine XS.iloadN X0.here hx rfl (hb hby d29_0) rfl ?_
    refine XS.iloadN X0.here hx rfl (hb hby d29_1) rfl ?_
    refine XS.icmpYes X0.here hx rfl (pc0 := 2) (pc' := 9) rfl (hb hby d29_2) rfl (tlt (by decide : (3 : Int32) < (16 : Int32))).2.2.1 (by decide) (by decide) ?_
    refine XS.iloadN X0.here hx rfl (hb hby d29_9) rfl ?_
    exact kt)
  exact own_retI X0 hx hlk hrt (hb hby d29_10) pre495 (show QI (3 : Int32) h0 n0 _ _ _ from ⟨rfl, N0, e0⟩) (by decide) (by decide)
abbrev own_y_344 : MethodName := (⟨"java/util/Arrays", "copyOfRangeByte", "([BII)[B"⟩ : MethodName)
theorem ef_345 (m : MethodId) (x0 : Addr) (x1 : Int32) (x2 : Int32) : entryFrame m #[(.ref x0), (.int x1), (.int x2)] 5 = mkF m 0 #[.val (.ref x0), .val (.int x1), .val (.int x2), .unset, .unset] [] := by first | (simp [entryFrame, mkF, argsToLocals, Value.category]; done) | rfl
theorem d27_0 : decode jdk_65_method_133_code 0 = .ok (.iload_n 1, 1) := by decide +kernel
theorem d27_1 : decode jdk_65_method_133_code 1 = .ok (.iload_n 2, 1) := by decide +kernel
theorem d27_2 : decode jdk_65_method_133_code 2 = .ok (.invokestatic 343, 3) := by decide +kernel
theorem own_k_349 {Z : State} {a0 : Array Value} (hw : Hw a0 Z) : KS Z a0 "java/util/Arrays" 343 own_y_330 jdk_65_method_131_code 2 none := ⟨(own_w hw 145 rfl), (own_w hw 146 rfl), (own_w hw 147 rfl), (own_w hw 140 rfl), by decide⟩
theorem d27_5 : decode jdk_65_method_133_code 5 = .ok (.iload_n 2, 1) := by decide +kernel
theorem d27_6 : decode jdk_65_method_133_code 6 = .ok (.iload_n 1, 1) := by decide +kernel
theorem d27_7 : decode jdk_65_method_133_code 7 = .ok (.isub, 1) := by decide +kernel
theorem d27_8 : decode jdk_65_method_133_code 8 = .ok (.istore_n 3, 1) := by decide +kernel
theorem d27_9 : decode jdk_65_method_133_code 9 = .ok (.iload_n 3, 1) := by decide +kernel
theorem d27_10 : decode jdk_65_method_133_code 10 = .ok (.newarray .byte, 2) := by decide +kernel
theorem d27_12 : decode jdk_65_method_133_code 12 = .ok (.astore 4, 2) := by decide +kernel
theorem d27_14 : decode jdk_65_method_133_code 14 = .ok (.aload_n 0, 1) := by decide +kernel
theorem d27_15 : decode jdk_65_method_133_code 15 = .ok (.iload_n 1, 1) := by decide +kernel
theorem d27_16 : decode jdk_65_method_133_code 16 = .ok (.aload 4, 2) := by decide +kernel
theorem d27_18 : decode jdk_65_method_133_code 18 = .ok (.iconst 0, 1) := by decide +kernel
theorem d27_19 : decode jdk_65_method_133_code 19 = .ok (.aload_n 0, 1) := by decide +kernel
theorem d27_20 : decode jdk_65_method_133_code 20 = .ok (.arraylength, 1) := by decide +kernel
theorem d27_21 : decode jdk_65_method_133_code 21 = .ok (.iload_n 1, 1) := by decide +kernel
theorem d27_22 : decode jdk_65_method_133_code 22 = .ok (.isub, 1) := by decide +kernel
theorem d27_23 : decode jdk_65_method_133_code 23 = .ok (.iload_n 3, 1) := by decide +kernel
theorem d27_24 : decode jdk_65_method_133_code 24 = .ok (.invokestatic 304, 3) := by decide +kernel
theorem own_k_367 {Z : State} {a0 : Array Value} (hw : Hw a0 Z) : KS Z a0 "java/util/Arrays" 304 own_y_337 jdk_29_method_69_code 2 (some .int) := ⟨(own_w hw 148 rfl), (own_w hw 149 rfl), (own_w hw 151 rfl), (own_w hw 150 rfl), by decide⟩
theorem pd_368 : parseMethodDescriptor "(II)I" = some ⟨[.int, .int], some .int⟩ := by decide +kernel
theorem d27_27 : decode jdk_65_method_133_code 27 = .ok (.invokestatic 150, 3) := by decide +kernel
theorem d27_30 : decode jdk_65_method_133_code 30 = .ok (.aload 4, 2) := by decide +kernel
theorem d27_32 : decode jdk_65_method_133_code 32 = .ok (.areturn, 1) := by decide +kernel
def QCb3 (Z : State) (c0 c1 c2 : Int32) (h0 : Heap) (n0 : Nat) (v : Option Value) (h : Heap) (L : List Loc) : Prop := ∃ (r : Addr) (k : ClassId), v = some (.ref r) ∧ Fr n0 L ∧ Keep h0 h [] ∧ h0.size ≤ r ∧ n0 ≤ r ∧ Arv Z h r k .byte (3 : Int32) [(.int c0), (.int c1), (.int c2)] (.int (0 : Int32))
set_option maxRecDepth 65536 in
set_option maxHeartbeats 40000000 in
theorem rmCb3 {l : Launch} {Z : State} {a0 : Array Value} (hw : Hw a0 Z) {ws : List Jvm.Cond} (yB : Addr) (kB : ClassId) (c0 c1 c2 : Int32) {h0 : Heap} {n0 : Nat} (Z0 : n0 ≤ h0.size) (VB : Arv Z h0 yB kB .byte (16 : Int32) [(.int c0), (.int c1), (.int c2), o0, o0, o0, o0, o0, o0, o0, o0, o0, o0, o0, o0, o0] (.int (0 : Int32))) : MF l Z own_y_344 jdk_65_method_133_code 5 (some (.array .byte)) ws (⟨1, 1, 3, 18⟩ : Room) #[(.ref yB), o0, (.int (3 : Int32))] h0 (QCb3 Z c0 c1 c2 h0 n0) := by
  refine own_en (plainFor_of_name pn_332) (fun m => ef_345 m yB (0 : Int32) (3 : Int32)) fun p e s m below meth c s₁ bs hx hby hml hZ hown hnm X0 e0 hlk hrt pre0 => ?_
  have N0 := Fr.nil n0
  obtain ⟨_, T496, L496, X496, N496, ⟨_, rfl, -, e496⟩, st496⟩ := own_cS X0 hx hZ hown (own_k_349 hw) (rmCk3 hw  Z0 ) (W := 0) (k := 0) (n := 0) (by decide) e0 N0 (fun _ _ _ h => h.2.1) (Ls := (Y18 yB 0 3)) (rest := []) hml.symm (lenOf pd_59 rfl) (Nat.le_of_eq rfl) (hb hby d27_2)
  obtain ⟨T497, h497, k497, X497, e497, E497, A497, st497⟩ := newP X496 hx hZ (own_w hw 24 rfl) e496 (g := (mkF m 10 (Y19 yB 0 3 3) [(.int (3 : Int32))])) rfl (hb hby d27_10) rfl (by decide) (cap := 3) (by decide) (by decide) (by decide) (by decide)
  obtain ⟨b497, g497⟩ : ∃ z, z = h0.size := ⟨_, rfl⟩
  rw [← g497] at A497 st497
  have G497 : n0 ≤ b497 := Nat.le_trans Z0 (Nat.le_of_eq g497.symm)
  have sz497 : h0.size ≤ b497 := Nat.le_trans (Keep.refl h0 []).1 (Nat.le_of_eq g497.symm)
  have c499 := (Keep.refl h0 []).ext E497
  have c500 := VB.ext E497
  have z501 : n0 ≤ h497.size := Nat.le_trans Z0 E497.1
  have V497 : Arv Z h497 b497 k497 .byte (3 : Int32) [(.int (0 : Int32)), o0, o0] (.int (0 : Int32)) := (Arv.new A497 (by decide)).pad (pad_rep [] (.int (0 : Int32)) 3)
  obtain ⟨cl502, A502, q502, S502, M502, H502, J502⟩ := id c500
  obtain ⟨_, T503, L503, X503, N503, ⟨_, rfl, -, e503⟩, st503⟩ := own_cS X497 hx hZ hown (own_k_367 hw) (rmMn3 hw  z501 ) (W := 4) (k := 1) (n := 3) (by decide) e497 N496 (fun _ _ _ h => h.2.1) (Ls := (Y20 yB 0 3 3 b497)) (rest := [(.int (0 : Int32)), (.ref b497), o0, (.ref yB)]) hml.symm (lenOf pd_368 rfl) (Nat.le_of_eq rfl) (hb hby d27_24)
  obtain ⟨T504, h504, L504, X504, e504, N504, K504, U504, st504⟩ := cpA X503 hx hZ hown (own_w hw 152 rfl) (own_w hw 107 rfl) (own_w hw 105 rfl) (own_w hw 106 rfl) e503 (us := [(.int c0), (.int c1), (.int c2)]) c500 V497 (Or.inl ⟨rfl, rfl⟩) (by decide) (by decide) (by decide) (by decide) (by decide) rfl (Nat.le_of_ble_eq_true rfl) N503 G497 (g := (mkF m 27 (Y20 yB 0 3 3 b497) [(.int (3 : Int32)), o0, (.ref b497), o0, (.ref yB)])) rfl (by rw [hml]; rfl) rfl (hb hby d27_27) (by decide) (W := 0) (by show 2 * 0 + _ ≤ _; exact Nat.le_of_eq rfl) (by decide)
  have V504 : Arv Z h504 b497 k497 .byte (3 : Int32) [(.int c0), (.int c1), (.int c2)] (.int (0 : Int32)) := U504
  have c506 := c499.trans K504 (allS (Or.inr sz497) all0)
  have pre509 : PQ p e below T504 (mkF m 32 (Y20 yB 0 3 3 b497) [(.ref b497)]) bs := fun t kt => pre0 t (by
    refine XS.iloadN X0.here hx rfl (hb hby d27_0) rfl ?_
    refine XS.iloadN X0.here hx rfl (hb hby d27_1) rfl ?_
    refine st496.trans ?_
    refine XS.iloadN X496.here hx rfl (hb hby d27_5) rfl ?_
    refine XS.iloadN X496.here hx rfl (hb hby d27_6) rfl ?_
    refine XS.isub X496.here hx rfl (hb hby d27_7) rfl ?_
    refine XS.istoreN X496.here hx rfl (hb hby d27_8) rfl (l' := (Y19 yB 0 3 3)) rfl ?_
    refine XS.iloadN X496.here hx rfl (hb hby d27_9) rfl ?_
    refine st497 _ ?_
    refine XS.astore X497.here hx rfl (hb hby d27_12) rfl rfl (l' := (Y20 yB 0 3 3 b497)) rfl ?_
    refine XS.aloadN X497.here hx rfl (hb hby d27_14) rfl rfl ?_
    refine XS.iloadN X497.here hx rfl (hb hby d27_15) rfl ?_
    refine XS.aload X497.here hx rfl (hb hby d27_16) rfl rfl ?_
    refine XS.iconst X497.here hx rfl (hb hby d27_18) ?_
    refine XS.aloadN X497.here hx rfl (hb hby d27_19) rfl rfl ?_
    refine X497.arraylength hx (by rw [e497]; exact A502.1) (State.isArrayOf_alike hZ.alike A502.2.1) (g := (mkF m 20 (Y20 yB 0 3 3 b497) [(.ref yB), o0, (.ref b497), o0, (.ref yB)])) rfl rfl (hb hby d27_20) _ ?_
    rw [len_of S502 M502]
    refine XS.iloadN X497.here hx rfl (hb hby d27_21) rfl ?_
    refine XS.isub X497.here hx rfl (hb hby d27_22) rfl ?_
    refine XS.iloadN X497.here hx rfl (hb hby d27_23) rfl ?_
    refine st503.trans ?_
    refine st504 _ ?_
    refine XS.aload X504.here hx rfl (hb hby d27_30) rfl rfl ?_
    exact kt)
  have hQ : QCb3 Z c0 c1 c2 h0 n0 (some (.ref b497)) h504 _ := ⟨b497, k497, rfl, N504, c506, sz497, G497, V504⟩
  exact own_retA X504 hx hlk rfl hrt rfl (hb hby d27_32) pre509 (show QCb3 Z c0 c1 c2 h0 n0 _ _ _ from (by rw [e504]; exact hQ)) (by decide) (by decide)
abbrev own_y_372 : MethodName := (⟨"java/util/Arrays", "copyOfRange", "([BII)[B"⟩ : MethodName)
theorem ef_373 (m : MethodId) (x0 : Addr) (x1 : Int32) (x2 : Int32) : entryFrame m #[(.ref x0), (.int x1), (.int x2)] 3 = mkF m 0 #[.val (.ref x0), .val (.int x1), .val (.int x2)] [] := by first | (simp [entryFrame, mkF, argsToLocals, Value.category]; done) | rfl
theorem d26_0 : decode jdk_65_method_132_code 0 = .ok (.iload_n 1, 1) := by decide +kernel
theorem d26_1 : decode jdk_65_method_132_code 1 = .ok (.ifCond .ne 9, 3) := by decide +kernel
theorem d26_4 : decode jdk_65_method_132_code 4 = .ok (.iload_n 2, 1) := by decide +kernel
theorem d26_5 : decode jdk_65_method_132_code 5 = .ok (.aload_n 0, 1) := by decide +kernel
theorem d26_6 : decode jdk_65_method_132_code 6 = .ok (.arraylength, 1) := by decide +kernel
theorem d26_7 : decode jdk_65_method_132_code 7 = .ok (.if_icmp .eq 10, 3) := by decide +kernel
theorem d26_10 : decode jdk_65_method_132_code 10 = .ok (.aload_n 0, 1) := by decide +kernel
theorem d26_11 : decode jdk_65_method_132_code 11 = .ok (.iload_n 1, 1) := by decide +kernel
theorem d26_12 : decode jdk_65_method_132_code 12 = .ok (.iload_n 2, 1) := by decide +kernel
theorem d26_13 : decode jdk_65_method_132_code 13 = .ok (.invokestatic 339, 3) := by decide +kernel
theorem own_k_384 {Z : State} {a0 : Array Value} (hw : Hw a0 Z) : KS Z a0 "java/util/Arrays" 339 own_y_344 jdk_65_method_133_code 5 (some (.array .byte)) := ⟨(own_w hw 142 rfl), (own_w hw 143 rfl), (own_w hw 144 rfl), (own_w hw 140 rfl), by decide⟩
theorem pd_385 : parseMethodDescriptor "([BII)[B" = some ⟨[(.array .byte), .int, .int], some (.array .byte)⟩ := by decide +kernel
theorem d26_16 : decode jdk_65_method_132_code 16 = .ok (.areturn, 1) := by decide +kernel
set_option maxRecDepth 65536 in
set_option maxHeartbeats 40000000 in
theorem rmCr3 {l : Launch} {Z : State} {a0 : Array Value} (hw : Hw a0 Z) {ws : List Jvm.Cond} (yB : Addr) (kB : ClassId) (c0 c1 c2 : Int32) {h0 : Heap} {n0 : Nat} (Z0 : n0 ≤ h0.size) (VB : Arv Z h0 yB kB .byte (16 : Int32) [(.int c0), (.int c1), (.int c2), o0, o0, o0, o0, o0, o0, o0, o0, o0, o0, o0, o0, o0] (.int (0 : Int32))) : MF l Z own_y_372 jdk_65_method_132_code 3 (some (.array .byte)) ws (⟨2, 1, 3, 34⟩ : Room) #[(.ref yB), o0, (.int (3 : Int32))] h0 (QCb3 Z c0 c1 c2 h0 n0) := by
  refine own_en (plainFor_of_name pn_332) (fun m => ef_373 m yB (0 : Int32) (3 : Int32)) fun p e s m below meth c s₁ bs hx hby hml hZ hown hnm X0 e0 hlk hrt pre0 => ?_
  have N0 := Fr.nil n0
  obtain ⟨cl510, A510, q510, S510, M510, H510, J510⟩ := id VB
  obtain ⟨_, T511, L511, X511, N511, ⟨_, r511, kc511, rfl, -, K511, z511, G511, V511⟩, st511⟩ := own_cS X0 hx hZ hown (own_k_384 hw) (rmCb3 hw yB kB c0 c1 c2 Z0 VB) (W := 0) (k := 1) (n := 3) (by decide) e0 N0 (fun _ _ _ ⟨_, _, _, h, _⟩ => h) (Ls := (Y13 yB 0 3)) (rest := []) hml.symm (lenOf pd_385 rfl) (Nat.le_of_eq rfl) (hb hby d26_13)
  have pre512 : PQ p e below T511 (mkF m 16 (Y13 yB 0 3) [(.ref r511)]) bs := fun t kt => pre0 t (by
    refine XS.iloadN X0.here hx rfl (hb hby d26_0) rfl ?_
    refine XS.ifNo X0.here hx rfl (hb hby d26_1) rfl ((if0 _ _).trans (teq (by decide : (0 : Int32) = (0 : Int32))).2) ?_
    refine XS.iloadN X0.here hx rfl (hb hby d26_4) rfl ?_
    refine XS.aloadN X0.here hx rfl (hb hby d26_5) rfl rfl ?_
    refine X0.arraylength hx (by rw [e0]; exact A510.1) (State.isArrayOf_alike hZ.alike A510.2.1) (g := (mkF m 6 (Y13 yB 0 3) [(.ref yB), (.int (3 : Int32))])) rfl rfl (hb hby d26_6) _ ?_
    rw [len_of S510 M510]
    refine XS.icmpNo X0.here hx rfl (hb hby d26_7) rfl (feq (by decide : ¬ ((3 : Int32) = (16 : Int32)))).1 ?_
    refine XS.aloadN X0.here hx rfl (hb hby d26_10) rfl rfl ?_
    refine XS.iloadN X0.here hx rfl (hb hby d26_11) rfl ?_
    refine XS.iloadN X0.here hx rfl (hb hby d26_12) rfl ?_
    refine st511.trans ?_
    exact kt)
  exact own_retA X511 hx hlk rfl hrt rfl (hb hby d26_16) pre512 (show QCb3 Z c0 c1 c2 h0 n0 _ _ _ from ⟨r511, kc511, rfl, N511, K511, z511, G511, V511⟩) (by decide) (by decide)
abbrev own_y_387 : MethodName := (⟨"java/lang/String", "<init>", "(Ljava/lang/AbstractStringBuilder;Ljava/lang/Void;)V"⟩ : MethodName)
theorem ef_388 (m : MethodId) (x0 : Addr) (x1 : Addr) : entryFrame m #[(.ref x0), (.ref x1), .null] 5 = mkF m 0 #[.val (.ref x0), .val (.ref x1), .val .null, .unset, .unset] [] := by first | (simp [entryFrame, mkF, argsToLocals, Value.category]; done) | rfl
theorem d21_0 : decode jdk_42_method_150_code 0 = .ok (.aload_n 0, 1) := by decide +kernel
theorem d21_1 : decode jdk_42_method_150_code 1 = .ok (.invokespecial 1, 3) := by decide +kernel
theorem d21_4 : decode jdk_42_method_150_code 4 = .ok (.aload_n 1, 1) := by decide +kernel
theorem d21_5 : decode jdk_42_method_150_code 5 = .ok (.invokevirtual 552, 3) := by decide +kernel
theorem own_k_393 {Z : State} {a0 : Array Value} (hw : Hw a0 Z) : KV Z a0 "java/lang/String" "java/lang/StringBuilder" 552 own_y_305 jdk_68_method_64_code 1 (some (.array .byte)) := ⟨(own_w hw 120 rfl), (own_w hw 121 rfl), (own_w hw 123 rfl), (own_w hw 122 rfl), (own_w hw 124 rfl), (own_w hw 62 rfl), by decide⟩
theorem pd_394 : parseMethodDescriptor "()[B" = some ⟨[], some (.array .byte)⟩ := by decide +kernel
theorem d21_8 : decode jdk_42_method_150_code 8 = .ok (.astore_n 3, 1) := by decide +kernel
theorem d21_9 : decode jdk_42_method_150_code 9 = .ok (.aload_n 1, 1) := by decide +kernel
theorem d21_10 : decode jdk_42_method_150_code 10 = .ok (.invokevirtual 549, 3) := by decide +kernel
theorem d21_13 : decode jdk_42_method_150_code 13 = .ok (.istore 4, 2) := by decide +kernel
theorem d21_15 : decode jdk_42_method_150_code 15 = .ok (.aload_n 1, 1) := by decide +kernel
theorem d21_16 : decode jdk_42_method_150_code 16 = .ok (.invokevirtual 1047, 3) := by decide +kernel
theorem own_k_401 {Z : State} {a0 : Array Value} (hw : Hw a0 Z) : KV Z a0 "java/lang/String" "java/lang/StringBuilder" 1047 own_y_320 jdk_68_method_68_code 1 (some .boolean) := ⟨(own_w hw 133 rfl), (own_w hw 134 rfl), (own_w hw 136 rfl), (own_w hw 135 rfl), (own_w hw 137 rfl), (own_w hw 62 rfl), by decide⟩
theorem d21_19 : decode jdk_42_method_150_code 19 = .ok (.ifCond .eq 22, 3) := by decide +kernel
theorem d21_22 : decode jdk_42_method_150_code 22 = .ok (.aload_n 0, 1) := by decide +kernel
theorem d21_23 : decode jdk_42_method_150_code 23 = .ok (.iconst 0, 1) := by decide +kernel
theorem d21_24 : decode jdk_42_method_150_code 24 = .ok (.putfield 15, 3) := by decide +kernel
theorem d21_27 : decode jdk_42_method_150_code 27 = .ok (.aload_n 0, 1) := by decide +kernel
theorem d21_28 : decode jdk_42_method_150_code 28 = .ok (.aload_n 3, 1) := by decide +kernel
theorem d21_29 : decode jdk_42_method_150_code 29 = .ok (.iconst 0, 1) := by decide +kernel
theorem d21_30 : decode jdk_42_method_150_code 30 = .ok (.iload 4, 2) := by decide +kernel
theorem d21_32 : decode jdk_42_method_150_code 32 = .ok (.invokestatic 54, 3) := by decide +kernel
theorem own_k_411 {Z : State} {a0 : Array Value} (hw : Hw a0 Z) : KS Z a0 "java/lang/String" 54 own_y_372 jdk_65_method_132_code 3 (some (.array .byte)) := ⟨(own_w hw 138 rfl), (own_w hw 139 rfl), (own_w hw 141 rfl), (own_w hw 140 rfl), by decide⟩
theorem d21_35 : decode jdk_42_method_150_code 35 = .ok (.putfield 9, 3) := by decide +kernel
theorem d21_38 : decode jdk_42_method_150_code 38 = .ok (.goto 59, 3) := by decide +kernel
theorem d21_97 : decode jdk_42_method_150_code 97 = .ok (.return_, 1) := by decide +kernel
def QTa3 (Z : State) (oS : Addr) (c0 c1 c2 : Int32) (h0 : Heap) (n0 : Nat) (v : Option Value) (h : Heap) (L : List Loc) : Prop := ∃ (r : Addr) (k : ClassId), v = none ∧ Fr n0 L ∧ Keep h0 h [oS] ∧ Fa Z h oS (.int (0 : Int32)) ∧ Fb Z h oS (.ref r) ∧ Arv Z h r k .byte (3 : Int32) [(.int c0), (.int c1), (.int c2)] (.int (0 : Int32))
set_option maxRecDepth 65536 in
set_option maxHeartbeats 40000000 in
theorem rmTa3 {l : Launch} {Z : State} {a0 : Array Value} (hw : Hw a0 Z) {ws : List Jvm.Cond} (oS : Addr) (oB yB : Addr) (kB : ClassId) (c0 c1 c2 : Int32) {h0 : Heap} {n0 : Nat} (Z0 : n0 ≤ h0.size) {cs : Int32} {fv : Value} (Ev : Ev0 Z n0 h0 cs fv) (ES : Exa Z h0 oS "java/lang/String") (FcS : Fa Z h0 oS (.int (0 : Int32))) (FvS : Fb Z h0 oS .null) (GS : n0 ≤ oS) (EB : Exa Z h0 oB "java/lang/StringBuilder") (FvB : Fc Z h0 oB (.ref yB)) (FcB : Fd Z h0 oB (.int (0 : Int32))) (FnB : Fe Z h0 oB (.int (3 : Int32))) (VB : Arv Z h0 yB kB .byte (16 : Int32) [(.int c0), (.int c1), (.int c2), o0, o0, o0, o0, o0, o0, o0, o0, o0, o0, o0, o0, o0] (.int (0 : Int32))) (hn1 : oB ≠ oS) (hn2 : yB ≠ oS) : MF l Z own_y_387 jdk_42_method_150_code 5 none ws (⟨3, 1, 3, 49⟩ : Room) #[(.ref oS), (.ref oB), .null] h0 (QTa3 Z oS c0 c1 c2 h0 n0) := by
  refine own_en (plainFor_of_name pn_2) (fun m => ef_388 m oS oB) fun p e s m below meth c s₁ bs hx hby hml hZ hown hnm X0 e0 hlk hrt pre0 => ?_
  have N0 := Fr.nil n0
  obtain ⟨T513, X513, e513, st513⟩ := initO X0 hx hZ hown (own_w hw 16 rfl) (own_w hw 17 rfl) (own_w hw 18 rfl) e0 (g := (mkF m 1 (Y21 oS oB) [(.ref oS)])) rfl (by rw [hml]; rfl) rfl (hb hby d21_1) (by decide) (W := 0) (by show 2 * 0 + _ ≤ _; exact Nat.le_of_eq rfl) (by decide)
  obtain ⟨_, T514, L514, X514, N514, ⟨_, rfl, -, e514⟩, st514⟩ := own_cV X513 hx hZ hown (own_k_393 hw) (rmGv hw oB yB Z0 FvB) (W := 0) (k := 0) (n := 0) (by decide) e513 N0 (fun _ _ _ h => h.2.1) EB (Ls := (Y21 oS oB)) (rest := []) hml.symm (lenOf pd_394 rfl) (Nat.le_of_eq rfl) (hb hby d21_5)
  obtain ⟨cq515, kq515, q515a, q515b, q515c⟩ := isOf hZ e514 EB
  obtain ⟨_, _, ⟨T515, L515, k515, n515⟩, -, X515, ⟨Lc515, hQ515, l515, y515, z515⟩, st515⟩ := X514.virtualBack hx (y := own_y_310) (z := own_y_315) hown (mvT hZ (own_w hw 125 rfl)) (mvT hZ (own_w hw 126 rfl)) (own_face (args := #[]) (y := ⟨"java/lang/AbstractStringBuilder", "getValue", "()[B"⟩) (mvT hZ (own_w hw 123 rfl)) rfl) (mvT hZ (own_w hw 128 rfl)) (mvT hZ (own_w hw 129 rfl)) (by decide) (backOf (W := 0) (rmBm hw oB (3 : Int32) Z0 EB FnB) hZ (own_w hw 130 rfl) (own_w hw 54 rfl) (by decide) (by decide)) q515a q515c (g := (mkF m 10 (Y22 oS oB yB) [(.ref oB)])) rfl (by rw [hml]; rfl) (Steps.refl _) (argsL := []) (rest := []) (lenOf pd_272 rfl) rfl (by show 2 * 0 + _ ≤ _; exact Nat.le_of_eq rfl) (hb hby d21_10) (fun _ _ => ⟨rfl, e514, (by decide : 0 + 0 ≤ _), (by decide : 0 + 0 ≤ _)⟩)
  dsimp only [Pt.U, Pt.locs, Pt.cells, Pt.slots] at X515 l515 y515 z515 st515 hQ515
  subst y515 z515
  obtain ⟨rfl, Nq515, e515⟩ := hQ515
  have N515 : Fr n0 L515 := by rw [l515]; exact Fr.app N514 Nq515
  replace X515 := own_more (k := 0) (n := 0) X515 (Nat.le_of_ble_eq_true rfl) (Nat.le_of_ble_eq_true rfl)
  obtain ⟨_, T516, L516, X516, N516, ⟨_, rfl, -, e516⟩, st516⟩ := own_cV X515 hx hZ hown (own_k_401 hw) (rmBt hw oB Z0 Ev FcB) (W := 0) (k := 0) (n := 0) (by decide) e515 N515 (fun _ _ _ h => h.2.1) EB (Ls := (Y23 oS oB yB 3)) (rest := []) hml.symm (lenOf pd_72 rfl) (Nat.le_of_eq rfl) (hb hby d21_16)
  obtain ⟨T517, h517, X517, e517, W517, st517⟩ := putFN X516 hx hZ hown (own_w hw 31 rfl) Via.refl e516 FcS ES (Or.inr ⟨(own_w hw 32 rfl), rfl, hnm⟩) (own_w hw 7 rfl) (ty := .byte) (v' := (.int (nar .byte (0 : Int32)))) (by decide) rfl (fits_nar_byte _) (g := (mkF m 24 (Y23 oS oB yB 3) [(.int (0 : Int32)), (.ref oS)])) rfl rfl (hb hby d21_24)
  have Fw517 := FcS.same W517
  have N517 := Fr.snoc X517 N516 GS
  have z518 : n0 ≤ h517.size := Nat.le_trans Z0 (Keep.of_wr W517).1
  have c519 := (Keep.refl h0 [oS]).wr W517 (Or.inl (List.mem_of_getElem? (i := 0) rfl))
  have c521 := ES.wr W517
  have c523 := FvS.other W517 (Or.inr (own_sn_158 hw))
  have c528 := VB.other W517 hn2
  obtain ⟨_, T529, L529, X529, N529, ⟨_, r529, kc529, rfl, -, K529, z529, G529, V529⟩, st529⟩ := own_cS X517 hx hZ hown (own_k_411 hw) (rmCr3 hw yB kB c0 c1 c2 z518 c528) (W := 1) (k := 1) (n := 3) (by decide) e517 N517 (fun _ _ _ ⟨_, _, _, h, _⟩ => h) (Ls := (Y23 oS oB yB 3)) (rest := [(.ref oS)]) hml.symm (lenOf pd_385 rfl) (Nat.le_of_eq rfl) (hb hby d21_32)
  have ne530 : oS ≠ r529 := Nat.ne_of_lt (Nat.lt_of_lt_of_le c521.lt z529)
  have c534 := c519.trans K529 all0
  have c536 := c521.keep K529
  have c537 := c523.keep K529 nin0
  have c543 := Fw517.keep K529 nin0
  obtain ⟨T544, h544, X544, e544, W544, st544⟩ := putF X529 hx hZ hown (host := "") (Or.inl (own_w hw 33 rfl)) Via.refl rfl c537 c536 (Or.inr ⟨(own_w hw 34 rfl), rfl, hnm⟩) (own_w hw 7 rfl) (ty := (.array .byte)) (by decide) rfl rfl (g := (mkF m 35 (Y23 oS oB yB 3) [(.ref r529), (.ref oS)])) rfl rfl (hb hby d21_35)
  have Fw544 := c537.same W544
  have N544 := Fr.snoc X544 N529 GS
  have c546 := c534.wr W544 (Or.inl (List.mem_of_getElem? (i := 0) rfl))
  have c555 := c543.other W544 (Or.inr (own_sn_162 hw))
  have c556 := V529.other W544 (Ne.symm ne530)
  have pre557 : PQ p e below T544 (mkF m 97 (Y23 oS oB yB 3) []) bs := fun t kt => pre0 t (by
    refine XS.aloadN X0.here hx rfl (hb hby d21_0) rfl rfl ?_
    refine st513 _ ?_
    refine XS.aloadN X513.here hx rfl (hb hby d21_4) rfl rfl ?_
    refine st514.trans ?_
    refine XS.astoreN X514.here hx rfl (hb hby d21_8) rfl rfl (l' := (Y22 oS oB yB)) rfl ?_
    refine XS.aloadN X514.here hx rfl (hb hby d21_9) rfl rfl ?_
    refine st515.trans ?_
    refine XS.istore X515.here hx rfl (hb hby d21_13) rfl (l' := (Y23 oS oB yB 3)) rfl ?_
    refine XS.aloadN X515.here hx rfl (hb hby d21_15) rfl rfl ?_
    refine st516.trans ?_
    refine XS.ifNo X516.here hx rfl (hb hby d21_19) rfl ((if0 _ _).trans (feq (by decide : ¬ ((1 : Int32) = (0 : Int32)))).1) ?_
    refine XS.aloadN X516.here hx rfl (hb hby d21_22) rfl rfl ?_
    refine XS.iconst X516.here hx rfl (hb hby d21_23) ?_
    refine st517 _ ?_
    refine XS.aloadN X517.here hx rfl (hb hby d21_27) rfl rfl ?_
    refine XS.aloadN X517.here hx rfl (hb hby d21_28) rfl rfl ?_
    refine XS.iconst X517.here hx rfl (hb hby d21_29) ?_
    refine XS.iload X517.here hx rfl (hb hby d21_30) rfl ?_
    refine st529.trans ?_
    refine st544 _ ?_
    refine XS.goto X544.here hx rfl (pc0 := 38) (pc' := 97) rfl (hb hby d21_38) (by decide) (by decide) ?_
    exact kt)
  have hQ : QTa3 Z oS c0 c1 c2 h0 n0 none h544 _ := ⟨r529, kc529, rfl, N544, c546, c555, Fw544, c556⟩
  exact own_retV X544 hx hlk hrt (hb hby d21_97) pre557 (show QTa3 Z oS c0 c1 c2 h0 n0 _ _ _ from (by rw [e544]; exact hQ)) (by decide) (by decide)
abbrev own_y_415 : MethodName := (⟨"java/lang/String", "<init>", "(Ljava/lang/StringBuilder;)V"⟩ : MethodName)
theorem ef_416 (m : MethodId) (x0 : Addr) (x1 : Addr) : entryFrame m #[(.ref x0), (.ref x1)] 2 = mkF m 0 #[.val (.ref x0), .val (.ref x1)] [] := by first | (simp [entryFrame, mkF, argsToLocals, Value.category]; done) | rfl
theorem d20_0 : decode jdk_42_method_53_code 0 = .ok (.aload_n 0, 1) := by decide +kernel
theorem d20_1 : decode jdk_42_method_53_code 1 = .ok (.aload_n 1, 1) := by decide +kernel
theorem d20_2 : decode jdk_42_method_53_code 2 = .ok (.aconst_null, 1) := by decide +kernel
theorem d20_3 : decode jdk_42_method_53_code 3 = .ok (.invokespecial 489, 3) := by decide +kernel
theorem own_k_421 {Z : State} {a0 : Array Value} (hw : Hw a0 Z) : KI Z a0 "java/lang/String" 489 own_y_387 jdk_42_method_150_code 5 none := ⟨(own_w hw 117 rfl), (own_w hw 118 rfl), (own_w hw 119 rfl), (own_w hw 8 rfl), rfl, rfl, by decide⟩
theorem pd_422 : parseMethodDescriptor "(Ljava/lang/AbstractStringBuilder;Ljava/lang/Void;)V" = some ⟨[(.object "java/lang/AbstractStringBuilder"), (.object "java/lang/Void")], none⟩ := by decide +kernel
theorem d20_6 : decode jdk_42_method_53_code 6 = .ok (.return_, 1) := by decide +kernel
set_option maxRecDepth 65536 in
set_option maxHeartbeats 40000000 in
theorem rmTb3 {l : Launch} {Z : State} {a0 : Array Value} (hw : Hw a0 Z) {ws : List Jvm.Cond} (oS : Addr) (oB yB : Addr) (kB : ClassId) (c0 c1 c2 : Int32) {h0 : Heap} {n0 : Nat} (Z0 : n0 ≤ h0.size) {cs : Int32} {fv : Value} (Ev : Ev0 Z n0 h0 cs fv) (ES : Exa Z h0 oS "java/lang/String") (FcS : Fa Z h0 oS (.int (0 : Int32))) (FvS : Fb Z h0 oS .null) (GS : n0 ≤ oS) (EB : Exa Z h0 oB "java/lang/StringBuilder") (FvB : Fc Z h0 oB (.ref yB)) (FcB : Fd Z h0 oB (.int (0 : Int32))) (FnB : Fe Z h0 oB (.int (3 : Int32))) (VB : Arv Z h0 yB kB .byte (16 : Int32) [(.int c0), (.int c1), (.int c2), o0, o0, o0, o0, o0, o0, o0, o0, o0, o0, o0, o0, o0] (.int (0 : Int32))) (hn1 : oB ≠ oS) (hn2 : yB ≠ oS) : MF l Z own_y_415 jdk_42_method_53_code 2 none ws (⟨4, 1, 3, 65⟩ : Room) #[(.ref oS), (.ref oB)] h0 (QTa3 Z oS c0 c1 c2 h0 n0) := by
  refine own_en (plainFor_of_name pn_2) (fun m => ef_416 m oS oB) fun p e s m below meth c s₁ bs hx hby hml hZ hown hnm X0 e0 hlk hrt pre0 => ?_
  have N0 := Fr.nil n0
  obtain ⟨_, T558, L558, X558, N558, ⟨_, r558, kc558, rfl, -, K558, Fc558, Fv558, V558⟩, st558⟩ := own_cI X0 hx hZ hown (own_k_421 hw) (rmTa3 hw oS oB yB kB c0 c1 c2 Z0 Ev ES FcS FvS GS EB FvB FcB FnB VB hn1 hn2) (W := 0) (k := 1) (n := 3) (by decide) e0 N0 (fun _ _ _ ⟨_, _, _, h, _⟩ => h) (Ls := (Y11 oS oB)) (rest := []) hml.symm (lenOf pd_422 rfl) (Nat.le_of_eq rfl) (hb hby d20_3)
  have pre559 : PQ p e below T558 (mkF m 6 (Y11 oS oB) []) bs := fun t kt => pre0 t (by
    refine XS.aloadN X0.here hx rfl (hb hby d20_0) rfl rfl ?_
    refine XS.aloadN X0.here hx rfl (hb hby d20_1) rfl rfl ?_
    refine XS.aconstNull X0.here hx rfl (hb hby d20_2) ?_
    refine st558.trans ?_
    exact kt)
  exact own_retV X558 hx hlk hrt (hb hby d20_6) pre559 (show QTa3 Z oS c0 c1 c2 h0 n0 _ _ _ from ⟨r558, kc558, rfl, N558, K558, Fc558, Fv558, V558⟩) (by decide) (by decide)
abbrev own_y_424 : MethodName := (⟨"java/lang/StringBuilder", "toString", "()Ljava/lang/String;"⟩ : MethodName)
theorem ef_425 (m : MethodId) (x0 : Addr) : entryFrame m #[(.ref x0)] 1 = mkF m 0 #[.val (.ref x0)] [] := by first | (simp [entryFrame, mkF, argsToLocals, Value.category]; done) | rfl
theorem d19_0 : decode jdk_67_method_42_code 0 = .ok (.new 18, 3) := by decide +kernel
theorem d19_3 : decode jdk_67_method_42_code 3 = .ok (.dup, 1) := by decide +kernel
theorem d19_4 : decode jdk_67_method_42_code 4 = .ok (.aload_n 0, 1) := by decide +kernel
theorem d19_5 : decode jdk_67_method_42_code 5 = .ok (.invokespecial 137, 3) := by decide +kernel
theorem own_k_430 {Z : State} {a0 : Array Value} (hw : Hw a0 Z) : KI Z a0 "java/lang/StringBuilder" 137 own_y_415 jdk_42_method_53_code 2 none := ⟨(own_w hw 114 rfl), (own_w hw 115 rfl), (own_w hw 116 rfl), (own_w hw 8 rfl), rfl, rfl, by decide⟩
theorem pd_431 : parseMethodDescriptor "(Ljava/lang/StringBuilder;)V" = some ⟨[(.object "java/lang/StringBuilder")], none⟩ := by decide +kernel
theorem d19_8 : decode jdk_67_method_42_code 8 = .ok (.areturn, 1) := by decide +kernel
def QTs3 (Z : State) (c0 c1 c2 : Int32) (h0 : Heap) (n0 : Nat) (v : Option Value) (h : Heap) (L : List Loc) : Prop := ∃ (r y : Addr) (k : ClassId), v = some (.ref r) ∧ Fr n0 L ∧ Keep h0 h [] ∧ h0.size ≤ r ∧ n0 ≤ r ∧ Exa Z h r "java/lang/String" ∧ Fa Z h r (.int (0 : Int32)) ∧ Fb Z h r (.ref y) ∧ Arv Z h y k .byte (3 : Int32) [(.int c0), (.int c1), (.int c2)] (.int (0 : Int32))
set_option maxRecDepth 65536 in
set_option maxHeartbeats 40000000 in
theorem rmTs3 {l : Launch} {Z : State} {a0 : Array Value} (hw : Hw a0 Z) {ws : List Jvm.Cond} (oB yB : Addr) (kB : ClassId) (c0 c1 c2 : Int32) {h0 : Heap} {n0 : Nat} (Z0 : n0 ≤ h0.size) {cs : Int32} {fv : Value} (Ev : Ev0 Z n0 h0 cs fv) (EB : Exa Z h0 oB "java/lang/StringBuilder") (FvB : Fc Z h0 oB (.ref yB)) (FcB : Fd Z h0 oB (.int (0 : Int32))) (FnB : Fe Z h0 oB (.int (3 : Int32))) (VB : Arv Z h0 yB kB .byte (16 : Int32) [(.int c0), (.int c1), (.int c2), o0, o0, o0, o0, o0, o0, o0, o0, o0, o0, o0, o0, o0] (.int (0 : Int32))) : MF l Z own_y_424 jdk_67_method_42_code 1 (some (.object "java/lang/String")) ws (⟨5, 2, 7, 79⟩ : Room) #[(.ref oB)] h0 (QTs3 Z c0 c1 c2 h0 n0) := by
  refine own_en (plainFor_of_name pn_198) (fun m => ef_425 m oB) fun p e s m below meth c s₁ bs hx hby hml hZ hown hnm X0 e0 hlk hrt pre0 => ?_
  have N0 := Fr.nil n0
  obtain ⟨T560, h560, X560, e560, E560, A560, D560, -, st560⟩ := newO X0 hx hZ hown (own_w hw 113 rfl) (own_w hw 7 rfl) (own_w hw 8 rfl) e0 (g := (mkF m 0 #[.val (.ref oB)] [])) rfl (hb hby d19_0) (by decide) (by decide)
  obtain ⟨b560, g560⟩ : ∃ z, z = h0.size := ⟨_, rfl⟩
  rw [← g560] at A560 D560 st560
  have G560 : n0 ≤ b560 := Nat.le_trans Z0 (Nat.le_of_eq g560.symm)
  have sz560 : h0.size ≤ b560 := Nat.le_trans (Keep.refl h0 []).1 (Nat.le_of_eq g560.symm)
  have ne561 : oB ≠ b560 := Nat.ne_of_lt (Nat.lt_of_lt_of_le EB.lt (Nat.le_of_eq g560.symm))
  have ne562 : yB ≠ b560 := Nat.ne_of_lt (Nat.lt_of_lt_of_le VB.lt (Nat.le_of_eq g560.symm))
  have c563 := (Keep.refl h0 []).ext E560
  have c564 := Ev.ext E560
  have c565 := EB.ext E560
  have c566 := FvB.ext E560
  have c567 := FcB.ext E560
  have c568 := FnB.ext E560
  have c569 := VB.ext E560
  have F570 : Fa Z h560 b560 (.int (0 : Int32)) := D560 (Or.inr (own_w hw 32 rfl)) (ty := .byte) (by decide)
  have F571 : Fb Z h560 b560 .null := D560 (Or.inr (own_w hw 34 rfl)) (ty := (.array .byte)) (by decide)
  have z572 : n0 ≤ h560.size := Nat.le_trans Z0 E560.1
  obtain ⟨_, T573, L573, X573, N573, ⟨_, r573, kc573, rfl, -, K573, Fc573, Fv573, V573⟩, st573⟩ := own_cI X560 hx hZ hown (own_k_430 hw) (rmTb3 hw b560 oB yB kB c0 c1 c2 z572 c564 A560 F570 F571 G560 c565 c566 c567 c568 c569 ne561 ne562) (W := 1) (k := 2) (n := 7) (by decide) e560 N0 (fun _ _ _ ⟨_, _, _, h, _⟩ => h) (Ls := #[.val (.ref oB)]) (rest := [(.ref b560)]) hml.symm (lenOf pd_431 rfl) (Nat.le_of_eq rfl) (hb hby d19_5)
  have c575 := c563.trans K573 (allS (Or.inr sz560) all0)
  have c582 := A560.keep K573
  have pre585 : PQ p e below T573 (mkF m 8 #[.val (.ref oB)] [(.ref b560)]) bs := fun t kt => pre0 t (by
    refine st560 _ ?_
    refine XS.dup X560.here hx rfl (hb hby d19_3) rfl rfl ?_
    refine XS.aloadN X560.here hx rfl (hb hby d19_4) rfl rfl ?_
    refine st573.trans ?_
    exact kt)
  have hQ : QTs3 Z c0 c1 c2 h0 n0 (some (.ref b560)) T573.heap _ := ⟨b560, r573, kc573, rfl, N573, c575, sz560, G560, c582, Fc573, Fv573, V573⟩
  exact own_retA X573 hx hlk rfl hrt rfl (hb hby d19_8) pre585 (show QTs3 Z c0 c1 c2 h0 n0 _ _ _ from hQ) (by decide) (by decide)
set_option maxRecDepth 65536 in
set_option maxHeartbeats 40000000 in
theorem rmCk4 {l : Launch} {Z : State} {a0 : Array Value} (hw : Hw a0 Z) {ws : List Jvm.Cond}  {h0 : Heap} {n0 : Nat} (Z0 : n0 ≤ h0.size) : MF l Z own_y_330 jdk_65_method_131_code 2 none ws (⟨0, 0, 0, 0⟩ : Room) #[(.int (0 : Int32)), (.int (4 : Int32))] h0 (QU h0 n0) := by
  refine own_en (plainFor_of_name pn_332) (fun m => ef_331 m (0 : Int32) (4 : Int32)) fun p e s m below meth c s₁ bs hx hby hml hZ hown hnm X0 e0 hlk hrt pre0 => ?_
  have N0 := Fr.nil n0
  have pre586 : PQ p e below s₁ (mkF m 37 (Y2 0 4) []) bs := fun t kt => pre0 t (by
    refine XS.iloadN X0.here hx rfl (hb hby d28_0) rfl ?_
    refine XS.iloadN X0.here hx rfl (hb hby d28_1) rfl ?_
    refine XS.icmpYes X0.here hx rfl (pc0 := 2) (pc' := 37) rfl (hb hby d28_2) rfl (flt (by decide : ¬ ((4 : Int32) < (0 : Int32)))).2.1 (by decide) (by decide) ?_
    exact kt)
  exact own_retV X0 hx hlk hrt (hb hby d28_37) pre586 (show QU h0 n0 _ _ _ from ⟨rfl, N0, e0⟩) (by decide) (by decide)
set_option maxRecDepth 65536 in
set_option maxHeartbeats 40000000 in
theorem rmMn4 {l : Launch} {Z : State} {a0 : Array Value} (hw : Hw a0 Z) {ws : List Jvm.Cond}  {h0 : Heap} {n0 : Nat} (Z0 : n0 ≤ h0.size) : MF l Z own_y_337 jdk_29_method_69_code 2 (some .int) ws (⟨0, 0, 0, 0⟩ : Room) #[(.int (16 : Int32)), (.int (4 : Int32))] h0 (QI (4 : Int32) h0 n0) := by
  refine own_en (Jvm.Free.JP.mathPlain rfl (by decide +kernel)) (fun m => ef_338 m (16 : Int32) (4 : Int32)) fun p e s m below meth c s₁ bs hx hby hml hZ hown hnm X0 e0 hlk hrt pre0 => ?_
  have N0 := Fr.nil n0
  have pre587 : PQ p e below s₁ (mkF m 10 (Y2 16 4) [(.int (4 : Int32))]) bs := fun t kt => pre0 t (by
    refine XS.iloadN X0.here hx rfl (hb hby d29_0) rfl ?_
    refine XS.iloadN X0.here hx rfl (hb hby d29_1) rfl ?_
    refine XS.icmpYes X0.here hx rfl (pc0 := 2) (pc' := 9) rfl (hb hby d29_2) rfl (tlt (by decide : (4 : Int32) < (16 : Int32))).2.2.1 (by decide) (by decide) ?_
    refine XS.iloadN X0.here hx rfl (hb hby d29_9) rfl ?_
    exact kt)
  exact own_retI X0 hx hlk hrt (hb hby d29_10) pre587 (show QI (4 : Int32) h0 n0 _ _ _ from ⟨rfl, N0, e0⟩) (by decide) (by decide)
def QCb4 (Z : State) (c0 c1 c2 c3 : Int32) (h0 : Heap) (n0 : Nat) (v : Option Value) (h : Heap) (L : List Loc) : Prop := ∃ (r : Addr) (k : ClassId), v = some (.ref r) ∧ Fr n0 L ∧ Keep h0 h [] ∧ h0.size ≤ r ∧ n0 ≤ r ∧ Arv Z h r k .byte (4 : Int32) [(.int c0), (.int c1), (.int c2), (.int c3)] (.int (0 : Int32))
set_option maxRecDepth 65536 in
set_option maxHeartbeats 40000000 in
theorem rmCb4 {l : Launch} {Z : State} {a0 : Array Value} (hw : Hw a0 Z) {ws : List Jvm.Cond} (yB : Addr) (kB : ClassId) (c0 c1 c2 c3 : Int32) {h0 : Heap} {n0 : Nat} (Z0 : n0 ≤ h0.size) (VB : Arv Z h0 yB kB .byte (16 : Int32) [(.int c0), (.int c1), (.int c2), (.int c3), o0, o0, o0, o0, o0, o0, o0, o0, o0, o0, o0, o0] (.int (0 : Int32))) : MF l Z own_y_344 jdk_65_method_133_code 5 (some (.array .byte)) ws (⟨1, 1, 4, 18⟩ : Room) #[(.ref yB), o0, (.int (4 : Int32))] h0 (QCb4 Z c0 c1 c2 c3 h0 n0) := by
  refine own_en (plainFor_of_name pn_332) (fun m => ef_345 m yB (0 : Int32) (4 : Int32)) fun p e s m below meth c s₁ bs hx hby hml hZ hown hnm X0 e0 hlk hrt pre0 => ?_
  have N0 := Fr.nil n0
  obtain ⟨_, T588, L588, X588, N588, ⟨_, rfl, -, e588⟩, st588⟩ := own_cS X0 hx hZ hown (own_k_349 hw) (rmCk4 hw  Z0 ) (W := 0) (k := 0) (n := 0) (by decide) e0 N0 (fun _ _ _ h => h.2.1) (Ls := (Y18 yB 0 4)) (rest := []) hml.symm (lenOf pd_59 rfl) (Nat.le_of_eq rfl) (hb hby d27_2)
  obtain ⟨T589, h589, k589, X589, e589, E589, A589, st589⟩ := newP X588 hx hZ (own_w hw 24 rfl) e588 (g := (mkF m 10 (Y19 yB 0 4 4) [(.int (4 : Int32))])) rfl (hb hby d27_10) rfl (by decide) (cap := 4) (by decide) (by decide) (by decide) (by decide)
  obtain ⟨b589, g589⟩ : ∃ z, z = h0.size := ⟨_, rfl⟩
  rw [← g589] at A589 st589
  have G589 : n0 ≤ b589 := Nat.le_trans Z0 (Nat.le_of_eq g589.symm)
  have sz589 : h0.size ≤ b589 := Nat.le_trans (Keep.refl h0 []).1 (Nat.le_of_eq g589.symm)
  have c591 := (Keep.refl h0 []).ext E589
  have c592 := VB.ext E589
  have z593 : n0 ≤ h589.size := Nat.le_trans Z0 E589.1
  have V589 : Arv Z h589 b589 k589 .byte (4 : Int32) [(.int (0 : Int32)), o0, o0, o0] (.int (0 : Int32)) := (Arv.new A589 (by decide)).pad (pad_rep [] (.int (0 : Int32)) 4)
  obtain ⟨cl594, A594, q594, S594, M594, H594, J594⟩ := id c592
  obtain ⟨_, T595, L595, X595, N595, ⟨_, rfl, -, e595⟩, st595⟩ := own_cS X589 hx hZ hown (own_k_367 hw) (rmMn4 hw  z593 ) (W := 4) (k := 1) (n := 4) (by decide) e589 N588 (fun _ _ _ h => h.2.1) (Ls := (Y20 yB 0 4 4 b589)) (rest := [(.int (0 : Int32)), (.ref b589), o0, (.ref yB)]) hml.symm (lenOf pd_368 rfl) (Nat.le_of_eq rfl) (hb hby d27_24)
  obtain ⟨T596, h596, L596, X596, e596, N596, K596, U596, st596⟩ := cpA X595 hx hZ hown (own_w hw 152 rfl) (own_w hw 107 rfl) (own_w hw 105 rfl) (own_w hw 106 rfl) e595 (us := [(.int c0), (.int c1), (.int c2), (.int c3)]) c592 V589 (Or.inl ⟨rfl, rfl⟩) (by decide) (by decide) (by decide) (by decide) (by decide) rfl (Nat.le_of_ble_eq_true rfl) N595 G589 (g := (mkF m 27 (Y20 yB 0 4 4 b589) [(.int (4 : Int32)), o0, (.ref b589), o0, (.ref yB)])) rfl (by rw [hml]; rfl) rfl (hb hby d27_27) (by decide) (W := 0) (by show 2 * 0 + _ ≤ _; exact Nat.le_of_eq rfl) (by decide)
  have V596 : Arv Z h596 b589 k589 .byte (4 : Int32) [(.int c0), (.int c1), (.int c2), (.int c3)] (.int (0 : Int32)) := U596
  have c598 := c591.trans K596 (allS (Or.inr sz589) all0)
  have pre601 : PQ p e below T596 (mkF m 32 (Y20 yB 0 4 4 b589) [(.ref b589)]) bs := fun t kt => pre0 t (by
    refine XS.iloadN X0.here hx rfl (hb hby d27_0) rfl ?_
    refine XS.iloadN X0.here hx rfl (hb hby d27_1) rfl ?_
    refine st588.trans ?_
    refine XS.iloadN X588.here hx rfl (hb hby d27_5) rfl ?_
    refine XS.iloadN X588.here hx rfl (hb hby d27_6) rfl ?_
    refine XS.isub X588.here hx rfl (hb hby d27_7) rfl ?_
    refine XS.istoreN X588.here hx rfl (hb hby d27_8) rfl (l' := (Y19 yB 0 4 4)) rfl ?_
    refine XS.iloadN X588.here hx rfl (hb hby d27_9) rfl ?_
    refine st589 _ ?_
    refine XS.astore X589.here hx rfl (hb hby d27_12) rfl rfl (l' := (Y20 yB 0 4 4 b589)) rfl ?_
    refine XS.aloadN X589.here hx rfl (hb hby d27_14) rfl rfl ?_
    refine XS.iloadN X589.here hx rfl (hb hby d27_15) rfl ?_
    refine XS.aload X589.here hx rfl (hb hby d27_16) rfl rfl ?_
    refine XS.iconst X589.here hx rfl (hb hby d27_18) ?_
    refine XS.aloadN X589.here hx rfl (hb hby d27_19) rfl rfl ?_
    refine X589.arraylength hx (by rw [e589]; exact A594.1) (State.isArrayOf_alike hZ.alike A594.2.1) (g := (mkF m 20 (Y20 yB 0 4 4 b589) [(.ref yB), o0, (.ref b589), o0, (.ref yB)])) rfl rfl (hb hby d27_20) _ ?_
    rw [len_of S594 M594]
    refine XS.iloadN X589.here hx rfl (hb hby d27_21) rfl ?_
    refine XS.isub X589.here hx rfl (hb hby d27_22) rfl ?_
    refine XS.iloadN X589.here hx rfl (hb hby d27_23) rfl ?_
    refine st595.trans ?_
    refine st596 _ ?_
    refine XS.aload X596.here hx rfl (hb hby d27_30) rfl rfl ?_
    exact kt)
  have hQ : QCb4 Z c0 c1 c2 c3 h0 n0 (some (.ref b589)) h596 _ := ⟨b589, k589, rfl, N596, c598, sz589, G589, V596⟩
  exact own_retA X596 hx hlk rfl hrt rfl (hb hby d27_32) pre601 (show QCb4 Z c0 c1 c2 c3 h0 n0 _ _ _ from (by rw [e596]; exact hQ)) (by decide) (by decide)
set_option maxRecDepth 65536 in
set_option maxHeartbeats 40000000 in
theorem rmCr4 {l : Launch} {Z : State} {a0 : Array Value} (hw : Hw a0 Z) {ws : List Jvm.Cond} (yB : Addr) (kB : ClassId) (c0 c1 c2 c3 : Int32) {h0 : Heap} {n0 : Nat} (Z0 : n0 ≤ h0.size) (VB : Arv Z h0 yB kB .byte (16 : Int32) [(.int c0), (.int c1), (.int c2), (.int c3), o0, o0, o0, o0, o0, o0, o0, o0, o0, o0, o0, o0] (.int (0 : Int32))) : MF l Z own_y_372 jdk_65_method_132_code 3 (some (.array .byte)) ws (⟨2, 1, 4, 34⟩ : Room) #[(.ref yB), o0, (.int (4 : Int32))] h0 (QCb4 Z c0 c1 c2 c3 h0 n0) := by
  refine own_en (plainFor_of_name pn_332) (fun m => ef_373 m yB (0 : Int32) (4 : Int32)) fun p e s m below meth c s₁ bs hx hby hml hZ hown hnm X0 e0 hlk hrt pre0 => ?_
  have N0 := Fr.nil n0
  obtain ⟨cl602, A602, q602, S602, M602, H602, J602⟩ := id VB
  obtain ⟨_, T603, L603, X603, N603, ⟨_, r603, kc603, rfl, -, K603, z603, G603, V603⟩, st603⟩ := own_cS X0 hx hZ hown (own_k_384 hw) (rmCb4 hw yB kB c0 c1 c2 c3 Z0 VB) (W := 0) (k := 1) (n := 4) (by decide) e0 N0 (fun _ _ _ ⟨_, _, _, h, _⟩ => h) (Ls := (Y13 yB 0 4)) (rest := []) hml.symm (lenOf pd_385 rfl) (Nat.le_of_eq rfl) (hb hby d26_13)
  have pre604 : PQ p e below T603 (mkF m 16 (Y13 yB 0 4) [(.ref r603)]) bs := fun t kt => pre0 t (by
    refine XS.iloadN X0.here hx rfl (hb hby d26_0) rfl ?_
    refine XS.ifNo X0.here hx rfl (hb hby d26_1) rfl ((if0 _ _).trans (teq (by decide : (0 : Int32) = (0 : Int32))).2) ?_
    refine XS.iloadN X0.here hx rfl (hb hby d26_4) rfl ?_
    refine XS.aloadN X0.here hx rfl (hb hby d26_5) rfl rfl ?_
    refine X0.arraylength hx (by rw [e0]; exact A602.1) (State.isArrayOf_alike hZ.alike A602.2.1) (g := (mkF m 6 (Y13 yB 0 4) [(.ref yB), (.int (4 : Int32))])) rfl rfl (hb hby d26_6) _ ?_
    rw [len_of S602 M602]
    refine XS.icmpNo X0.here hx rfl (hb hby d26_7) rfl (feq (by decide : ¬ ((4 : Int32) = (16 : Int32)))).1 ?_
    refine XS.aloadN X0.here hx rfl (hb hby d26_10) rfl rfl ?_
    refine XS.iloadN X0.here hx rfl (hb hby d26_11) rfl ?_
    refine XS.iloadN X0.here hx rfl (hb hby d26_12) rfl ?_
    refine st603.trans ?_
    exact kt)
  exact own_retA X603 hx hlk rfl hrt rfl (hb hby d26_16) pre604 (show QCb4 Z c0 c1 c2 c3 h0 n0 _ _ _ from ⟨r603, kc603, rfl, N603, K603, z603, G603, V603⟩) (by decide) (by decide)
def QTa4 (Z : State) (oS : Addr) (c0 c1 c2 c3 : Int32) (h0 : Heap) (n0 : Nat) (v : Option Value) (h : Heap) (L : List Loc) : Prop := ∃ (r : Addr) (k : ClassId), v = none ∧ Fr n0 L ∧ Keep h0 h [oS] ∧ Fa Z h oS (.int (0 : Int32)) ∧ Fb Z h oS (.ref r) ∧ Arv Z h r k .byte (4 : Int32) [(.int c0), (.int c1), (.int c2), (.int c3)] (.int (0 : Int32))
set_option maxRecDepth 65536 in
set_option maxHeartbeats 40000000 in
theorem rmTa4 {l : Launch} {Z : State} {a0 : Array Value} (hw : Hw a0 Z) {ws : List Jvm.Cond} (oS : Addr) (oB yB : Addr) (kB : ClassId) (c0 c1 c2 c3 : Int32) {h0 : Heap} {n0 : Nat} (Z0 : n0 ≤ h0.size) {cs : Int32} {fv : Value} (Ev : Ev0 Z n0 h0 cs fv) (ES : Exa Z h0 oS "java/lang/String") (FcS : Fa Z h0 oS (.int (0 : Int32))) (FvS : Fb Z h0 oS .null) (GS : n0 ≤ oS) (EB : Exa Z h0 oB "java/lang/StringBuilder") (FvB : Fc Z h0 oB (.ref yB)) (FcB : Fd Z h0 oB (.int (0 : Int32))) (FnB : Fe Z h0 oB (.int (4 : Int32))) (VB : Arv Z h0 yB kB .byte (16 : Int32) [(.int c0), (.int c1), (.int c2), (.int c3), o0, o0, o0, o0, o0, o0, o0, o0, o0, o0, o0, o0] (.int (0 : Int32))) (hn1 : oB ≠ oS) (hn2 : yB ≠ oS) : MF l Z own_y_387 jdk_42_method_150_code 5 none ws (⟨3, 1, 4, 49⟩ : Room) #[(.ref oS), (.ref oB), .null] h0 (QTa4 Z oS c0 c1 c2 c3 h0 n0) := by
  refine own_en (plainFor_of_name pn_2) (fun m => ef_388 m oS oB) fun p e s m below meth c s₁ bs hx hby hml hZ hown hnm X0 e0 hlk hrt pre0 => ?_
  have N0 := Fr.nil n0
  obtain ⟨T605, X605, e605, st605⟩ := initO X0 hx hZ hown (own_w hw 16 rfl) (own_w hw 17 rfl) (own_w hw 18 rfl) e0 (g := (mkF m 1 (Y21 oS oB) [(.ref oS)])) rfl (by rw [hml]; rfl) rfl (hb hby d21_1) (by decide) (W := 0) (by show 2 * 0 + _ ≤ _; exact Nat.le_of_eq rfl) (by decide)
  obtain ⟨_, T606, L606, X606, N606, ⟨_, rfl, -, e606⟩, st606⟩ := own_cV X605 hx hZ hown (own_k_393 hw) (rmGv hw oB yB Z0 FvB) (W := 0) (k := 0) (n := 0) (by decide) e605 N0 (fun _ _ _ h => h.2.1) EB (Ls := (Y21 oS oB)) (rest := []) hml.symm (lenOf pd_394 rfl) (Nat.le_of_eq rfl) (hb hby d21_5)
  obtain ⟨cq607, kq607, q607a, q607b, q607c⟩ := isOf hZ e606 EB
  obtain ⟨_, _, ⟨T607, L607, k607, n607⟩, -, X607, ⟨Lc607, hQ607, l607, y607, z607⟩, st607⟩ := X606.virtualBack hx (y := own_y_310) (z := own_y_315) hown (mvT hZ (own_w hw 125 rfl)) (mvT hZ (own_w hw 126 rfl)) (own_face (args := #[]) (y := ⟨"java/lang/AbstractStringBuilder", "getValue", "()[B"⟩) (mvT hZ (own_w hw 123 rfl)) rfl) (mvT hZ (own_w hw 128 rfl)) (mvT hZ (own_w hw 129 rfl)) (by decide) (backOf (W := 0) (rmBm hw oB (4 : Int32) Z0 EB FnB) hZ (own_w hw 130 rfl) (own_w hw 54 rfl) (by decide) (by decide)) q607a q607c (g := (mkF m 10 (Y22 oS oB yB) [(.ref oB)])) rfl (by rw [hml]; rfl) (Steps.refl _) (argsL := []) (rest := []) (lenOf pd_272 rfl) rfl (by show 2 * 0 + _ ≤ _; exact Nat.le_of_eq rfl) (hb hby d21_10) (fun _ _ => ⟨rfl, e606, (by decide : 0 + 0 ≤ _), (by decide : 0 + 0 ≤ _)⟩)
  dsimp only [Pt.U, Pt.locs, Pt.cells, Pt.slots] at X607 l607 y607 z607 st607 hQ607
  subst y607 z607
  obtain ⟨rfl, Nq607, e607⟩ := hQ607
  have N607 : Fr n0 L607 := by rw [l607]; exact Fr.app N606 Nq607
  replace X607 := own_more (k := 0) (n := 0) X607 (Nat.le_of_ble_eq_true rfl) (Nat.le_of_ble_eq_true rfl)
  obtain ⟨_, T608, L608, X608, N608, ⟨_, rfl, -, e608⟩, st608⟩ := own_cV X607 hx hZ hown (own_k_401 hw) (rmBt hw oB Z0 Ev FcB) (W := 0) (k := 0) (n := 0) (by decide) e607 N607 (fun _ _ _ h => h.2.1) EB (Ls := (Y23 oS oB yB 4)) (rest := []) hml.symm (lenOf pd_72 rfl) (Nat.le_of_eq rfl) (hb hby d21_16)
  obtain ⟨T609, h609, X609, e609, W609, st609⟩ := putFN X608 hx hZ hown (own_w hw 31 rfl) Via.refl e608 FcS ES (Or.inr ⟨(own_w hw 32 rfl), rfl, hnm⟩) (own_w hw 7 rfl) (ty := .byte) (v' := (.int (nar .byte (0 : Int32)))) (by decide) rfl (fits_nar_byte _) (g := (mkF m 24 (Y23 oS oB yB 4) [(.int (0 : Int32)), (.ref oS)])) rfl rfl (hb hby d21_24)
  have Fw609 := FcS.same W609
  have N609 := Fr.snoc X609 N608 GS
  have z610 : n0 ≤ h609.size := Nat.le_trans Z0 (Keep.of_wr W609).1
  have c611 := (Keep.refl h0 [oS]).wr W609 (Or.inl (List.mem_of_getElem? (i := 0) rfl))
  have c613 := ES.wr W609
  have c615 := FvS.other W609 (Or.inr (own_sn_158 hw))
  have c620 := VB.other W609 hn2
  obtain ⟨_, T621, L621, X621, N621, ⟨_, r621, kc621, rfl, -, K621, z621, G621, V621⟩, st621⟩ := own_cS X609 hx hZ hown (own_k_411 hw) (rmCr4 hw yB kB c0 c1 c2 c3 z610 c620) (W := 1) (k := 1) (n := 4) (by decide) e609 N609 (fun _ _ _ ⟨_, _, _, h, _⟩ => h) (Ls := (Y23 oS oB yB 4)) (rest := [(.ref oS)]) hml.symm (lenOf pd_385 rfl) (Nat.le_of_eq rfl) (hb hby d21_32)
  have ne622 : oS ≠ r621 := Nat.ne_of_lt (Nat.lt_of_lt_of_le c613.lt z621)
  have c626 := c611.trans K621 all0
  have c628 := c613.keep K621
  have c629 := c615.keep K621 nin0
  have c635 := Fw609.keep K621 nin0
  obtain ⟨T636, h636, X636, e636, W636, st636⟩ := putF X621 hx hZ hown (host := "") (Or.inl (own_w hw 33 rfl)) Via.refl rfl c629 c628 (Or.inr ⟨(own_w hw 34 rfl), rfl, hnm⟩) (own_w hw 7 rfl) (ty := (.array .byte)) (by decide) rfl rfl (g := (mkF m 35 (Y23 oS oB yB 4) [(.ref r621), (.ref oS)])) rfl rfl (hb hby d21_35)
  have Fw636 := c629.same W636
  have N636 := Fr.snoc X636 N621 GS
  have c638 := c626.wr W636 (Or.inl (List.mem_of_getElem? (i := 0) rfl))
  have c647 := c635.other W636 (Or.inr (own_sn_162 hw))
  have c648 := V621.other W636 (Ne.symm ne622)
  have pre649 : PQ p e below T636 (mkF m 97 (Y23 oS oB yB 4) []) bs := fun t kt => pre0 t (by
    refine XS.aloadN X0.here hx rfl (hb hby d21_0) rfl rfl ?_
    refine st605 _ ?_
    refine XS.aloadN X605.here hx rfl (hb hby d21_4) rfl rfl ?_
    refine st606.trans ?_
    refine XS.astoreN X606.here hx rfl (hb hby d21_8) rfl rfl (l' := (Y22 oS oB yB)) rfl ?_
    refine XS.aloadN X606.here hx rfl (hb hby d21_9) rfl rfl ?_
    refine st607.trans ?_
    refine XS.istore X607.here hx rfl (hb hby d21_13) rfl (l' := (Y23 oS oB yB 4)) rfl ?_
    refine XS.aloadN X607.here hx rfl (hb hby d21_15) rfl rfl ?_
    refine st608.trans ?_
    refine XS.ifNo X608.here hx rfl (hb hby d21_19) rfl ((if0 _ _).trans (feq (by decide : ¬ ((1 : Int32) = (0 : Int32)))).1) ?_
    refine XS.aloadN X608.here hx rfl (hb hby d21_22) rfl rfl ?_
    refine XS.iconst X608.here hx rfl (hb hby d21_23) ?_
    refine st609 _ ?_
    refine XS.aloadN X609.here hx rfl (hb hby d21_27) rfl rfl ?_
    refine XS.aloadN X609.here hx rfl (hb hby d21_28) rfl rfl ?_
    refine XS.iconst X609.here hx rfl (hb hby d21_29) ?_
    refine XS.iload X609.here hx rfl (hb hby d21_30) rfl ?_
    refine st621.trans ?_
    refine st636 _ ?_
    refine XS.goto X636.here hx rfl (pc0 := 38) (pc' := 97) rfl (hb hby d21_38) (by decide) (by decide) ?_
    exact kt)
  have hQ : QTa4 Z oS c0 c1 c2 c3 h0 n0 none h636 _ := ⟨r621, kc621, rfl, N636, c638, c647, Fw636, c648⟩
  exact own_retV X636 hx hlk hrt (hb hby d21_97) pre649 (show QTa4 Z oS c0 c1 c2 c3 h0 n0 _ _ _ from (by rw [e636]; exact hQ)) (by decide) (by decide)
set_option maxRecDepth 65536 in
set_option maxHeartbeats 40000000 in
theorem rmTb4 {l : Launch} {Z : State} {a0 : Array Value} (hw : Hw a0 Z) {ws : List Jvm.Cond} (oS : Addr) (oB yB : Addr) (kB : ClassId) (c0 c1 c2 c3 : Int32) {h0 : Heap} {n0 : Nat} (Z0 : n0 ≤ h0.size) {cs : Int32} {fv : Value} (Ev : Ev0 Z n0 h0 cs fv) (ES : Exa Z h0 oS "java/lang/String") (FcS : Fa Z h0 oS (.int (0 : Int32))) (FvS : Fb Z h0 oS .null) (GS : n0 ≤ oS) (EB : Exa Z h0 oB "java/lang/StringBuilder") (FvB : Fc Z h0 oB (.ref yB)) (FcB : Fd Z h0 oB (.int (0 : Int32))) (FnB : Fe Z h0 oB (.int (4 : Int32))) (VB : Arv Z h0 yB kB .byte (16 : Int32) [(.int c0), (.int c1), (.int c2), (.int c3), o0, o0, o0, o0, o0, o0, o0, o0, o0, o0, o0, o0] (.int (0 : Int32))) (hn1 : oB ≠ oS) (hn2 : yB ≠ oS) : MF l Z own_y_415 jdk_42_method_53_code 2 none ws (⟨4, 1, 4, 65⟩ : Room) #[(.ref oS), (.ref oB)] h0 (QTa4 Z oS c0 c1 c2 c3 h0 n0) := by
  refine own_en (plainFor_of_name pn_2) (fun m => ef_416 m oS oB) fun p e s m below meth c s₁ bs hx hby hml hZ hown hnm X0 e0 hlk hrt pre0 => ?_
  have N0 := Fr.nil n0
  obtain ⟨_, T650, L650, X650, N650, ⟨_, r650, kc650, rfl, -, K650, Fc650, Fv650, V650⟩, st650⟩ := own_cI X0 hx hZ hown (own_k_421 hw) (rmTa4 hw oS oB yB kB c0 c1 c2 c3 Z0 Ev ES FcS FvS GS EB FvB FcB FnB VB hn1 hn2) (W := 0) (k := 1) (n := 4) (by decide) e0 N0 (fun _ _ _ ⟨_, _, _, h, _⟩ => h) (Ls := (Y11 oS oB)) (rest := []) hml.symm (lenOf pd_422 rfl) (Nat.le_of_eq rfl) (hb hby d20_3)
  have pre651 : PQ p e below T650 (mkF m 6 (Y11 oS oB) []) bs := fun t kt => pre0 t (by
    refine XS.aloadN X0.here hx rfl (hb hby d20_0) rfl rfl ?_
    refine XS.aloadN X0.here hx rfl (hb hby d20_1) rfl rfl ?_
    refine XS.aconstNull X0.here hx rfl (hb hby d20_2) ?_
    refine st650.trans ?_
    exact kt)
  exact own_retV X650 hx hlk hrt (hb hby d20_6) pre651 (show QTa4 Z oS c0 c1 c2 c3 h0 n0 _ _ _ from ⟨r650, kc650, rfl, N650, K650, Fc650, Fv650, V650⟩) (by decide) (by decide)
def QTs4 (Z : State) (c0 c1 c2 c3 : Int32) (h0 : Heap) (n0 : Nat) (v : Option Value) (h : Heap) (L : List Loc) : Prop := ∃ (r y : Addr) (k : ClassId), v = some (.ref r) ∧ Fr n0 L ∧ Keep h0 h [] ∧ h0.size ≤ r ∧ n0 ≤ r ∧ Exa Z h r "java/lang/String" ∧ Fa Z h r (.int (0 : Int32)) ∧ Fb Z h r (.ref y) ∧ Arv Z h y k .byte (4 : Int32) [(.int c0), (.int c1), (.int c2), (.int c3)] (.int (0 : Int32))
set_option maxRecDepth 65536 in
set_option maxHeartbeats 40000000 in
theorem rmTs4 {l : Launch} {Z : State} {a0 : Array Value} (hw : Hw a0 Z) {ws : List Jvm.Cond} (oB yB : Addr) (kB : ClassId) (c0 c1 c2 c3 : Int32) {h0 : Heap} {n0 : Nat} (Z0 : n0 ≤ h0.size) {cs : Int32} {fv : Value} (Ev : Ev0 Z n0 h0 cs fv) (EB : Exa Z h0 oB "java/lang/StringBuilder") (FvB : Fc Z h0 oB (.ref yB)) (FcB : Fd Z h0 oB (.int (0 : Int32))) (FnB : Fe Z h0 oB (.int (4 : Int32))) (VB : Arv Z h0 yB kB .byte (16 : Int32) [(.int c0), (.int c1), (.int c2), (.int c3), o0, o0, o0, o0, o0, o0, o0, o0, o0, o0, o0, o0] (.int (0 : Int32))) : MF l Z own_y_424 jdk_67_method_42_code 1 (some (.object "java/lang/String")) ws (⟨5, 2, 8, 79⟩ : Room) #[(.ref oB)] h0 (QTs4 Z c0 c1 c2 c3 h0 n0) := by
  refine own_en (plainFor_of_name pn_198) (fun m => ef_425 m oB) fun p e s m below meth c s₁ bs hx hby hml hZ hown hnm X0 e0 hlk hrt pre0 => ?_
  have N0 := Fr.nil n0
  obtain ⟨T652, h652, X652, e652, E652, A652, D652, -, st652⟩ := newO X0 hx hZ hown (own_w hw 113 rfl) (own_w hw 7 rfl) (own_w hw 8 rfl) e0 (g := (mkF m 0 #[.val (.ref oB)] [])) rfl (hb hby d19_0) (by decide) (by decide)
  obtain ⟨b652, g652⟩ : ∃ z, z = h0.size := ⟨_, rfl⟩
  rw [← g652] at A652 D652 st652
  have G652 : n0 ≤ b652 := Nat.le_trans Z0 (Nat.le_of_eq g652.symm)
  have sz652 : h0.size ≤ b652 := Nat.le_trans (Keep.refl h0 []).1 (Nat.le_of_eq g652.symm)
  have ne653 : oB ≠ b652 := Nat.ne_of_lt (Nat.lt_of_lt_of_le EB.lt (Nat.le_of_eq g652.symm))
  have ne654 : yB ≠ b652 := Nat.ne_of_lt (Nat.lt_of_lt_of_le VB.lt (Nat.le_of_eq g652.symm))
  have c655 := (Keep.refl h0 []).ext E652
  have c656 := Ev.ext E652
  have c657 := EB.ext E652
  have c658 := FvB.ext E652
  have c659 := FcB.ext E652
  have c660 := FnB.ext E652
  have c661 := VB.ext E652
  have F662 : Fa Z h652 b652 (.int (0 : Int32)) := D652 (Or.inr (own_w hw 32 rfl)) (ty := .byte) (by decide)
  have F663 : Fb Z h652 b652 .null := D652 (Or.inr (own_w hw 34 rfl)) (ty := (.array .byte)) (by decide)
  have z664 : n0 ≤ h652.size := Nat.le_trans Z0 E652.1
  obtain ⟨_, T665, L665, X665, N665, ⟨_, r665, kc665, rfl, -, K665, Fc665, Fv665, V665⟩, st665⟩ := own_cI X652 hx hZ hown (own_k_430 hw) (rmTb4 hw b652 oB yB kB c0 c1 c2 c3 z664 c656 A652 F662 F663 G652 c657 c658 c659 c660 c661 ne653 ne654) (W := 1) (k := 2) (n := 8) (by decide) e652 N0 (fun _ _ _ ⟨_, _, _, h, _⟩ => h) (Ls := #[.val (.ref oB)]) (rest := [(.ref b652)]) hml.symm (lenOf pd_431 rfl) (Nat.le_of_eq rfl) (hb hby d19_5)
  have c667 := c655.trans K665 (allS (Or.inr sz652) all0)
  have c674 := A652.keep K665
  have pre677 : PQ p e below T665 (mkF m 8 #[.val (.ref oB)] [(.ref b652)]) bs := fun t kt => pre0 t (by
    refine st652 _ ?_
    refine XS.dup X652.here hx rfl (hb hby d19_3) rfl rfl ?_
    refine XS.aloadN X652.here hx rfl (hb hby d19_4) rfl rfl ?_
    refine st665.trans ?_
    exact kt)
  have hQ : QTs4 Z c0 c1 c2 c3 h0 n0 (some (.ref b652)) T665.heap _ := ⟨b652, r665, kc665, rfl, N665, c667, sz652, G652, c674, Fc665, Fv665, V665⟩
  exact own_retA X665 hx hlk rfl hrt rfl (hb hby d19_8) pre677 (show QTs4 Z c0 c1 c2 c3 h0 n0 _ _ _ from hQ) (by decide) (by decide)
set_option maxRecDepth 65536 in
set_option maxHeartbeats 40000000 in
theorem rmCk5 {l : Launch} {Z : State} {a0 : Array Value} (hw : Hw a0 Z) {ws : List Jvm.Cond}  {h0 : Heap} {n0 : Nat} (Z0 : n0 ≤ h0.size) : MF l Z own_y_330 jdk_65_method_131_code 2 none ws (⟨0, 0, 0, 0⟩ : Room) #[(.int (0 : Int32)), (.int (5 : Int32))] h0 (QU h0 n0) := by
  refine own_en (plainFor_of_name pn_332) (fun m => ef_331 m (0 : Int32) (5 : Int32)) fun p e s m below meth c s₁ bs hx hby hml hZ hown hnm X0 e0 hlk hrt pre0 => ?_
  have N0 := Fr.nil n0
  have pre678 : PQ p e below s₁ (mkF m 37 (Y2 0 5) []) bs := fun t kt => pre0 t (by
    refine XS.iloadN X0.here hx rfl (hb hby d28_0) rfl ?_
    refine XS.iloadN X0.here hx rfl (hb hby d28_1) rfl ?_
    refine XS.icmpYes X0.here hx rfl (pc0 := 2) (pc' := 37) rfl (hb hby d28_2) rfl (flt (by decide : ¬ ((5 : Int32) < (0 : Int32)))).2.1 (by decide) (by decide) ?_
    exact kt)
  exact own_retV X0 hx hlk hrt (hb hby d28_37) pre678 (show QU h0 n0 _ _ _ from ⟨rfl, N0, e0⟩) (by decide) (by decide)
set_option maxRecDepth 65536 in
set_option maxHeartbeats 40000000 in
theorem rmMn5 {l : Launch} {Z : State} {a0 : Array Value} (hw : Hw a0 Z) {ws : List Jvm.Cond}  {h0 : Heap} {n0 : Nat} (Z0 : n0 ≤ h0.size) : MF l Z own_y_337 jdk_29_method_69_code 2 (some .int) ws (⟨0, 0, 0, 0⟩ : Room) #[(.int (16 : Int32)), (.int (5 : Int32))] h0 (QI (5 : Int32) h0 n0) := by
  refine own_en (Jvm.Free.JP.mathPlain rfl (by decide +kernel)) (fun m => ef_338 m (16 : Int32) (5 : Int32)) fun p e s m below meth c s₁ bs hx hby hml hZ hown hnm X0 e0 hlk hrt pre0 => ?_
  have N0 := Fr.nil n0
  have pre679 : PQ p e below s₁ (mkF m 10 (Y2 16 5) [(.int (5 : Int32))]) bs := fun t kt => pre0 t (by
    refine XS.iloadN X0.here hx rfl (hb hby d29_0) rfl ?_
    refine XS.iloadN X0.here hx rfl (hb hby d29_1) rfl ?_
    refine XS.icmpYes X0.here hx rfl (pc0 := 2) (pc' := 9) rfl (hb hby d29_2) rfl (tlt (by decide : (5 : Int32) < (16 : Int32))).2.2.1 (by decide) (by decide) ?_
    refine XS.iloadN X0.here hx rfl (hb hby d29_9) rfl ?_
    exact kt)
  exact own_retI X0 hx hlk hrt (hb hby d29_10) pre679 (show QI (5 : Int32) h0 n0 _ _ _ from ⟨rfl, N0, e0⟩) (by decide) (by decide)
def QCb5 (Z : State) (c0 c1 c2 c3 c4 : Int32) (h0 : Heap) (n0 : Nat) (v : Option Value) (h : Heap) (L : List Loc) : Prop := ∃ (r : Addr) (k : ClassId), v = some (.ref r) ∧ Fr n0 L ∧ Keep h0 h [] ∧ h0.size ≤ r ∧ n0 ≤ r ∧ Arv Z h r k .byte (5 : Int32) [(.int c0), (.int c1), (.int c2), (.int c3), (.int c4)] (.int (0 : Int32))
set_option maxRecDepth 65536 in
set_option maxHeartbeats 40000000 in
theorem rmCb5 {l : Launch} {Z : State} {a0 : Array Value} (hw : Hw a0 Z) {ws : List Jvm.Cond} (yB : Addr) (kB : ClassId) (c0 c1 c2 c3 c4 : Int32) {h0 : Heap} {n0 : Nat} (Z0 : n0 ≤ h0.size) (VB : Arv Z h0 yB kB .byte (16 : Int32) [(.int c0), (.int c1), (.int c2), (.int c3), (.int c4), o0, o0, o0, o0, o0, o0, o0, o0, o0, o0, o0] (.int (0 : Int32))) : MF l Z own_y_344 jdk_65_method_133_code 5 (some (.array .byte)) ws (⟨1, 1, 5, 18⟩ : Room) #[(.ref yB), o0, (.int (5 : Int32))] h0 (QCb5 Z c0 c1 c2 c3 c4 h0 n0) := by
  refine own_en (plainFor_of_name pn_332) (fun m => ef_345 m yB (0 : Int32) (5 : Int32)) fun p e s m below meth c s₁ bs hx hby hml hZ hown hnm X0 e0 hlk hrt pre0 => ?_
  have N0 := Fr.nil n0
  obtain ⟨_, T680, L680, X680, N680, ⟨_, rfl, -, e680⟩, st680⟩ := own_cS X0 hx hZ hown (own_k_349 hw) (rmCk5 hw  Z0 ) (W := 0) (k := 0) (n := 0) (by decide) e0 N0 (fun _ _ _ h => h.2.1) (Ls := (Y18 yB 0 5)) (rest := []) hml.symm (lenOf pd_59 rfl) (Nat.le_of_eq rfl) (hb hby d27_2)
  obtain ⟨T681, h681, k681, X681, e681, E681, A681, st681⟩ := newP X680 hx hZ (own_w hw 24 rfl) e680 (g := (mkF m 10 (Y19 yB 0 5 5) [(.int (5 : Int32))])) rfl (hb hby d27_10) rfl (by decide) (cap := 5) (by decide) (by decide) (by decide) (by decide)
  obtain ⟨b681, g681⟩ : ∃ z, z = h0.size := ⟨_, rfl⟩
  rw [← g681] at A681 st681
  have G681 : n0 ≤ b681 := Nat.le_trans Z0 (Nat.le_of_eq g681.symm)
  have sz681 : h0.size ≤ b681 := Nat.le_trans (Keep.refl h0 []).1 (Nat.le_of_eq g681.symm)
  have c683 := (Keep.refl h0 []).ext E681
  have c684 := VB.ext E681
  have z685 : n0 ≤ h681.size := Nat.le_trans Z0 E681.1
  have V681 : Arv Z h681 b681 k681 .byte (5 : Int32) [(.int (0 : Int32)), o0, o0, o0, o0] (.int (0 : Int32)) := (Arv.new A681 (by decide)).pad (pad_rep [] (.int (0 : Int32)) 5)
  obtain ⟨cl686, A686, q686, S686, M686, H686, J686⟩ := id c684
  obtain ⟨_, T687, L687, X687, N687, ⟨_, rfl, -, e687⟩, st687⟩ := own_cS X681 hx hZ hown (own_k_367 hw) (rmMn5 hw  z685 ) (W := 4) (k := 1) (n := 5) (by decide) e681 N680 (fun _ _ _ h => h.2.1) (Ls := (Y20 yB 0 5 5 b681)) (rest := [(.int (0 : Int32)), (.ref b681), o0, (.ref yB)]) hml.symm (lenOf pd_368 rfl) (Nat.le_of_eq rfl) (hb hby d27_24)
  obtain ⟨T688, h688, L688, X688, e688, N688, K688, U688, st688⟩ := cpA X687 hx hZ hown (own_w hw 152 rfl) (own_w hw 107 rfl) (own_w hw 105 rfl) (own_w hw 106 rfl) e687 (us := [(.int c0), (.int c1), (.int c2), (.int c3), (.int c4)]) c684 V681 (Or.inl ⟨rfl, rfl⟩) (by decide) (by decide) (by decide) (by decide) (by decide) rfl (Nat.le_of_ble_eq_true rfl) N687 G681 (g := (mkF m 27 (Y20 yB 0 5 5 b681) [(.int (5 : Int32)), o0, (.ref b681), o0, (.ref yB)])) rfl (by rw [hml]; rfl) rfl (hb hby d27_27) (by decide) (W := 0) (by show 2 * 0 + _ ≤ _; exact Nat.le_of_eq rfl) (by decide)
  have V688 : Arv Z h688 b681 k681 .byte (5 : Int32) [(.int c0), (.int c1), (.int c2), (.int c3), (.int c4)] (.int (0 : Int32)) := U688
  have c690 := c683.trans K688 (allS (Or.inr sz681) all0)
  have pre693 : PQ p e below T688 (mkF m 32 (Y20 yB 0 5 5 b681) [(.ref b681)]) bs := fun t kt => pre0 t (by
    refine XS.iloadN X0.here hx rfl (hb hby d27_0) rfl ?_
    refine XS.iloadN X0.here hx rfl (hb hby d27_1) rfl ?_
    refine st680.trans ?_
    refine XS.iloadN X680.here hx rfl (hb hby d27_5) rfl ?_
    refine XS.iloadN X680.here hx rfl (hb hby d27_6) rfl ?_
    refine XS.isub X680.here hx rfl (hb hby d27_7) rfl ?_
    refine XS.istoreN X680.here hx rfl (hb hby d27_8) rfl (l' := (Y19 yB 0 5 5)) rfl ?_
    refine XS.iloadN X680.here hx rfl (hb hby d27_9) rfl ?_
    refine st681 _ ?_
    refine XS.astore X681.here hx rfl (hb hby d27_12) rfl rfl (l' := (Y20 yB 0 5 5 b681)) rfl ?_
    refine XS.aloadN X681.here hx rfl (hb hby d27_14) rfl rfl ?_
    refine XS.iloadN X681.here hx rfl (hb hby d27_15) rfl ?_
    refine XS.aload X681.here hx rfl (hb hby d27_16) rfl rfl ?_
    refine XS.iconst X681.here hx rfl (hb hby d27_18) ?_
    refine XS.aloadN X681.here hx rfl (hb hby d27_19) rfl rfl ?_
    refine X681.arraylength hx (by rw [e681]; exact A686.1) (State.isArrayOf_alike hZ.alike A686.2.1) (g := (mkF m 20 (Y20 yB 0 5 5 b681) [(.ref yB), o0, (.ref b681), o0, (.ref yB)])) rfl rfl (hb hby d27_20) _ ?_
    rw [len_of S686 M686]
    refine XS.iloadN X681.here hx rfl (hb hby d27_21) rfl ?_
    refine XS.isub X681.here hx rfl (hb hby d27_22) rfl ?_
    refine XS.iloadN X681.here hx rfl (hb hby d27_23) rfl ?_
    refine st687.trans ?_
    refine st688 _ ?_
    refine XS.aload X688.here hx rfl (hb hby d27_30) rfl rfl ?_
    exact kt)
  have hQ : QCb5 Z c0 c1 c2 c3 c4 h0 n0 (some (.ref b681)) h688 _ := ⟨b681, k681, rfl, N688, c690, sz681, G681, V688⟩
  exact own_retA X688 hx hlk rfl hrt rfl (hb hby d27_32) pre693 (show QCb5 Z c0 c1 c2 c3 c4 h0 n0 _ _ _ from (by rw [e688]; exact hQ)) (by decide) (by decide)
set_option maxRecDepth 65536 in
set_option maxHeartbeats 40000000 in
theorem rmCr5 {l : Launch} {Z : State} {a0 : Array Value} (hw : Hw a0 Z) {ws : List Jvm.Cond} (yB : Addr) (kB : ClassId) (c0 c1 c2 c3 c4 : Int32) {h0 : Heap} {n0 : Nat} (Z0 : n0 ≤ h0.size) (VB : Arv Z h0 yB kB .byte (16 : Int32) [(.int c0), (.int c1), (.int c2), (.int c3), (.int c4), o0, o0, o0, o0, o0, o0, o0, o0, o0, o0, o0] (.int (0 : Int32))) : MF l Z own_y_372 jdk_65_method_132_code 3 (some (.array .byte)) ws (⟨2, 1, 5, 34⟩ : Room) #[(.ref yB), o0, (.int (5 : Int32))] h0 (QCb5 Z c0 c1 c2 c3 c4 h0 n0) := by
  refine own_en (plainFor_of_name pn_332) (fun m => ef_373 m yB (0 : Int32) (5 : Int32)) fun p e s m below meth c s₁ bs hx hby hml hZ hown hnm X0 e0 hlk hrt pre0 => ?_
  have N0 := Fr.nil n0
  obtain ⟨cl694, A694, q694, S694, M694, H694, J694⟩ := id VB
  obtain ⟨_, T695, L695, X695, N695, ⟨_, r695, kc695, rfl, -, K695, z695, G695, V695⟩, st695⟩ := own_cS X0 hx hZ hown (own_k_384 hw) (rmCb5 hw yB kB c0 c1 c2 c3 c4 Z0 VB) (W := 0) (k := 1) (n := 5) (by decide) e0 N0 (fun _ _ _ ⟨_, _, _, h, _⟩ => h) (Ls := (Y13 yB 0 5)) (rest := []) hml.symm (lenOf pd_385 rfl) (Nat.le_of_eq rfl) (hb hby d26_13)
  have pre696 : PQ p e below T695 (mkF m 16 (Y13 yB 0 5) [(.ref r695)]) bs := fun t kt => pre0 t (by
    refine XS.iloadN X0.here hx rfl (hb hby d26_0) rfl ?_
    refine XS.ifNo X0.here hx rfl (hb hby d26_1) rfl ((if0 _ _).trans (teq (by decide : (0 : Int32) = (0 : Int32))).2) ?_
    refine XS.iloadN X0.here hx rfl (hb hby d26_4) rfl ?_
    refine XS.aloadN X0.here hx rfl (hb hby d26_5) rfl rfl ?_
    refine X0.arraylength hx (by rw [e0]; exact A694.1) (State.isArrayOf_alike hZ.alike A694.2.1) (g := (mkF m 6 (Y13 yB 0 5) [(.ref yB), (.int (5 : Int32))])) rfl rfl (hb hby d26_6) _ ?_
    rw [len_of S694 M694]
    refine XS.icmpNo X0.here hx rfl (hb hby d26_7) rfl (feq (by decide : ¬ ((5 : Int32) = (16 : Int32)))).1 ?_
    refine XS.aloadN X0.here hx rfl (hb hby d26_10) rfl rfl ?_
    refine XS.iloadN X0.here hx rfl (hb hby d26_11) rfl ?_
    refine XS.iloadN X0.here hx rfl (hb hby d26_12) rfl ?_
    refine st695.trans ?_
    exact kt)
  exact own_retA X695 hx hlk rfl hrt rfl (hb hby d26_16) pre696 (show QCb5 Z c0 c1 c2 c3 c4 h0 n0 _ _ _ from ⟨r695, kc695, rfl, N695, K695, z695, G695, V695⟩) (by decide) (by decide)
def QTa5 (Z : State) (oS : Addr) (c0 c1 c2 c3 c4 : Int32) (h0 : Heap) (n0 : Nat) (v : Option Value) (h : Heap) (L : List Loc) : Prop := ∃ (r : Addr) (k : ClassId), v = none ∧ Fr n0 L ∧ Keep h0 h [oS] ∧ Fa Z h oS (.int (0 : Int32)) ∧ Fb Z h oS (.ref r) ∧ Arv Z h r k .byte (5 : Int32) [(.int c0), (.int c1), (.int c2), (.int c3), (.int c4)] (.int (0 : Int32))
set_option maxRecDepth 65536 in
set_option maxHeartbeats 40000000 in
theorem rmTa5 {l : Launch} {Z : State} {a0 : Array Value} (hw : Hw a0 Z) {ws : List Jvm.Cond} (oS : Addr) (oB yB : Addr) (kB : ClassId) (c0 c1 c2 c3 c4 : Int32) {h0 : Heap} {n0 : Nat} (Z0 : n0 ≤ h0.size) {cs : Int32} {fv : Value} (Ev : Ev0 Z n0 h0 cs fv) (ES : Exa Z h0 oS "java/lang/String") (FcS : Fa Z h0 oS (.int (0 : Int32))) (FvS : Fb Z h0 oS .null) (GS : n0 ≤ oS) (EB : Exa Z h0 oB "java/lang/StringBuilder") (FvB : Fc Z h0 oB (.ref yB)) (FcB : Fd Z h0 oB (.int (0 : Int32))) (FnB : Fe Z h0 oB (.int (5 : Int32))) (VB : Arv Z h0 yB kB .byte (16 : Int32) [(.int c0), (.int c1), (.int c2), (.int c3), (.int c4), o0, o0, o0, o0, o0, o0, o0, o0, o0, o0, o0] (.int (0 : Int32))) (hn1 : oB ≠ oS) (hn2 : yB ≠ oS) : MF l Z own_y_387 jdk_42_method_150_code 5 none ws (⟨3, 1, 5, 49⟩ : Room) #[(.ref oS), (.ref oB), .null] h0 (QTa5 Z oS c0 c1 c2 c3 c4 h0 n0) := by
  refine own_en (plainFor_of_name pn_2) (fun m => ef_388 m oS oB) fun p e s m below meth c s₁ bs hx hby hml hZ hown hnm X0 e0 hlk hrt pre0 => ?_
  have N0 := Fr.nil n0
  obtain ⟨T697, X697, e697, st697⟩ := initO X0 hx hZ hown (own_w hw 16 rfl) (own_w hw 17 rfl) (own_w hw 18 rfl) e0 (g := (mkF m 1 (Y21 oS oB) [(.ref oS)])) rfl (by rw [hml]; rfl) rfl (hb hby d21_1) (by decide) (W := 0) (by show 2 * 0 + _ ≤ _; exact Nat.le_of_eq rfl) (by decide)
  obtain ⟨_, T698, L698, X698, N698, ⟨_, rfl, -, e698⟩, st698⟩ := own_cV X697 hx hZ hown (own_k_393 hw) (rmGv hw oB yB Z0 FvB) (W := 0) (k := 0) (n := 0) (by decide) e697 N0 (fun _ _ _ h => h.2.1) EB (Ls := (Y21 oS oB)) (rest := []) hml.symm (lenOf pd_394 rfl) (Nat.le_of_eq rfl) (hb hby d21_5)
  obtain ⟨cq699, kq699, q699a, q699b, q699c⟩ := isOf hZ e698 EB
  obtain ⟨_, _, ⟨T699, L699, k699, n699⟩, -, X699, ⟨Lc699, hQ699, l699, y699, z699⟩, st699⟩ := X698.virtualBack hx (y := own_y_310) (z := own_y_315) hown (mvT hZ (own_w hw 125 rfl)) (mvT hZ (own_w hw 126 rfl)) (own_face (args := #[]) (y := ⟨"java/lang/AbstractStringBuilder", "getValue", "()[B"⟩) (mvT hZ (own_w hw 123 rfl)) rfl) (mvT hZ (own_w hw 128 rfl)) (mvT hZ (own_w hw 129 rfl)) (by decide) (backOf (W := 0) (rmBm hw oB (5 : Int32) Z0 EB FnB) hZ (own_w hw 130 rfl) (own_w hw 54 rfl) (by decide) (by decide)) q699a q699c (g := (mkF m 10 (Y22 oS oB yB) [(.ref oB)])) rfl (by rw [hml]; rfl) (Steps.refl _) (argsL := []) (rest := []) (lenOf pd_272 rfl) rfl (by show 2 * 0 + _ ≤ _; exact Nat.le_of_eq rfl) (hb hby d21_10) (fun _ _ => ⟨rfl, e698, (by decide : 0 + 0 ≤ _), (by decide : 0 + 0 ≤ _)⟩)
  dsimp only [Pt.U, Pt.locs, Pt.cells, Pt.slots] at X699 l699 y699 z699 st699 hQ699
  subst y699 z699
  obtain ⟨rfl, Nq699, e699⟩ := hQ699
  have N699 : Fr n0 L699 := by rw [l699]; exact Fr.app N698 Nq699
  replace X699 := own_more (k := 0) (n := 0) X699 (Nat.le_of_ble_eq_true rfl) (Nat.le_of_ble_eq_true rfl)
  obtain ⟨_, T700, L700, X700, N700, ⟨_, rfl, -, e700⟩, st700⟩ := own_cV X699 hx hZ hown (own_k_401 hw) (rmBt hw oB Z0 Ev FcB) (W := 0) (k := 0) (n := 0) (by decide) e699 N699 (fun _ _ _ h => h.2.1) EB (Ls := (Y23 oS oB yB 5)) (rest := []) hml.symm (lenOf pd_72 rfl) (Nat.le_of_eq rfl) (hb hby d21_16)
  obtain ⟨T701, h701, X701, e701, W701, st701⟩ := putFN X700 hx hZ hown (own_w hw 31 rfl) Via.refl e700 FcS ES (Or.inr ⟨(own_w hw 32 rfl), rfl, hnm⟩) (own_w hw 7 rfl) (ty := .byte) (v' := (.int (nar .byte (0 : Int32)))) (by decide) rfl (fits_nar_byte _) (g := (mkF m 24 (Y23 oS oB yB 5) [(.int (0 : Int32)), (.ref oS)])) rfl rfl (hb hby d21_24)
  have Fw701 := FcS.same W701
  have N701 := Fr.snoc X701 N700 GS
  have z702 : n0 ≤ h701.size := Nat.le_trans Z0 (Keep.of_wr W701).1
  have c703 := (Keep.refl h0 [oS]).wr W701 (Or.inl (List.mem_of_getElem? (i := 0) rfl))
  have c705 := ES.wr W701
  have c707 := FvS.other W701 (Or.inr (own_sn_158 hw))
  have c712 := VB.other W701 hn2
  obtain ⟨_, T713, L713, X713, N713, ⟨_, r713, kc713, rfl, -, K713, z713, G713, V713⟩, st713⟩ := own_cS X701 hx hZ hown (own_k_411 hw) (rmCr5 hw yB kB c0 c1 c2 c3 c4 z702 c712) (W := 1) (k := 1) (n := 5) (by decide) e701 N701 (fun _ _ _ ⟨_, _, _, h, _⟩ => h) (Ls := (Y23 oS oB yB 5)) (rest := [(.ref oS)]) hml.symm (lenOf pd_385 rfl) (Nat.le_of_eq rfl) (hb hby d21_32)
  have ne714 : oS ≠ r713 := Nat.ne_of_lt (Nat.lt_of_lt_of_le c705.lt z713)
  have c718 := c703.trans K713 all0
  have c720 := c705.keep K713
  have c721 := c707.keep K713 nin0
  have c727 := Fw701.keep K713 nin0
  obtain ⟨T728, h728, X728, e728, W728, st728⟩ := putF X713 hx hZ hown (host := "") (Or.inl (own_w hw 33 rfl)) Via.refl rfl c721 c720 (Or.inr ⟨(own_w hw 34 rfl), rfl, hnm⟩) (own_w hw 7 rfl) (ty := (.array .byte)) (by decide) rfl rfl (g := (mkF m 35 (Y23 oS oB yB 5) [(.ref r713), (.ref oS)])) rfl rfl (hb hby d21_35)
  have Fw728 := c721.same W728
  have N728 := Fr.snoc X728 N713 GS
  have c730 := c718.wr W728 (Or.inl (List.mem_of_getElem? (i := 0) rfl))
  have c739 := c727.other W728 (Or.inr (own_sn_162 hw))
  have c740 := V713.other W728 (Ne.symm ne714)
  have pre741 : PQ p e below T728 (mkF m 97 (Y23 oS oB yB 5) []) bs := fun t kt => pre0 t (by
    refine XS.aloadN X0.here hx rfl (hb hby d21_0) rfl rfl ?_
    refine st697 _ ?_
    refine XS.aloadN X697.here hx rfl (hb hby d21_4) rfl rfl ?_
    refine st698.trans ?_
    refine XS.astoreN X698.here hx rfl (hb hby d21_8) rfl rfl (l' := (Y22 oS oB yB)) rfl ?_
    refine XS.aloadN X698.here hx rfl (hb hby d21_9) rfl rfl ?_
    refine st699.trans ?_
    refine XS.istore X699.here hx rfl (hb hby d21_13) rfl (l' := (Y23 oS oB yB 5)) rfl ?_
    refine XS.aloadN X699.here hx rfl (hb hby d21_15) rfl rfl ?_
    refine st700.trans ?_
    refine XS.ifNo X700.here hx rfl (hb hby d21_19) rfl ((if0 _ _).trans (feq (by decide : ¬ ((1 : Int32) = (0 : Int32)))).1) ?_
    refine XS.aloadN X700.here hx rfl (hb hby d21_22) rfl rfl ?_
    refine XS.iconst X700.here hx rfl (hb hby d21_23) ?_
    refine st701 _ ?_
    refine XS.aloadN X701.here hx rfl (hb hby d21_27) rfl rfl ?_
    refine XS.aloadN X701.here hx rfl (hb hby d21_28) rfl rfl ?_
    refine XS.iconst X701.here hx rfl (hb hby d21_29) ?_
    refine XS.iload X701.here hx rfl (hb hby d21_30) rfl ?_
    refine st713.trans ?_
    refine st728 _ ?_
    refine XS.goto X728.here hx rfl (pc0 := 38) (pc' := 97) rfl (hb hby d21_38) (by decide) (by decide) ?_
    exact kt)
  have hQ : QTa5 Z oS c0 c1 c2 c3 c4 h0 n0 none h728 _ := ⟨r713, kc713, rfl, N728, c730, c739, Fw728, c740⟩
  exact own_retV X728 hx hlk hrt (hb hby d21_97) pre741 (show QTa5 Z oS c0 c1 c2 c3 c4 h0 n0 _ _ _ from (by rw [e728]; exact hQ)) (by decide) (by decide)
set_option maxRecDepth 65536 in
set_option maxHeartbeats 40000000 in
theorem rmTb5 {l : Launch} {Z : State} {a0 : Array Value} (hw : Hw a0 Z) {ws : List Jvm.Cond} (oS : Addr) (oB yB : Addr) (kB : ClassId) (c0 c1 c2 c3 c4 : Int32) {h0 : Heap} {n0 : Nat} (Z0 : n0 ≤ h0.size) {cs : Int32} {fv : Value} (Ev : Ev0 Z n0 h0 cs fv) (ES : Exa Z h0 oS "java/lang/String") (FcS : Fa Z h0 oS (.int (0 : Int32))) (FvS : Fb Z h0 oS .null) (GS : n0 ≤ oS) (EB : Exa Z h0 oB "java/lang/StringBuilder") (FvB : Fc Z h0 oB (.ref yB)) (FcB : Fd Z h0 oB (.int (0 : Int32))) (FnB : Fe Z h0 oB (.int (5 : Int32))) (VB : Arv Z h0 yB kB .byte (16 : Int32) [(.int c0), (.int c1), (.int c2), (.int c3), (.int c4), o0, o0, o0, o0, o0, o0, o0, o0, o0, o0, o0] (.int (0 : Int32))) (hn1 : oB ≠ oS) (hn2 : yB ≠ oS) : MF l Z own_y_415 jdk_42_method_53_code 2 none ws (⟨4, 1, 5, 65⟩ : Room) #[(.ref oS), (.ref oB)] h0 (QTa5 Z oS c0 c1 c2 c3 c4 h0 n0) := by
  refine own_en (plainFor_of_name pn_2) (fun m => ef_416 m oS oB) fun p e s m below meth c s₁ bs hx hby hml hZ hown hnm X0 e0 hlk hrt pre0 => ?_
  have N0 := Fr.nil n0
  obtain ⟨_, T742, L742, X742, N742, ⟨_, r742, kc742, rfl, -, K742, Fc742, Fv742, V742⟩, st742⟩ := own_cI X0 hx hZ hown (own_k_421 hw) (rmTa5 hw oS oB yB kB c0 c1 c2 c3 c4 Z0 Ev ES FcS FvS GS EB FvB FcB FnB VB hn1 hn2) (W := 0) (k := 1) (n := 5) (by decide) e0 N0 (fun _ _ _ ⟨_, _, _, h, _⟩ => h) (Ls := (Y11 oS oB)) (rest := []) hml.symm (lenOf pd_422 rfl) (Nat.le_of_eq rfl) (hb hby d20_3)
  have pre743 : PQ p e below T742 (mkF m 6 (Y11 oS oB) []) bs := fun t kt => pre0 t (by
    refine XS.aloadN X0.here hx rfl (hb hby d20_0) rfl rfl ?_
    refine XS.aloadN X0.here hx rfl (hb hby d20_1) rfl rfl ?_
    refine XS.aconstNull X0.here hx rfl (hb hby d20_2) ?_
    refine st742.trans ?_
    exact kt)
  exact own_retV X742 hx hlk hrt (hb hby d20_6) pre743 (show QTa5 Z oS c0 c1 c2 c3 c4 h0 n0 _ _ _ from ⟨r742, kc742, rfl, N742, K742, Fc742, Fv742, V742⟩) (by decide) (by decide)
def QTs5 (Z : State) (c0 c1 c2 c3 c4 : Int32) (h0 : Heap) (n0 : Nat) (v : Option Value) (h : Heap) (L : List Loc) : Prop := ∃ (r y : Addr) (k : ClassId), v = some (.ref r) ∧ Fr n0 L ∧ Keep h0 h [] ∧ h0.size ≤ r ∧ n0 ≤ r ∧ Exa Z h r "java/lang/String" ∧ Fa Z h r (.int (0 : Int32)) ∧ Fb Z h r (.ref y) ∧ Arv Z h y k .byte (5 : Int32) [(.int c0), (.int c1), (.int c2), (.int c3), (.int c4)] (.int (0 : Int32))
set_option maxRecDepth 65536 in
set_option maxHeartbeats 40000000 in
theorem rmTs5 {l : Launch} {Z : State} {a0 : Array Value} (hw : Hw a0 Z) {ws : List Jvm.Cond} (oB yB : Addr) (kB : ClassId) (c0 c1 c2 c3 c4 : Int32) {h0 : Heap} {n0 : Nat} (Z0 : n0 ≤ h0.size) {cs : Int32} {fv : Value} (Ev : Ev0 Z n0 h0 cs fv) (EB : Exa Z h0 oB "java/lang/StringBuilder") (FvB : Fc Z h0 oB (.ref yB)) (FcB : Fd Z h0 oB (.int (0 : Int32))) (FnB : Fe Z h0 oB (.int (5 : Int32))) (VB : Arv Z h0 yB kB .byte (16 : Int32) [(.int c0), (.int c1), (.int c2), (.int c3), (.int c4), o0, o0, o0, o0, o0, o0, o0, o0, o0, o0, o0] (.int (0 : Int32))) : MF l Z own_y_424 jdk_67_method_42_code 1 (some (.object "java/lang/String")) ws (⟨5, 2, 9, 79⟩ : Room) #[(.ref oB)] h0 (QTs5 Z c0 c1 c2 c3 c4 h0 n0) := by
  refine own_en (plainFor_of_name pn_198) (fun m => ef_425 m oB) fun p e s m below meth c s₁ bs hx hby hml hZ hown hnm X0 e0 hlk hrt pre0 => ?_
  have N0 := Fr.nil n0
  obtain ⟨T744, h744, X744, e744, E744, A744, D744, -, st744⟩ := newO X0 hx hZ hown (own_w hw 113 rfl) (own_w hw 7 rfl) (own_w hw 8 rfl) e0 (g := (mkF m 0 #[.val (.ref oB)] [])) rfl (hb hby d19_0) (by decide) (by decide)
  obtain ⟨b744, g744⟩ : ∃ z, z = h0.size := ⟨_, rfl⟩
  rw [← g744] at A744 D744 st744
  have G744 : n0 ≤ b744 := Nat.le_trans Z0 (Nat.le_of_eq g744.symm)
  have sz744 : h0.size ≤ b744 := Nat.le_trans (Keep.refl h0 []).1 (Nat.le_of_eq g744.symm)
  have ne745 : oB ≠ b744 := Nat.ne_of_lt (Nat.lt_of_lt_of_le EB.lt (Nat.le_of_eq g744.symm))
  have ne746 : yB ≠ b744 := Nat.ne_of_lt (Nat.lt_of_lt_of_le VB.lt (Nat.le_of_eq g744.symm))
  have c747 := (Keep.refl h0 []).ext E744
  have c748 := Ev.ext E744
  have c749 := EB.ext E744
  have c750 := FvB.ext E744
  have c751 := FcB.ext E744
  have c752 := FnB.ext E744
  have c753 := VB.ext E744
  have F754 : Fa Z h744 b744 (.int (0 : Int32)) := D744 (Or.inr (own_w hw 32 rfl)) (ty := .byte) (by decide)
  have F755 : Fb Z h744 b744 .null := D744 (Or.inr (own_w hw 34 rfl)) (ty := (.array .byte)) (by decide)
  have z756 : n0 ≤ h744.size := Nat.le_trans Z0 E744.1
  obtain ⟨_, T757, L757, X757, N757, ⟨_, r757, kc757, rfl, -, K757, Fc757, Fv757, V757⟩, st757⟩ := own_cI X744 hx hZ hown (own_k_430 hw) (rmTb5 hw b744 oB yB kB c0 c1 c2 c3 c4 z756 c748 A744 F754 F755 G744 c749 c750 c751 c752 c753 ne745 ne746) (W := 1) (k := 2) (n := 9) (by decide) e744 N0 (fun _ _ _ ⟨_, _, _, h, _⟩ => h) (Ls := #[.val (.ref oB)]) (rest := [(.ref b744)]) hml.symm (lenOf pd_431 rfl) (Nat.le_of_eq rfl) (hb hby d19_5)
  have c759 := c747.trans K757 (allS (Or.inr sz744) all0)
  have c766 := A744.keep K757
  have pre769 : PQ p e below T757 (mkF m 8 #[.val (.ref oB)] [(.ref b744)]) bs := fun t kt => pre0 t (by
    refine st744 _ ?_
    refine XS.dup X744.here hx rfl (hb hby d19_3) rfl rfl ?_
    refine XS.aloadN X744.here hx rfl (hb hby d19_4) rfl rfl ?_
    refine st757.trans ?_
    exact kt)
  have hQ : QTs5 Z c0 c1 c2 c3 c4 h0 n0 (some (.ref b744)) T757.heap _ := ⟨b744, r757, kc757, rfl, N757, c759, sz744, G744, c766, Fc757, Fv757, V757⟩
  exact own_retA X757 hx hlk rfl hrt rfl (hb hby d19_8) pre769 (show QTs5 Z c0 c1 c2 c3 c4 h0 n0 _ _ _ from hQ) (by decide) (by decide)
set_option maxRecDepth 65536 in
set_option maxHeartbeats 40000000 in
theorem rmCk6 {l : Launch} {Z : State} {a0 : Array Value} (hw : Hw a0 Z) {ws : List Jvm.Cond}  {h0 : Heap} {n0 : Nat} (Z0 : n0 ≤ h0.size) : MF l Z own_y_330 jdk_65_method_131_code 2 none ws (⟨0, 0, 0, 0⟩ : Room) #[(.int (0 : Int32)), (.int (6 : Int32))] h0 (QU h0 n0) := by
  refine own_en (plainFor_of_name pn_332) (fun m => ef_331 m (0 : Int32) (6 : Int32)) fun p e s m below meth c s₁ bs hx hby hml hZ hown hnm X0 e0 hlk hrt pre0 => ?_
  have N0 := Fr.nil n0
  have pre770 : PQ p e below s₁ (mkF m 37 (Y2 0 6) []) bs := fun t kt => pre0 t (by
    refine XS.iloadN X0.here hx rfl (hb hby d28_0) rfl ?_
    refine XS.iloadN X0.here hx rfl (hb hby d28_1) rfl ?_
    refine XS.icmpYes X0.here hx rfl (pc0 := 2) (pc' := 37) rfl (hb hby d28_2) rfl (flt (by decide : ¬ ((6 : Int32) < (0 : Int32)))).2.1 (by decide) (by decide) ?_
    exact kt)
  exact own_retV X0 hx hlk hrt (hb hby d28_37) pre770 (show QU h0 n0 _ _ _ from ⟨rfl, N0, e0⟩) (by decide) (by decide)
set_option maxRecDepth 65536 in
set_option maxHeartbeats 40000000 in
theorem rmMn6 {l : Launch} {Z : State} {a0 : Array Value} (hw : Hw a0 Z) {ws : List Jvm.Cond}  {h0 : Heap} {n0 : Nat} (Z0 : n0 ≤ h0.size) : MF l Z own_y_337 jdk_29_method_69_code 2 (some .int) ws (⟨0, 0, 0, 0⟩ : Room) #[(.int (16 : Int32)), (.int (6 : Int32))] h0 (QI (6 : Int32) h0 n0) := by
  refine own_en (Jvm.Free.JP.mathPlain rfl (by decide +kernel)) (fun m => ef_338 m (16 : Int32) (6 : Int32)) fun p e s m below meth c s₁ bs hx hby hml hZ hown hnm X0 e0 hlk hrt pre0 => ?_
  have N0 := Fr.nil n0
  have pre771 : PQ p e below s₁ (mkF m 10 (Y2 16 6) [(.int (6 : Int32))]) bs := fun t kt => pre0 t (by
    refine XS.iloadN X0.here hx rfl (hb hby d29_0) rfl ?_
    refine XS.iloadN X0.here hx rfl (hb hby d29_1) rfl ?_
    refine XS.icmpYes X0.here hx rfl (pc0 := 2) (pc' := 9) rfl (hb hby d29_2) rfl (tlt (by decide : (6 : Int32) < (16 : Int32))).2.2.1 (by decide) (by decide) ?_
    refine XS.iloadN X0.here hx rfl (hb hby d29_9) rfl ?_
    exact kt)
  exact own_retI X0 hx hlk hrt (hb hby d29_10) pre771 (show QI (6 : Int32) h0 n0 _ _ _ from ⟨rfl, N0, e0⟩) (by decide) (by decide)
def QCb6 (Z : State) (c0 c1 c2 c3 c4 c5 : Int32) (h0 : Heap) (n0 : Nat) (v : Option Value) (h : Heap) (L : List Loc) : Prop := ∃ (r : Addr) (k : ClassId), v = some (.ref r) ∧ Fr n0 L ∧ Keep h0 h [] ∧ h0.size ≤ r ∧ n0 ≤ r ∧ Arv Z h r k .byte (6 : Int32) [(.int c0), (.int c1), (.int c2), (.int c3), (.int c4), (.int c5)] (.int (0 : Int32))
set_option maxRecDepth 65536 in
set_option maxHeartbeats 40000000 in
theorem rmCb6 {l : Launch} {Z : State} {a0 : Array Value} (hw : Hw a0 Z) {ws : List Jvm.Cond} (yB : Addr) (kB : ClassId) (c0 c1 c2 c3 c4 c5 : Int32) {h0 : Heap} {n0 : Nat} (Z0 : n0 ≤ h0.size) (VB : Arv Z h0 yB kB .byte (16 : Int32) [(.int c0), (.int c1), (.int c2), (.int c3), (.int c4), (.int c5), o0, o0, o0, o0, o0, o0, o0, o0, o0, o0] (.int (0 : Int32))) : MF l Z own_y_344 jdk_65_method_133_code 5 (some (.array .byte)) ws (⟨1, 1, 6, 18⟩ : Room) #[(.ref yB), o0, (.int (6 : Int32))] h0 (QCb6 Z c0 c1 c2 c3 c4 c5 h0 n0) := by
  refine own_en (plainFor_of_name pn_332) (fun m => ef_345 m yB (0 : Int32) (6 : Int32)) fun p e s m below meth c s₁ bs hx hby hml hZ hown hnm X0 e0 hlk hrt pre0 => ?_
  have N0 := Fr.nil n0
  obtain ⟨_, T772, L772, X772, N772, ⟨_, rfl, -, e772⟩, st772⟩ := own_cS X0 hx hZ hown (own_k_349 hw) (rmCk6 hw  Z0 ) (W := 0) (k := 0) (n := 0) (by decide) e0 N0 (fun _ _ _ h => h.2.1) (Ls := (Y18 yB 0 6)) (rest := []) hml.symm (lenOf pd_59 rfl) (Nat.le_of_eq rfl) (hb hby d27_2)
  obtain ⟨T773, h773, k773, X773, e773, E773, A773, st773⟩ := newP X772 hx hZ (own_w hw 24 rfl) e772 (g := (mkF m 10 (Y19 yB 0 6 6) [(.int (6 : Int32))])) rfl (hb hby d27_10) rfl (by decide) (cap := 6) (by decide) (by decide) (by decide) (by decide)
  obtain ⟨b773, g773⟩ : ∃ z, z = h0.size := ⟨_, rfl⟩
  rw [← g773] at A773 st773
  have G773 : n0 ≤ b773 := Nat.le_trans Z0 (Nat.le_of_eq g773.symm)
  have sz773 : h0.size ≤ b773 := Nat.le_trans (Keep.refl h0 []).1 (Nat.le_of_eq g773.symm)
  have c775 := (Keep.refl h0 []).ext E773
  have c776 := VB.ext E773
  have z777 : n0 ≤ h773.size := Nat.le_trans Z0 E773.1
  have V773 : Arv Z h773 b773 k773 .byte (6 : Int32) [(.int (0 : Int32)), o0, o0, o0, o0, o0] (.int (0 : Int32)) := (Arv.new A773 (by decide)).pad (pad_rep [] (.int (0 : Int32)) 6)
  obtain ⟨cl778, A778, q778, S778, M778, H778, J778⟩ := id c776
  obtain ⟨_, T779, L779, X779, N779, ⟨_, rfl, -, e779⟩, st779⟩ := own_cS X773 hx hZ hown (own_k_367 hw) (rmMn6 hw  z777 ) (W := 4) (k := 1) (n := 6) (by decide) e773 N772 (fun _ _ _ h => h.2.1) (Ls := (Y20 yB 0 6 6 b773)) (rest := [(.int (0 : Int32)), (.ref b773), o0, (.ref yB)]) hml.symm (lenOf pd_368 rfl) (Nat.le_of_eq rfl) (hb hby d27_24)
  obtain ⟨T780, h780, L780, X780, e780, N780, K780, U780, st780⟩ := cpA X779 hx hZ hown (own_w hw 152 rfl) (own_w hw 107 rfl) (own_w hw 105 rfl) (own_w hw 106 rfl) e779 (us := [(.int c0), (.int c1), (.int c2), (.int c3), (.int c4), (.int c5)]) c776 V773 (Or.inl ⟨rfl, rfl⟩) (by decide) (by decide) (by decide) (by decide) (by decide) rfl (Nat.le_of_ble_eq_true rfl) N779 G773 (g := (mkF m 27 (Y20 yB 0 6 6 b773) [(.int (6 : Int32)), o0, (.ref b773), o0, (.ref yB)])) rfl (by rw [hml]; rfl) rfl (hb hby d27_27) (by decide) (W := 0) (by show 2 * 0 + _ ≤ _; exact Nat.le_of_eq rfl) (by decide)
  have V780 : Arv Z h780 b773 k773 .byte (6 : Int32) [(.int c0), (.int c1), (.int c2), (.int c3), (.int c4), (.int c5)] (.int (0 : Int32)) := U780
  have c782 := c775.trans K780 (allS (Or.inr sz773) all0)
  have pre785 : PQ p e below T780 (mkF m 32 (Y20 yB 0 6 6 b773) [(.ref b773)]) bs := fun t kt => pre0 t (by
    refine XS.iloadN X0.here hx rfl (hb hby d27_0) rfl ?_
    refine XS.iloadN X0.here hx rfl (hb hby d27_1) rfl ?_
    refine st772.trans ?_
    refine XS.iloadN X772.here hx rfl (hb hby d27_5) rfl ?_
    refine XS.iloadN X772.here hx rfl (hb hby d27_6) rfl ?_
    refine XS.isub X772.here hx rfl (hb hby d27_7) rfl ?_
    refine XS.istoreN X772.here hx rfl (hb hby d27_8) rfl (l' := (Y19 yB 0 6 6)) rfl ?_
    refine XS.iloadN X772.here hx rfl (hb hby d27_9) rfl ?_
    refine st773 _ ?_
    refine XS.astore X773.here hx rfl (hb hby d27_12) rfl rfl (l' := (Y20 yB 0 6 6 b773)) rfl ?_
    refine XS.aloadN X773.here hx rfl (hb hby d27_14) rfl rfl ?_
    refine XS.iloadN X773.here hx rfl (hb hby d27_15) rfl ?_
    refine XS.aload X773.here hx rfl (hb hby d27_16) rfl rfl ?_
    refine XS.iconst X773.here hx rfl (hb hby d27_18) ?_
    refine XS.aloadN X773.here hx rfl (hb hby d27_19) rfl rfl ?_
    refine X773.arraylength hx (by rw [e773]; exact A778.1) (State.isArrayOf_alike hZ.alike A778.2.1) (g := (mkF m 20 (Y20 yB 0 6 6 b773) [(.ref yB), o0, (.ref b773), o0, (.ref yB)])) rfl rfl (hb hby d27_20) _ ?_
    rw [len_of S778 M778]
    refine XS.iloadN X773.here hx rfl (hb hby d27_21) rfl ?_
    refine XS.isub X773.here hx rfl (hb hby d27_22) rfl ?_
    refine XS.iloadN X773.here hx rfl (hb hby d27_23) rfl ?_
    refine st779.trans ?_
    refine st780 _ ?_
    refine XS.aload X780.here hx rfl (hb hby d27_30) rfl rfl ?_
    exact kt)
  have hQ : QCb6 Z c0 c1 c2 c3 c4 c5 h0 n0 (some (.ref b773)) h780 _ := ⟨b773, k773, rfl, N780, c782, sz773, G773, V780⟩
  exact own_retA X780 hx hlk rfl hrt rfl (hb hby d27_32) pre785 (show QCb6 Z c0 c1 c2 c3 c4 c5 h0 n0 _ _ _ from (by rw [e780]; exact hQ)) (by decide) (by decide)
set_option maxRecDepth 65536 in
set_option maxHeartbeats 40000000 in
theorem rmCr6 {l : Launch} {Z : State} {a0 : Array Value} (hw : Hw a0 Z) {ws : List Jvm.Cond} (yB : Addr) (kB : ClassId) (c0 c1 c2 c3 c4 c5 : Int32) {h0 : Heap} {n0 : Nat} (Z0 : n0 ≤ h0.size) (VB : Arv Z h0 yB kB .byte (16 : Int32) [(.int c0), (.int c1), (.int c2), (.int c3), (.int c4), (.int c5), o0, o0, o0, o0, o0, o0, o0, o0, o0, o0] (.int (0 : Int32))) : MF l Z own_y_372 jdk_65_method_132_code 3 (some (.array .byte)) ws (⟨2, 1, 6, 34⟩ : Room) #[(.ref yB), o0, (.int (6 : Int32))] h0 (QCb6 Z c0 c1 c2 c3 c4 c5 h0 n0) := by
  refine own_en (plainFor_of_name pn_332) (fun m => ef_373 m yB (0 : Int32) (6 : Int32)) fun p e s m below meth c s₁ bs hx hby hml hZ hown hnm X0 e0 hlk hrt pre0 => ?_
  have N0 := Fr.nil n0
  obtain ⟨cl786, A786, q786, S786, M786, H786, J786⟩ := id VB
  obtain ⟨_, T787, L787, X787, N787, ⟨_, r787, kc787, rfl, -, K787, z787, G787, V787⟩, st787⟩ := own_cS X0 hx hZ hown (own_k_384 hw) (rmCb6 hw yB kB c0 c1 c2 c3 c4 c5 Z0 VB) (W := 0) (k := 1) (n := 6) (by decide) e0 N0 (fun _ _ _ ⟨_, _, _, h, _⟩ => h) (Ls := (Y13 yB 0 6)) (rest := []) hml.symm (lenOf pd_385 rfl) (Nat.le_of_eq rfl) (hb hby d26_13)
  have pre788 : PQ p e below T787 (mkF m 16 (Y13 yB 0 6) [(.ref r787)]) bs := fun t kt => pre0 t (by
    refine XS.iloadN X0.here hx rfl (hb hby d26_0) rfl ?_
    refine XS.ifNo X0.here hx rfl (hb hby d26_1) rfl ((if0 _ _).trans (teq (by decide : (0 : Int32) = (0 : Int32))).2) ?_
    refine XS.iloadN X0.here hx rfl (hb hby d26_4) rfl ?_
    refine XS.aloadN X0.here hx rfl (hb hby d26_5) rfl rfl ?_
    refine X0.arraylength hx (by rw [e0]; exact A786.1) (State.isArrayOf_alike hZ.alike A786.2.1) (g := (mkF m 6 (Y13 yB 0 6) [(.ref yB), (.int (6 : Int32))])) rfl rfl (hb hby d26_6) _ ?_
    rw [len_of S786 M786]
    refine XS.icmpNo X0.here hx rfl (hb hby d26_7) rfl (feq (by decide : ¬ ((6 : Int32) = (16 : Int32)))).1 ?_
    refine XS.aloadN X0.here hx rfl (hb hby d26_10) rfl rfl ?_
    refine XS.iloadN X0.here hx rfl (hb hby d26_11) rfl ?_
    refine XS.iloadN X0.here hx rfl (hb hby d26_12) rfl ?_
    refine st787.trans ?_
    exact kt)
  exact own_retA X787 hx hlk rfl hrt rfl (hb hby d26_16) pre788 (show QCb6 Z c0 c1 c2 c3 c4 c5 h0 n0 _ _ _ from ⟨r787, kc787, rfl, N787, K787, z787, G787, V787⟩) (by decide) (by decide)
def QTa6 (Z : State) (oS : Addr) (c0 c1 c2 c3 c4 c5 : Int32) (h0 : Heap) (n0 : Nat) (v : Option Value) (h : Heap) (L : List Loc) : Prop := ∃ (r : Addr) (k : ClassId), v = none ∧ Fr n0 L ∧ Keep h0 h [oS] ∧ Fa Z h oS (.int (0 : Int32)) ∧ Fb Z h oS (.ref r) ∧ Arv Z h r k .byte (6 : Int32) [(.int c0), (.int c1), (.int c2), (.int c3), (.int c4), (.int c5)] (.int (0 : Int32))
set_option maxRecDepth 65536 in
set_option maxHeartbeats 40000000 in
theorem rmTa6 {l : Launch} {Z : State} {a0 : Array Value} (hw : Hw a0 Z) {ws : List Jvm.Cond} (oS : Addr) (oB yB : Addr) (kB : ClassId) (c0 c1 c2 c3 c4 c5 : Int32) {h0 : Heap} {n0 : Nat} (Z0 : n0 ≤ h0.size) {cs : Int32} {fv : Value} (Ev : Ev0 Z n0 h0 cs fv) (ES : Exa Z h0 oS "java/lang/String") (FcS : Fa Z h0 oS (.int (0 : Int32))) (FvS : Fb Z h0 oS .null) (GS : n0 ≤ oS) (EB : Exa Z h0 oB "java/lang/StringBuilder") (FvB : Fc Z h0 oB (.ref yB)) (FcB : Fd Z h0 oB (.int (0 : Int32))) (FnB : Fe Z h0 oB (.int (6 : Int32))) (VB : Arv Z h0 yB kB .byte (16 : Int32) [(.int c0), (.int c1), (.int c2), (.int c3), (.int c4), (.int c5), o0, o0, o0, o0, o0, o0, o0, o0, o0, o0] (.int (0 : Int32))) (hn1 : oB ≠ oS) (hn2 : yB ≠ oS) : MF l Z own_y_387 jdk_42_method_150_code 5 none ws (⟨3, 1, 6, 49⟩ : Room) #[(.ref oS), (.ref oB), .null] h0 (QTa6 Z oS c0 c1 c2 c3 c4 c5 h0 n0) := by
  refine own_en (plainFor_of_name pn_2) (fun m => ef_388 m oS oB) fun p e s m below meth c s₁ bs hx hby hml hZ hown hnm X0 e0 hlk hrt pre0 => ?_
  have N0 := Fr.nil n0
  obtain ⟨T789, X789, e789, st789⟩ := initO X0 hx hZ hown (own_w hw 16 rfl) (own_w hw 17 rfl) (own_w hw 18 rfl) e0 (g := (mkF m 1 (Y21 oS oB) [(.ref oS)])) rfl (by rw [hml]; rfl) rfl (hb hby d21_1) (by decide) (W := 0) (by show 2 * 0 + _ ≤ _; exact Nat.le_of_eq rfl) (by decide)
  obtain ⟨_, T790, L790, X790, N790, ⟨_, rfl, -, e790⟩, st790⟩ := own_cV X789 hx hZ hown (own_k_393 hw) (rmGv hw oB yB Z0 FvB) (W := 0) (k := 0) (n := 0) (by decide) e789 N0 (fun _ _ _ h => h.2.1) EB (Ls := (Y21 oS oB)) (rest := []) hml.symm (lenOf pd_394 rfl) (Nat.le_of_eq rfl) (hb hby d21_5)
  obtain ⟨cq791, kq791, q791a, q791b, q791c⟩ := isOf hZ e790 EB
  obtain ⟨_, _, ⟨T791, L791, k791, n791⟩, -, X791, ⟨Lc791, hQ791, l791, y791, z791⟩, st791⟩ := X790.virtualBack hx (y := own_y_310) (z := own_y_315) hown (mvT hZ (own_w hw 125 rfl)) (mvT hZ (own_w hw 126 rfl)) (own_face (args := #[]) (y := ⟨"java/lang/AbstractStringBuilder", "getValue", "()[B"⟩) (mvT hZ (own_w hw 123 rfl)) rfl) (mvT hZ (own_w hw 128 rfl)) (mvT hZ (own_w hw 129 rfl)) (by decide) (backOf (W := 0) (rmBm hw oB (6 : Int32) Z0 EB FnB) hZ (own_w hw 130 rfl) (own_w hw 54 rfl) (by decide) (by decide)) q791a q791c (g := (mkF m 10 (Y22 oS oB yB) [(.ref oB)])) rfl (by rw [hml]; rfl) (Steps.refl _) (argsL := []) (rest := []) (lenOf pd_272 rfl) rfl (by show 2 * 0 + _ ≤ _; exact Nat.le_of_eq rfl) (hb hby d21_10) (fun _ _ => ⟨rfl, e790, (by decide : 0 + 0 ≤ _), (by decide : 0 + 0 ≤ _)⟩)
  dsimp only [Pt.U, Pt.locs, Pt.cells, Pt.slots] at X791 l791 y791 z791 st791 hQ791
  subst y791 z791
  obtain ⟨rfl, Nq791, e791⟩ := hQ791
  have N791 : Fr n0 L791 := by rw [l791]; exact Fr.app N790 Nq791
  replace X791 := own_more (k := 0) (n := 0) X791 (Nat.le_of_ble_eq_true rfl) (Nat.le_of_ble_eq_true rfl)
  obtain ⟨_, T792, L792, X792, N792, ⟨_, rfl, -, e792⟩, st792⟩ := own_cV X791 hx hZ hown (own_k_401 hw) (rmBt hw oB Z0 Ev FcB) (W := 0) (k := 0) (n := 0) (by decide) e791 N791 (fun _ _ _ h => h.2.1) EB (Ls := (Y23 oS oB yB 6)) (rest := []) hml.symm (lenOf pd_72 rfl) (Nat.le_of_eq rfl) (hb hby d21_16)
  obtain ⟨T793, h793, X793, e793, W793, st793⟩ := putFN X792 hx hZ hown (own_w hw 31 rfl) Via.refl e792 FcS ES (Or.inr ⟨(own_w hw 32 rfl), rfl, hnm⟩) (own_w hw 7 rfl) (ty := .byte) (v' := (.int (nar .byte (0 : Int32)))) (by decide) rfl (fits_nar_byte _) (g := (mkF m 24 (Y23 oS oB yB 6) [(.int (0 : Int32)), (.ref oS)])) rfl rfl (hb hby d21_24)
  have Fw793 := FcS.same W793
  have N793 := Fr.snoc X793 N792 GS
  have z794 : n0 ≤ h793.size := Nat.le_trans Z0 (Keep.of_wr W793).1
  have c795 := (Keep.refl h0 [oS]).wr W793 (Or.inl (List.mem_of_getElem? (i := 0) rfl))
  have c797 := ES.wr W793
  have c799 := FvS.other W793 (Or.inr (own_sn_158 hw))
  have c804 := VB.other W793 hn2
  obtain ⟨_, T805, L805, X805, N805, ⟨_, r805, kc805, rfl, -, K805, z805, G805, V805⟩, st805⟩ := own_cS X793 hx hZ hown (own_k_411 hw) (rmCr6 hw yB kB c0 c1 c2 c3 c4 c5 z794 c804) (W := 1) (k := 1) (n := 6) (by decide) e793 N793 (fun _ _ _ ⟨_, _, _, h, _⟩ => h) (Ls := (Y23 oS oB yB 6)) (rest := [(.ref oS)]) hml.symm (lenOf pd_385 rfl) (Nat.le_of_eq rfl) (hb hby d21_32)
  have ne806 : oS ≠ r805 := Nat.ne_of_lt (Nat.lt_of_lt_of_le c797.lt z805)
  have c810 := c795.trans K805 all0
  have c812 := c797.keep K805
  have c813 := c799.keep K805 nin0
  have c819 := Fw793.keep K805 nin0
  obtain ⟨T820, h820, X820, e820, W820, st820⟩ := putF X805 hx hZ hown (host := "") (Or.inl (own_w hw 33 rfl)) Via.refl rfl c813 c812 (Or.inr ⟨(own_w hw 34 rfl), rfl, hnm⟩) (own_w hw 7 rfl) (ty := (.array .byte)) (by decide) rfl rfl (g := (mkF m 35 (Y23 oS oB yB 6) [(.ref r805), (.ref oS)])) rfl rfl (hb hby d21_35)
  have Fw820 := c813.same W820
  have N820 := Fr.snoc X820 N805 GS
  have c822 := c810.wr W820 (Or.inl (List.mem_of_getElem? (i := 0) rfl))
  have c831 := c819.other W820 (Or.inr (own_sn_162 hw))
  have c832 := V805.other W820 (Ne.symm ne806)
  have pre833 : PQ p e below T820 (mkF m 97 (Y23 oS oB yB 6) []) bs := fun t kt => pre0 t (by
    refine XS.aloadN X0.here hx rfl (hb hby d21_0) rfl rfl ?_
    refine st789 _ ?_
    refine XS.aloadN X789.here hx rfl (hb hby d21_4) rfl rfl ?_
    refine st790.trans ?_
    refine XS.astoreN X790.here hx rfl (hb hby d21_8) rfl rfl (l' := (Y22 oS oB yB)) rfl ?_
    refine XS.aloadN X790.here hx rfl (hb hby d21_9) rfl rfl ?_
    refine st791.trans ?_
    refine XS.istore X791.here hx rfl (hb hby d21_13) rfl (l' := (Y23 oS oB yB 6)) rfl ?_
    refine XS.aloadN X791.here hx rfl (hb hby d21_15) rfl rfl ?_
    refine st792.trans ?_
    refine XS.ifNo X792.here hx rfl (hb hby d21_19) rfl ((if0 _ _).trans (feq (by decide : ¬ ((1 : Int32) = (0 : Int32)))).1) ?_
    refine XS.aloadN X792.here hx rfl (hb hby d21_22) rfl rfl ?_
    refine XS.iconst X792.here hx rfl (hb hby d21_23) ?_
    refine st793 _ ?_
    refine XS.aloadN X793.here hx rfl (hb hby d21_27) rfl rfl ?_
    refine XS.aloadN X793.here hx rfl (hb hby d21_28) rfl rfl ?_
    refine XS.iconst X793.here hx rfl (hb hby d21_29) ?_
    refine XS.iload X793.here hx rfl (hb hby d21_30) rfl ?_
    refine st805.trans ?_
    refine st820 _ ?_
    refine XS.goto X820.here hx rfl (pc0 := 38) (pc' := 97) rfl (hb hby d21_38) (by decide) (by decide) ?_
    exact kt)
  have hQ : QTa6 Z oS c0 c1 c2 c3 c4 c5 h0 n0 none h820 _ := ⟨r805, kc805, rfl, N820, c822, c831, Fw820, c832⟩
  exact own_retV X820 hx hlk hrt (hb hby d21_97) pre833 (show QTa6 Z oS c0 c1 c2 c3 c4 c5 h0 n0 _ _ _ from (by rw [e820]; exact hQ)) (by decide) (by decide)
set_option maxRecDepth 65536 in
set_option maxHeartbeats 40000000 in
theorem rmTb6 {l : Launch} {Z : State} {a0 : Array Value} (hw : Hw a0 Z) {ws : List Jvm.Cond} (oS : Addr) (oB yB : Addr) (kB : ClassId) (c0 c1 c2 c3 c4 c5 : Int32) {h0 : Heap} {n0 : Nat} (Z0 : n0 ≤ h0.size) {cs : Int32} {fv : Value} (Ev : Ev0 Z n0 h0 cs fv) (ES : Exa Z h0 oS "java/lang/String") (FcS : Fa Z h0 oS (.int (0 : Int32))) (FvS : Fb Z h0 oS .null) (GS : n0 ≤ oS) (EB : Exa Z h0 oB "java/lang/StringBuilder") (FvB : Fc Z h0 oB (.ref yB)) (FcB : Fd Z h0 oB (.int (0 : Int32))) (FnB : Fe Z h0 oB (.int (6 : Int32))) (VB : Arv Z h0 yB kB .byte (16 : Int32) [(.int c0), (.int c1), (.int c2), (.int c3), (.int c4), (.int c5), o0, o0, o0, o0, o0, o0, o0, o0, o0, o0] (.int (0 : Int32))) (hn1 : oB ≠ oS) (hn2 : yB ≠ oS) : MF l Z own_y_415 jdk_42_method_53_code 2 none ws (⟨4, 1, 6, 65⟩ : Room) #[(.ref oS), (.ref oB)] h0 (QTa6 Z oS c0 c1 c2 c3 c4 c5 h0 n0) := by
  refine own_en (plainFor_of_name pn_2) (fun m => ef_416 m oS oB) fun p e s m below meth c s₁ bs hx hby hml hZ hown hnm X0 e0 hlk hrt pre0 => ?_
  have N0 := Fr.nil n0
  obtain ⟨_, T834, L834, X834, N834, ⟨_, r834, kc834, rfl, -, K834, Fc834, Fv834, V834⟩, st834⟩ := own_cI X0 hx hZ hown (own_k_421 hw) (rmTa6 hw oS oB yB kB c0 c1 c2 c3 c4 c5 Z0 Ev ES FcS FvS GS EB FvB FcB FnB VB hn1 hn2) (W := 0) (k := 1) (n := 6) (by decide) e0 N0 (fun _ _ _ ⟨_, _, _, h, _⟩ => h) (Ls := (Y11 oS oB)) (rest := []) hml.symm (lenOf pd_422 rfl) (Nat.le_of_eq rfl) (hb hby d20_3)
  have pre835 : PQ p e below T834 (mkF m 6 (Y11 oS oB) []) bs := fun t kt => pre0 t (by
    refine XS.aloadN X0.here hx rfl (hb hby d20_0) rfl rfl ?_
    refine XS.aloadN X0.here hx rfl (hb hby d20_1) rfl rfl ?_
    refine XS.aconstNull X0.here hx rfl (hb hby d20_2) ?_
    refine st834.trans ?_
    exact kt)
  exact own_retV X834 hx hlk hrt (hb hby d20_6) pre835 (show QTa6 Z oS c0 c1 c2 c3 c4 c5 h0 n0 _ _ _ from ⟨r834, kc834, rfl, N834, K834, Fc834, Fv834, V834⟩) (by decide) (by decide)
def QTs6 (Z : State) (c0 c1 c2 c3 c4 c5 : Int32) (h0 : Heap) (n0 : Nat) (v : Option Value) (h : Heap) (L : List Loc) : Prop := ∃ (r y : Addr) (k : ClassId), v = some (.ref r) ∧ Fr n0 L ∧ Keep h0 h [] ∧ h0.size ≤ r ∧ n0 ≤ r ∧ Exa Z h r "java/lang/String" ∧ Fa Z h r (.int (0 : Int32)) ∧ Fb Z h r (.ref y) ∧ Arv Z h y k .byte (6 : Int32) [(.int c0), (.int c1), (.int c2), (.int c3), (.int c4), (.int c5)] (.int (0 : Int32))
set_option maxRecDepth 65536 in
set_option maxHeartbeats 40000000 in
theorem rmTs6 {l : Launch} {Z : State} {a0 : Array Value} (hw : Hw a0 Z) {ws : List Jvm.Cond} (oB yB : Addr) (kB : ClassId) (c0 c1 c2 c3 c4 c5 : Int32) {h0 : Heap} {n0 : Nat} (Z0 : n0 ≤ h0.size) {cs : Int32} {fv : Value} (Ev : Ev0 Z n0 h0 cs fv) (EB : Exa Z h0 oB "java/lang/StringBuilder") (FvB : Fc Z h0 oB (.ref yB)) (FcB : Fd Z h0 oB (.int (0 : Int32))) (FnB : Fe Z h0 oB (.int (6 : Int32))) (VB : Arv Z h0 yB kB .byte (16 : Int32) [(.int c0), (.int c1), (.int c2), (.int c3), (.int c4), (.int c5), o0, o0, o0, o0, o0, o0, o0, o0, o0, o0] (.int (0 : Int32))) : MF l Z own_y_424 jdk_67_method_42_code 1 (some (.object "java/lang/String")) ws (⟨5, 2, 10, 79⟩ : Room) #[(.ref oB)] h0 (QTs6 Z c0 c1 c2 c3 c4 c5 h0 n0) := by
  refine own_en (plainFor_of_name pn_198) (fun m => ef_425 m oB) fun p e s m below meth c s₁ bs hx hby hml hZ hown hnm X0 e0 hlk hrt pre0 => ?_
  have N0 := Fr.nil n0
  obtain ⟨T836, h836, X836, e836, E836, A836, D836, -, st836⟩ := newO X0 hx hZ hown (own_w hw 113 rfl) (own_w hw 7 rfl) (own_w hw 8 rfl) e0 (g := (mkF m 0 #[.val (.ref oB)] [])) rfl (hb hby d19_0) (by decide) (by decide)
  obtain ⟨b836, g836⟩ : ∃ z, z = h0.size := ⟨_, rfl⟩
  rw [← g836] at A836 D836 st836
  have G836 : n0 ≤ b836 := Nat.le_trans Z0 (Nat.le_of_eq g836.symm)
  have sz836 : h0.size ≤ b836 := Nat.le_trans (Keep.refl h0 []).1 (Nat.le_of_eq g836.symm)
  have ne837 : oB ≠ b836 := Nat.ne_of_lt (Nat.lt_of_lt_of_le EB.lt (Nat.le_of_eq g836.symm))
  have ne838 : yB ≠ b836 := Nat.ne_of_lt (Nat.lt_of_lt_of_le VB.lt (Nat.le_of_eq g836.symm))
  have c839 := (Keep.refl h0 []).ext E836
  have c840 := Ev.ext E836
  have c841 := EB.ext E836
  have c842 := FvB.ext E836
  have c843 := FcB.ext E836
  have c844 := FnB.ext E836
  have c845 := VB.ext E836
  have F846 : Fa Z h836 b836 (.int (0 : Int32)) := D836 (Or.inr (own_w hw 32 rfl)) (ty := .byte) (by decide)
  have F847 : Fb Z h836 b836 .null := D836 (Or.inr (own_w hw 34 rfl)) (ty := (.array .byte)) (by decide)
  have z848 : n0 ≤ h836.size := Nat.le_trans Z0 E836.1
  obtain ⟨_, T849, L849, X849, N849, ⟨_, r849, kc849, rfl, -, K849, Fc849, Fv849, V849⟩, st849⟩ := own_cI X836 hx hZ hown (own_k_430 hw) (rmTb6 hw b836 oB yB kB c0 c1 c2 c3 c4 c5 z848 c840 A836 F846 F847 G836 c841 c842 c843 c844 c845 ne837 ne838) (W := 1) (k := 2) (n := 10) (by decide) e836 N0 (fun _ _ _ ⟨_, _, _, h, _⟩ => h) (Ls := #[.val (.ref oB)]) (rest := [(.ref b836)]) hml.symm (lenOf pd_431 rfl) (Nat.le_of_eq rfl) (hb hby d19_5)
  have c851 := c839.trans K849 (allS (Or.inr sz836) all0)
  have c858 := A836.keep K849
  have pre861 : PQ p e below T849 (mkF m 8 #[.val (.ref oB)] [(.ref b836)]) bs := fun t kt => pre0 t (by
    refine st836 _ ?_
    refine XS.dup X836.here hx rfl (hb hby d19_3) rfl rfl ?_
    refine XS.aloadN X836.here hx rfl (hb hby d19_4) rfl rfl ?_
    refine st849.trans ?_
    exact kt)
  have hQ : QTs6 Z c0 c1 c2 c3 c4 c5 h0 n0 (some (.ref b836)) T849.heap _ := ⟨b836, r849, kc849, rfl, N849, c851, sz836, G836, c858, Fc849, Fv849, V849⟩
  exact own_retA X849 hx hlk rfl hrt rfl (hb hby d19_8) pre861 (show QTs6 Z c0 c1 c2 c3 c4 c5 h0 n0 _ _ _ from hQ) (by decide) (by decide)
def Ints (Z : State) (h : Heap) (a : Addr) (f : Int32 → Int32) : Prop := ∃ cl : Cell, Arr Z h a cl .int ∧ cl.slots.size = 128 ∧ ∀ j : Int32, ¬ j < 0 → j.toNatClampNeg < 128 → cl.slots[j.toNatClampNeg]? = some (.int (f j))
def Part (Z : State) (h : Heap) (a : Addr) (n : Nat) : Prop := ∃ cl : Cell, Arr Z h a cl .int ∧ cl.slots.size = 128 ∧ ∀ j : Nat, j < n → cl.slots[j]? = some (.int (-1 : Int32))
def own_st (f : Int32 → Int32) (j x : Int32) : Int32 → Int32 := fun i => if i = j then x else f i
theorem own_inj {i j : Int32} (h1 : ¬ i < 0) (h2 : ¬ j < 0) (h : i.toNatClampNeg = j.toNatClampNeg) : i = j := by
  rw [Int32.lt_iff_toInt_lt] at h1 h2
  have e0 : (0 : Int32).toInt = 0 := rfl
  have e1 : i.toNatClampNeg = i.toInt.toNat := rfl
  have e2 : j.toNatClampNeg = j.toInt.toNat := rfl
  rw [← Int32.toInt_inj]; omega
theorem own_part0 {Z : State} {h : Heap} {a : Addr} {k : ClassId} (V : Arv Z h a k .int (128 : Int32) [] (.int (0 : Int32))) : Part Z h a 0 := by
  obtain ⟨cl, A, -, S, -⟩ := V
  exact ⟨cl, A, S, fun j hj => absurd hj (Nat.not_lt_zero _)⟩
theorem own_part1 {Z : State} {h h' : Heap} {a : Addr} {cl : Cell} {i : Int32} {n : Nat} (Ar : Arr Z h a cl .int) (S : cl.slots.size = 128) (H : ∀ j : Nat, j < n → cl.slots[j]? = some (.int (-1 : Int32))) (W : Wr h h' a i.toNatClampNeg (.int (-1 : Int32))) (hi : i.toNatClampNeg = n) (hn : n < 128) : Part Z h' a (n + 1) := by
  refine ⟨_, Ar.same W, by simp [Cell.setSlot, S], fun j hj => ?_⟩
  simp only [Cell.setSlot, Array.getElem?_setIfInBounds, S, hi]
  by_cases q : n = j
  · rw [if_pos q, if_pos hn]
  · rw [if_neg q]; exact H j (by omega)
theorem own_part2 {Z : State} {h : Heap} {a : Addr} (P : Part Z h a 128) : Ints Z h a (fun _ => (-1 : Int32)) := by
  obtain ⟨cl, A, S, H⟩ := P
  exact ⟨cl, A, S, fun j _ hj => H _ hj⟩
theorem own_ints_set {Z : State} {h h' : Heap} {a : Addr} {cl : Cell} {f : Int32 → Int32} {j y : Int32} (Ar : Arr Z h a cl .int) (S : cl.slots.size = 128) (H : ∀ j : Int32, ¬ j < 0 → j.toNatClampNeg < 128 → cl.slots[j.toNatClampNeg]? = some (.int (f j))) (W : Wr h h' a j.toNatClampNeg (.int y)) (h0 : ¬ j < 0) (hj : j.toNatClampNeg < 128) : Ints Z h' a (own_st f j y) := by
  refine ⟨_, Ar.same W, by simp [Cell.setSlot, S], fun i h1 hi => ?_⟩
  simp only [Cell.setSlot, Array.getElem?_setIfInBounds, own_st, S]
  by_cases q : i = j
  · subst q; rw [if_pos rfl, if_pos hj, if_pos rfl]
  · rw [if_neg (fun z => q (own_inj h1 h0 z.symm)), if_neg q]; exact H i h1 hi
theorem Ints.other {Z : State} {h h' : Heap} {a b : Addr} {f : Int32 → Int32} {sl : Nat} {v : Value} (I : Ints Z h b f) (W : Wr h h' a sl v) (q : b ≠ a) : Ints Z h' b f := by
  obtain ⟨cl, A, r⟩ := I
  exact ⟨cl, A.other W q, r⟩
theorem own_inb {cl : Cell} {x : Int32} (S : cl.slots.size = 128) (h0 : ¬ (x < 0)) (h : x.toNatClampNeg < 128) : ¬ (x < 0 ∨ cl.slots.size ≤ x.toNatClampNeg) := fun q => q.elim h0 fun q => by rw [S] at q; exact absurd h (Nat.not_lt.mpr q)
theorem own_step {i : Int32} {n : Nat} (h0 : ¬ i < 0) (hi : i.toNatClampNeg = n) (hn : n < 128) : i < (128 : Int32) ∧ ¬ (i + (1 : Int32)) < 0 ∧ (i + (1 : Int32)).toNatClampNeg = n + 1 := by
  rw [Int32.lt_iff_toInt_lt] at h0
  have e0 : (0 : Int32).toInt = 0 := rfl
  have e1 : i.toNatClampNeg = i.toInt.toNat := rfl
  have e2 : (i + (1 : Int32)).toNatClampNeg = (i + (1 : Int32)).toInt.toNat := rfl
  have e3 : (1 : Int32).toInt = 1 := by decide
  have e4 : (128 : Int32).toInt = 128 := by decide
  have e5 : (i + (1 : Int32)).toInt = i.toInt + 1 := by rw [Jvm.Kit.i32_add (by omega) (by omega), e3]
  refine ⟨by rw [Int32.lt_iff_toInt_lt]; omega, by rw [Int32.lt_iff_toInt_lt]; omega, by omega⟩

abbrev own_y_433 : MethodName := (⟨"java/util/Arrays", "fill", "([II)V"⟩ : MethodName)
theorem ef_434 (m : MethodId) (x0 : Addr) (x1 : Int32) : entryFrame m #[(.ref x0), (.int x1)] 4 = mkF m 0 #[.val (.ref x0), .val (.int x1), .unset, .unset] [] := by first | (simp [entryFrame, mkF, argsToLocals, Value.category]; done) | rfl
theorem d30_0 : decode jdk_65_method_103_code 0 = .ok (.iconst 0, 1) := by decide +kernel
theorem d30_1 : decode jdk_65_method_103_code 1 = .ok (.istore_n 2, 1) := by decide +kernel
theorem d30_2 : decode jdk_65_method_103_code 2 = .ok (.aload_n 0, 1) := by decide +kernel
theorem d30_3 : decode jdk_65_method_103_code 3 = .ok (.arraylength, 1) := by decide +kernel
theorem d30_4 : decode jdk_65_method_103_code 4 = .ok (.istore_n 3, 1) := by decide +kernel
theorem d30_5 : decode jdk_65_method_103_code 5 = .ok (.iload_n 2, 1) := by decide +kernel
theorem d30_6 : decode jdk_65_method_103_code 6 = .ok (.iload_n 3, 1) := by decide +kernel
theorem d30_7 : decode jdk_65_method_103_code 7 = .ok (.if_icmp .ge 13, 3) := by decide +kernel
theorem d30_10 : decode jdk_65_method_103_code 10 = .ok (.aload_n 0, 1) := by decide +kernel
theorem d30_11 : decode jdk_65_method_103_code 11 = .ok (.iload_n 2, 1) := by decide +kernel
theorem d30_12 : decode jdk_65_method_103_code 12 = .ok (.iload_n 1, 1) := by decide +kernel
theorem d30_13 : decode jdk_65_method_103_code 13 = .ok (.iastore, 1) := by decide +kernel
theorem d30_14 : decode jdk_65_method_103_code 14 = .ok (.iinc 2 1, 3) := by decide +kernel
theorem d30_17 : decode jdk_65_method_103_code 17 = .ok (.goto (-12), 3) := by decide +kernel
theorem d30_20 : decode jdk_65_method_103_code 20 = .ok (.return_, 1) := by decide +kernel
def QFill (Z : State) (yI : Addr) (h0 : Heap) (n0 : Nat) (v : Option Value) (h : Heap) (L : List Loc) : Prop := v = none ∧ Fr n0 L ∧ Keep h0 h [yI] ∧ Ints Z h yI (fun _ => (-1 : Int32))
set_option maxRecDepth 65536 in
set_option maxHeartbeats 40000000 in
theorem rmFill {l : Launch} {Z : State} {a0 : Array Value} (hw : Hw a0 Z) {ws : List Jvm.Cond} (yI : Addr) {h0 : Heap} {n0 : Nat} (Z0 : n0 ≤ h0.size) (P0 : Part Z h0 yI 0) (GI : n0 ≤ yI) : MF l Z own_y_433 jdk_65_method_103_code 4 none ws (⟨0, 0, 0, 0⟩ : Room) #[(.ref yI), (.int (-1 : Int32))] h0 (QFill Z yI h0 n0) := by
  refine own_en (plainFor_of_name pn_332) (fun m => ef_434 m yI (-1 : Int32)) fun p e s m below meth c s₁ bs hx hby hml hZ hown hnm X0 e0 hlk hrt pre0 => ?_
  have N0 := Fr.nil n0
  obtain ⟨cl0, A0, S0, -⟩ := id P0
  have pre862 : PQ p e below s₁ (mkF m 5 (Y24 yI (-1) 0 128) []) bs := fun t kt => pre0 t (by
    refine XS.iconst X0.here hx rfl (hb hby d30_0) ?_
    refine XS.istoreN X0.here hx rfl (hb hby d30_1) rfl (l' := (Y25 yI (-1) 0)) rfl ?_
    refine XS.aloadN X0.here hx rfl (hb hby d30_2) rfl rfl ?_
    refine X0.arraylength hx (by rw [e0]; exact A0.1) (State.isArrayOf_alike hZ.alike A0.2.1) (g := (mkF m 3 (Y25 yI (-1) 0) [(.ref yI)])) rfl rfl (hb hby d30_3) _ ?_
    rw [len_of (show cl0.slots.size = (128 : Int32).toNatClampNeg from S0) (by decide : ¬ (128 : Int32) < 0)]
    refine XS.istoreN X0.here hx rfl (hb hby d30_4) rfl (l' := (Y24 yI (-1) 0 128)) rfl ?_
    exact kt)
  have key : ∀ (k n : Nat) (i : Int32), n + k = 128 → i.toNatClampNeg = n → ¬ i < 0 → ∀ (T : State) (h : Heap) (locs : List Loc), Stand p l e (⟨0, 0, 0, 0⟩ : Room) s m #[(.ref yI), (.int (-1 : Int32))] below meth c T locs 0 0 → T.heap = h → Fr n0 locs → Keep h0 h [yI] → Part Z h yI n → (PQ p e below T (mkF m 5 (Y24 yI (-1) i 128) []) bs) → ∃ (T' : State) (h' : Heap) (locs' : List Loc) (i : Int32), Stand p l e (⟨0, 0, 0, 0⟩ : Room) s m #[(.ref yI), (.int (-1 : Int32))] below meth c T' locs' 0 0 ∧ T'.heap = h' ∧ Fr n0 locs' ∧ Keep h0 h' [yI] ∧ Part Z h' yI 128 ∧ (PQ p e below T' (mkF m 20 (Y24 yI (-1) i 128) []) bs) := by
    intro k
    induction k with
    | zero =>
      intro n i hk hi hi0 T h locs X E N K P pre
      obtain rfl : n = 128 := by omega
      have hc : ¬ (i < (128 : Int32)) := fun q => by
        rw [Int32.lt_iff_toInt_lt] at q
        have e1 : i.toNatClampNeg = i.toInt.toNat := rfl
        have e4 : (128 : Int32).toInt = 128 := by decide
        omega
      have pre863 : PQ p e below T (mkF m 20 (Y24 yI (-1) i 128) []) bs := fun t kt => pre t (by
        refine XS.iloadN X.here hx rfl (hb hby d30_5) rfl ?_
        refine XS.iloadN X.here hx rfl (hb hby d30_6) rfl ?_
        refine XS.icmpYes X.here hx rfl (pc0 := 7) (pc' := 20) rfl (hb hby d30_7) rfl (flt hc).2.1 (by decide) (by decide) ?_
        exact kt)
      exact ⟨T, h, locs, i, X, E, N, K, P, pre863⟩
    | succ k ih =>
      intro n i hk hi hi0 T h locs X E N K P pre
      obtain ⟨hc, hc0, hc1⟩ := own_step hi0 hi (by omega)
      obtain ⟨cl864, Ar864, S864, H864⟩ := id P
      obtain ⟨T865, h865, X865, e865, W865, st865⟩ := stI X hx hZ E Ar864 (j := i) (own_inb S864 hi0 (by rw [hi]; omega)) (g := (mkF m 13 (Y24 yI (-1) i 128) [(.int (-1 : Int32)), (.int i), (.ref yI)])) rfl rfl (hb hby d30_13)
      have P865 := own_part1 Ar864 S864 H864 W865 hi (by omega)
      have N865 := Fr.snoc X865 N GI
      have c867 := K.wr W865 (Or.inl (List.mem_of_getElem? (i := 0) rfl))
      have pre868 : PQ p e below T865 (mkF m 5 (Y24 yI (-1) (i + (1 : Int32)) 128) []) bs := fun t kt => pre t (by
        refine XS.iloadN X.here hx rfl (hb hby d30_5) rfl ?_
        refine XS.iloadN X.here hx rfl (hb hby d30_6) rfl ?_
        refine XS.icmpNo X.here hx rfl (hb hby d30_7) rfl (tlt hc).2.1 ?_
        refine XS.aloadN X.here hx rfl (hb hby d30_10) rfl rfl ?_
        refine XS.iloadN X.here hx rfl (hb hby d30_11) rfl ?_
        refine XS.iloadN X.here hx rfl (hb hby d30_12) rfl ?_
        refine st865 _ ?_
        refine XS.iinc X865.here hx rfl (hb hby d30_14) rfl (l' := (Y24 yI (-1) (i + (1 : Int32)) 128)) rfl ?_
        refine XS.goto X865.here hx rfl (pc0 := 17) (pc' := 5) rfl (hb hby d30_17) (by decide) (by decide) ?_
        exact kt)
      exact ih (n + 1) (i + (1 : Int32)) (by omega) hc1 hc0 _ _ _ X865 e865 N865 c867 P865 pre868
  obtain ⟨T9, h9, L9, i9, X9, e9, N9, K9, P9, pre9⟩ := key 128 0 (0 : Int32) (by omega) (by decide) (by decide) _ _ _ X0 e0 N0 (Keep.refl h0 [yI]) P0 pre862
  have hQ : QFill Z yI h0 n0 none h9 _ := ⟨rfl, N9, K9, own_part2 P9⟩
  exact own_retV X9 hx hlk hrt (hb hby d30_20) pre9 (show QFill Z yI h0 n0 _ _ _ from (by rw [e9]; exact hQ)) (by decide) (by decide)
abbrev own_y_450 : MethodName := (⟨"com/example/digitwarden/digitwarden/model/Alphabet", "isSeparator", "(C)Z"⟩ : MethodName)
theorem ef_451 (m : MethodId) (x0 : Int32) : entryFrame m #[(.int x0)] 1 = mkF m 0 #[.val (.int x0)] [] := by first | (simp [entryFrame, mkF, argsToLocals, Value.category]; done) | rfl
theorem pn_452 : plainName "com/example/digitwarden/digitwarden/model/Alphabet" = true := by first | (simp [plainName, overriddenIn]; done) | decide +kernel
theorem d36_0 : decode prog_8_method_3_code 0 = .ok (.iload_n 0, 1) := by decide +kernel
theorem d36_1 : decode prog_8_method_3_code 1 = .ok (.bipush 32, 2) := by decide +kernel
theorem d36_3 : decode prog_8_method_3_code 3 = .ok (.if_icmp .eq 9, 3) := by decide +kernel
theorem d36_6 : decode prog_8_method_3_code 6 = .ok (.iload_n 0, 1) := by decide +kernel
theorem d36_7 : decode prog_8_method_3_code 7 = .ok (.bipush 45, 2) := by decide +kernel
theorem d36_9 : decode prog_8_method_3_code 9 = .ok (.if_icmp .ne 7, 3) := by decide +kernel
theorem d36_16 : decode prog_8_method_3_code 16 = .ok (.iconst 0, 1) := by decide +kernel
theorem d36_17 : decode prog_8_method_3_code 17 = .ok (.ireturn, 1) := by decide +kernel
set_option maxRecDepth 65536 in
set_option maxHeartbeats 40000000 in
theorem rmSep {l : Launch} {Z : State} {a0 : Array Value} (hw : Hw a0 Z) {ws : List Jvm.Cond} (ch : Int32) {h0 : Heap} {n0 : Nat} (Z0 : n0 ≤ h0.size) (hp : Pr ch) : MF l Z own_y_450 prog_8_method_3_code 1 (some .boolean) ws (⟨0, 0, 0, 0⟩ : Room) #[(.int ch)] h0 (QI (0 : Int32) h0 n0) := by
  refine own_en (plainFor_of_name pn_452) (fun m => ef_451 m ch) fun p e s m below meth c s₁ bs hx hby hml hZ hown hnm X0 e0 hlk hrt pre0 => ?_
  have N0 := Fr.nil n0
  have pre869 : PQ p e below s₁ (mkF m 17 #[.val (.int ch)] [(.int (0 : Int32))]) bs := fun t kt => pre0 t (by
    refine XS.iloadN X0.here hx rfl (hb hby d36_0) rfl ?_
    refine XS.bipush X0.here hx rfl (hb hby d36_1) ?_
    refine XS.icmpNo X0.here hx rfl (hb hby d36_3) rfl (feq hp.2.2.2.2.2.2.1).1 ?_
    refine XS.iloadN X0.here hx rfl (hb hby d36_6) rfl ?_
    refine XS.bipush X0.here hx rfl (hb hby d36_7) ?_
    refine XS.icmpYes X0.here hx rfl (pc0 := 9) (pc' := 16) rfl (hb hby d36_9) rfl (feq hp.2.2.2.2.2.2.2.1).2 (by decide) (by decide) ?_
    refine XS.iconst X0.here hx rfl (hb hby d36_16) ?_
    exact kt)
  exact own_retN X0 hx hlk (t := .boolean) hrt (by simp) (hb hby d36_17) pre869 (show QI (0 : Int32) h0 n0 _ _ _ from ⟨rfl, N0, e0⟩) (by decide) (by decide)
abbrev own_y_461 : MethodName := (⟨"com/example/digitwarden/digitwarden/model/Alphabet", "valueOf", "(C)I"⟩ : MethodName)
theorem ef_462 (m : MethodId) (x0 : Addr) (x1 : Int32) : entryFrame m #[(.ref x0), (.int x1)] 2 = mkF m 0 #[.val (.ref x0), .val (.int x1)] [] := by first | (simp [entryFrame, mkF, argsToLocals, Value.category]; done) | rfl
theorem d37_0 : decode prog_8_method_5_code 0 = .ok (.iload_n 1, 1) := by decide +kernel
theorem d37_1 : decode prog_8_method_5_code 1 = .ok (.sipush 128, 3) := by decide +kernel
theorem d37_4 : decode prog_8_method_5_code 4 = .ok (.if_icmp .ge 12, 3) := by decide +kernel
theorem d37_7 : decode prog_8_method_5_code 7 = .ok (.aload_n 0, 1) := by decide +kernel
theorem d37_8 : decode prog_8_method_5_code 8 = .ok (.getfield 81, 3) := by decide +kernel
theorem d37_11 : decode prog_8_method_5_code 11 = .ok (.iload_n 1, 1) := by decide +kernel
theorem d37_12 : decode prog_8_method_5_code 12 = .ok (.iaload, 1) := by decide +kernel
theorem d37_13 : decode prog_8_method_5_code 13 = .ok (.goto 4, 3) := by decide +kernel
theorem d37_17 : decode prog_8_method_5_code 17 = .ok (.ireturn, 1) := by decide +kernel
theorem d37_16 : decode prog_8_method_5_code 16 = .ok (.iconst (-1), 1) := by decide +kernel
set_option maxRecDepth 65536 in
set_option maxHeartbeats 40000000 in
theorem rmVo {l : Launch} {Z : State} {a0 : Array Value} (hw : Hw a0 Z) {ws : List Jvm.Cond} (oA yI : Addr) (q : Int32) (f : Int32 → Int32) {h0 : Heap} {n0 : Nat} (Z0 : n0 ≤ h0.size) (Fv : Ff Z h0 oA (.ref yI)) (I0 : Ints Z h0 yI f) (h0q : ¬ (q < 0)) : MF l Z own_y_461 prog_8_method_5_code 2 (some .int) ws (⟨0, 0, 0, 0⟩ : Room) #[(.ref oA), (.int q)] h0 (QI (if q < (128 : Int32) then f q else (-1 : Int32)) h0 n0) := by
  refine own_en (plainFor_of_name pn_452) (fun m => ef_462 m oA q) fun p e s m below meth c s₁ bs hx hby hml hZ hown hnm X0 e0 hlk hrt pre0 => ?_
  have N0 := Fr.nil n0
  have pre870 : PQ p e below s₁ (mkF m 4 (Y3 oA q) [(.int (128 : Int32)), (.int q)]) bs := fun t kt => pre0 t (by
    refine XS.iloadN X0.here hx rfl (hb hby d37_0) rfl ?_
    refine XS.sipush X0.here hx rfl (hb hby d37_1) ?_
    exact kt)
  by_cases hc871 : q < (128 : Int32)
  case pos =>
    obtain ⟨cl, Ar, S, H⟩ := id I0
    have lt : q.toNatClampNeg < 128 := by
      have z := hc871
      rw [Int32.lt_iff_toInt_lt] at z
      have e1 : q.toNatClampNeg = q.toInt.toNat := rfl
      have e4 : (128 : Int32).toInt = 128 := by decide
      omega
    have hin := own_inb S h0q lt
    have hat : cl.slots[(q).toNatClampNeg]? = some (.int (f q)) := H q h0q lt
    obtain ⟨T872, X872, e872, st872⟩ := getF X0 hx hZ hown (host := "") (Or.inl (own_w hw 184 rfl)) Via.refl e0 Fv (g := (mkF m 8 (Y3 oA q) [(.ref oA)])) rfl rfl (hb hby d37_8)
    have pre873 : PQ p e below T872 (mkF m 17 (Y3 oA q) [(.int (f q))]) bs := fun t kt => pre870 t (by
      refine XS.icmpNo X0.here hx rfl (hb hby d37_4) rfl (tlt hc871).2.1 ?_
      refine XS.aloadN X0.here hx rfl (hb hby d37_7) rfl rfl ?_
      refine st872 _ ?_
      refine XS.iloadN X872.here hx rfl (hb hby d37_11) rfl ?_
      refine X872.iaload hx (j := q) (v := (.int (f q))) (by rw [e872]; exact Ar.1) (State.isArrayOf_alike hZ.alike Ar.2.1) Ar.2.2 hin hat (g := (mkF m 12 (Y3 oA q) [(.int q), (.ref yI)])) rfl rfl (hb hby d37_12) _ ?_
      refine XS.goto X872.here hx rfl (pc0 := 13) (pc' := 17) rfl (hb hby d37_13) (by decide) (by decide) ?_
      exact kt)
    exact own_retI X872 hx hlk hrt (hb hby d37_17) pre873 (show QI (if q < (128 : Int32) then f q else (-1 : Int32)) h0 n0 _ _ _ from ⟨congrArg (fun z => some (Value.int z)) (if_pos hc871).symm, N0, e872⟩) (by decide) (by decide)
  case neg =>
    have pre874 : PQ p e below s₁ (mkF m 17 (Y3 oA q) [(.int (-1 : Int32))]) bs := fun t kt => pre870 t (by
      refine XS.icmpYes X0.here hx rfl (pc0 := 4) (pc' := 16) rfl (hb hby d37_4) rfl (flt hc871).2.1 (by decide) (by decide) ?_
      refine XS.iconst X0.here hx rfl (hb hby d37_16) ?_
      exact kt)
    exact own_retI X0 hx hlk hrt (hb hby d37_17) pre874 (show QI (if q < (128 : Int32) then f q else (-1 : Int32)) h0 n0 _ _ _ from ⟨congrArg (fun z => some (Value.int z)) (if_neg hc871).symm, N0, e0⟩) (by decide) (by decide)
def own_al (g : Int32 → Int32) (u x k : Int32) : Int32 → Int32 := fun i => if i = u ∧ ¬ u = x then k else g i
theorem own_al1 {g : Int32 → Int32} {u x k : Int32} (h : u = x) : g = own_al g u x k := by funext i; simp [own_al, h]
theorem own_al0 {g : Int32 → Int32} {u x k : Int32} (h : ¬ u = x) : own_st g u k = own_al g u x k := by funext i; simp [own_al, own_st, h]
abbrev own_sy (x0 x1 x2 : Int32) : Int32 → Int32 := own_st (own_st (own_st (fun _ => (-1 : Int32)) x0 (0 : Int32)) x1 (1 : Int32)) x2 (2 : Int32)

abbrev own_y_473 : MethodName := (⟨"com/example/digitwarden/digitwarden/model/Alphabet", "<init>", "(Ljava/lang/String;Ljava/lang/String;)V"⟩ : MethodName)
theorem ef_474 (m : MethodId) (x0 : Addr) (x1 : Addr) (x2 : Addr) : entryFrame m #[(.ref x0), (.ref x1), (.ref x2)] 7 = mkF m 0 #[.val (.ref x0), .val (.ref x1), .val (.ref x2), .unset, .unset, .unset, .unset] [] := by first | (simp [entryFrame, mkF, argsToLocals, Value.category]; done) | rfl
theorem d8_0 : decode prog_8_method_2_code 0 = .ok (.aload_n 0, 1) := by decide +kernel
theorem d8_1 : decode prog_8_method_2_code 1 = .ok (.invokespecial 9, 3) := by decide +kernel
theorem d8_4 : decode prog_8_method_2_code 4 = .ok (.aload_n 1, 1) := by decide +kernel
theorem d8_5 : decode prog_8_method_2_code 5 = .ok (.invokevirtual 14, 3) := by decide +kernel
theorem own_k_479 {Z : State} {a0 : Array Value} (hw : Hw a0 Z) : KV Z a0 "com/example/digitwarden/digitwarden/model/Alphabet" "java/lang/String" 14 own_y_19 jdk_42_method_54_code 1 (some .int) := ⟨(own_w hw 42 rfl), (own_w hw 43 rfl), (own_w hw 45 rfl), (own_w hw 44 rfl), (own_w hw 46 rfl), (own_w hw 8 rfl), by decide⟩
theorem d8_8 : decode prog_8_method_2_code 8 = .ok (.iconst 2, 1) := by decide +kernel
theorem d8_9 : decode prog_8_method_2_code 9 = .ok (.if_icmp .ge 35, 3) := by decide +kernel
theorem d8_44 : decode prog_8_method_2_code 44 = .ok (.aload_n 2, 1) := by decide +kernel
theorem d8_45 : decode prog_8_method_2_code 45 = .ok (.invokevirtual 14, 3) := by decide +kernel
theorem d8_48 : decode prog_8_method_2_code 48 = .ok (.aload_n 1, 1) := by decide +kernel
theorem d8_49 : decode prog_8_method_2_code 49 = .ok (.invokevirtual 14, 3) := by decide +kernel
theorem d8_52 : decode prog_8_method_2_code 52 = .ok (.if_icmp .le 44, 3) := by decide +kernel
theorem d8_96 : decode prog_8_method_2_code 96 = .ok (.new 22, 3) := by decide +kernel
theorem d8_99 : decode prog_8_method_2_code 99 = .ok (.dup, 1) := by decide +kernel
theorem d8_100 : decode prog_8_method_2_code 100 = .ok (.invokespecial 24, 3) := by decide +kernel
theorem own_k_490 {Z : State} {a0 : Array Value} (hw : Hw a0 Z) : KI Z a0 "com/example/digitwarden/digitwarden/model/Alphabet" 24 own_y_196 jdk_67_method_1_code 1 none := ⟨(own_w hw 55 rfl), (own_w hw 56 rfl), (own_w hw 57 rfl), (own_w hw 54 rfl), rfl, rfl, by decide⟩
theorem pd_491 : parseMethodDescriptor "()V" = some ⟨[], none⟩ := by decide +kernel
theorem d8_103 : decode prog_8_method_2_code 103 = .ok (.aload_n 1, 1) := by decide +kernel
theorem d8_104 : decode prog_8_method_2_code 104 = .ok (.invokevirtual 27, 3) := by decide +kernel
theorem own_k_494 {Z : State} {a0 : Array Value} (hw : Hw a0 Z) : KV Z a0 "com/example/digitwarden/digitwarden/model/Alphabet" "java/lang/StringBuilder" 27 own_y_296 jdk_67_method_7_code 2 (some (.object "java/lang/StringBuilder")) := ⟨(own_w hw 70 rfl), (own_w hw 71 rfl), (own_w hw 73 rfl), (own_w hw 72 rfl), (own_w hw 74 rfl), (own_w hw 54 rfl), by decide⟩
theorem pd_495 : parseMethodDescriptor "(Ljava/lang/String;)Ljava/lang/StringBuilder;" = some ⟨[(.object "java/lang/String")], some (.object "java/lang/StringBuilder")⟩ := by decide +kernel
theorem d8_107 : decode prog_8_method_2_code 107 = .ok (.aload_n 2, 1) := by decide +kernel
theorem d8_108 : decode prog_8_method_2_code 108 = .ok (.invokevirtual 27, 3) := by decide +kernel
theorem d8_111 : decode prog_8_method_2_code 111 = .ok (.invokevirtual 33, 3) := by decide +kernel
theorem own_k_499 {Z : State} {a0 : Array Value} (hw : Hw a0 Z) : KV Z a0 "com/example/digitwarden/digitwarden/model/Alphabet" "java/lang/StringBuilder" 33 own_y_424 jdk_67_method_42_code 1 (some (.object "java/lang/String")) := ⟨(own_w hw 108 rfl), (own_w hw 109 rfl), (own_w hw 111 rfl), (own_w hw 110 rfl), (own_w hw 112 rfl), (own_w hw 54 rfl), by decide⟩
theorem pd_500 : parseMethodDescriptor "()Ljava/lang/String;" = some ⟨[], some (.object "java/lang/String")⟩ := by decide +kernel
theorem d8_114 : decode prog_8_method_2_code 114 = .ok (.astore_n 3, 1) := by decide +kernel
theorem d8_115 : decode prog_8_method_2_code 115 = .ok (.sipush 128, 3) := by decide +kernel
theorem d8_118 : decode prog_8_method_2_code 118 = .ok (.newarray .int, 2) := by decide +kernel
theorem d8_120 : decode prog_8_method_2_code 120 = .ok (.astore 4, 2) := by decide +kernel
theorem d8_122 : decode prog_8_method_2_code 122 = .ok (.aload 4, 2) := by decide +kernel
theorem d8_124 : decode prog_8_method_2_code 124 = .ok (.iconst (-1), 1) := by decide +kernel
theorem d8_125 : decode prog_8_method_2_code 125 = .ok (.invokestatic 44, 3) := by decide +kernel
theorem own_k_508 {Z : State} {a0 : Array Value} (hw : Hw a0 Z) : KS Z a0 "com/example/digitwarden/digitwarden/model/Alphabet" 44 own_y_433 jdk_65_method_103_code 4 none := ⟨(own_w hw 154 rfl), (own_w hw 155 rfl), (own_w hw 156 rfl), (own_w hw 140 rfl), by decide⟩
theorem pd_509 : parseMethodDescriptor "([II)V" = some ⟨[(.array .int), .int], none⟩ := by decide +kernel
theorem d8_128 : decode prog_8_method_2_code 128 = .ok (.iconst 0, 1) := by decide +kernel
theorem d8_129 : decode prog_8_method_2_code 129 = .ok (.istore 5, 2) := by decide +kernel
theorem d8_131 : decode prog_8_method_2_code 131 = .ok (.iload 5, 2) := by decide +kernel
theorem d8_133 : decode prog_8_method_2_code 133 = .ok (.aload_n 3, 1) := by decide +kernel
theorem d8_134 : decode prog_8_method_2_code 134 = .ok (.invokevirtual 14, 3) := by decide +kernel
theorem d8_137 : decode prog_8_method_2_code 137 = .ok (.if_icmp .ge 155, 3) := by decide +kernel
theorem d8_140 : decode prog_8_method_2_code 140 = .ok (.aload_n 3, 1) := by decide +kernel
theorem d8_141 : decode prog_8_method_2_code 141 = .ok (.iload 5, 2) := by decide +kernel
theorem d8_143 : decode prog_8_method_2_code 143 = .ok (.invokevirtual 50, 3) := by decide +kernel
theorem own_k_519 {Z : State} {a0 : Array Value} (hw : Hw a0 Z) : KV Z a0 "com/example/digitwarden/digitwarden/model/Alphabet" "java/lang/String" 50 own_y_67 jdk_42_method_56_code 2 (some .char) := ⟨(own_w hw 157 rfl), (own_w hw 158 rfl), (own_w hw 160 rfl), (own_w hw 159 rfl), (own_w hw 161 rfl), (own_w hw 8 rfl), by decide⟩
theorem pd_520 : parseMethodDescriptor "(I)C" = some ⟨[.int], some .char⟩ := by decide +kernel
theorem d8_146 : decode prog_8_method_2_code 146 = .ok (.istore 6, 2) := by decide +kernel
theorem d8_148 : decode prog_8_method_2_code 148 = .ok (.iload 5, 2) := by decide +kernel
theorem d8_150 : decode prog_8_method_2_code 150 = .ok (.aload_n 1, 1) := by decide +kernel
theorem d8_151 : decode prog_8_method_2_code 151 = .ok (.invokevirtual 14, 3) := by decide +kernel
theorem d8_154 : decode prog_8_method_2_code 154 = .ok (.if_icmp .lt 22, 3) := by decide +kernel
theorem d8_176 : decode prog_8_method_2_code 176 = .ok (.iload 6, 2) := by decide +kernel
theorem d8_178 : decode prog_8_method_2_code 178 = .ok (.bipush 32, 2) := by decide +kernel
theorem d8_180 : decode prog_8_method_2_code 180 = .ok (.if_icmp .lt 18, 3) := by decide +kernel
theorem d8_183 : decode prog_8_method_2_code 183 = .ok (.iload 6, 2) := by decide +kernel
theorem d8_185 : decode prog_8_method_2_code 185 = .ok (.bipush 126, 2) := by decide +kernel
theorem d8_187 : decode prog_8_method_2_code 187 = .ok (.if_icmp .gt 11, 3) := by decide +kernel
theorem d8_190 : decode prog_8_method_2_code 190 = .ok (.iload 6, 2) := by decide +kernel
theorem d8_192 : decode prog_8_method_2_code 192 = .ok (.invokestatic 54, 3) := by decide +kernel
theorem own_k_534 {Z : State} {a0 : Array Value} (hw : Hw a0 Z) : KS Z a0 "com/example/digitwarden/digitwarden/model/Alphabet" 54 own_y_450 prog_8_method_3_code 1 (some .boolean) := ⟨(own_w hw 179 rfl), (own_w hw 180 rfl), (own_w hw 181 rfl), (own_w hw 37 rfl), by decide⟩
theorem pd_535 : parseMethodDescriptor "(C)Z" = some ⟨[.char], some .boolean⟩ := by decide +kernel
theorem d8_195 : decode prog_8_method_2_code 195 = .ok (.ifCond .eq 28, 3) := by decide +kernel
theorem d8_223 : decode prog_8_method_2_code 223 = .ok (.aload 4, 2) := by decide +kernel
theorem d8_225 : decode prog_8_method_2_code 225 = .ok (.iload 6, 2) := by decide +kernel
theorem d8_227 : decode prog_8_method_2_code 227 = .ok (.iaload, 1) := by decide +kernel
theorem d8_228 : decode prog_8_method_2_code 228 = .ok (.iconst (-1), 1) := by decide +kernel
theorem d8_229 : decode prog_8_method_2_code 229 = .ok (.if_icmp .eq 45, 3) := by decide +kernel
theorem d8_274 : decode prog_8_method_2_code 274 = .ok (.aload 4, 2) := by decide +kernel
theorem d8_276 : decode prog_8_method_2_code 276 = .ok (.iload 6, 2) := by decide +kernel
theorem d8_278 : decode prog_8_method_2_code 278 = .ok (.iload 5, 2) := by decide +kernel
theorem d8_280 : decode prog_8_method_2_code 280 = .ok (.aload_n 1, 1) := by decide +kernel
theorem d8_281 : decode prog_8_method_2_code 281 = .ok (.invokevirtual 14, 3) := by decide +kernel
theorem d8_284 : decode prog_8_method_2_code 284 = .ok (.irem, 1) := by decide +kernel
theorem d8_285 : decode prog_8_method_2_code 285 = .ok (.iastore, 1) := by decide +kernel
theorem d8_286 : decode prog_8_method_2_code 286 = .ok (.iinc 5 1, 3) := by decide +kernel
theorem d8_289 : decode prog_8_method_2_code 289 = .ok (.goto (-158), 3) := by decide +kernel
theorem d8_292 : decode prog_8_method_2_code 292 = .ok (.aload_n 0, 1) := by decide +kernel
theorem d8_293 : decode prog_8_method_2_code 293 = .ok (.aload_n 1, 1) := by decide +kernel
theorem d8_294 : decode prog_8_method_2_code 294 = .ok (.putfield 77, 3) := by decide +kernel
theorem own_sn_554 {Z : State} {a0 : Array Value} (hw : ∀ d ∈ tables_1, d.before a0 Z = true) : Jvm.RoadKit.slotOf Z "com/example/digitwarden/digitwarden/model/Alphabet" "_values" "[I" ≠ Jvm.RoadKit.slotOf Z "com/example/digitwarden/digitwarden/model/Alphabet" "_symbols" "Ljava/lang/String;" := slot_ne (C := "com/example/digitwarden/digitwarden/model/Alphabet") (Or.inr (own_w hw 185 rfl)) (Or.inr (own_w hw 183 rfl)) (by decide) (t := (.array .int)) (t' := (.object "java/lang/String")) (by decide) (by decide)
theorem d8_297 : decode prog_8_method_2_code 297 = .ok (.aload_n 0, 1) := by decide +kernel
theorem d8_298 : decode prog_8_method_2_code 298 = .ok (.aload 4, 2) := by decide +kernel
theorem d8_300 : decode prog_8_method_2_code 300 = .ok (.putfield 81, 3) := by decide +kernel
theorem own_sn_558 {Z : State} {a0 : Array Value} (hw : ∀ d ∈ tables_1, d.before a0 Z = true) : Jvm.RoadKit.slotOf Z "com/example/digitwarden/digitwarden/model/Alphabet" "_symbols" "Ljava/lang/String;" ≠ Jvm.RoadKit.slotOf Z "com/example/digitwarden/digitwarden/model/Alphabet" "_values" "[I" := slot_ne (C := "com/example/digitwarden/digitwarden/model/Alphabet") (Or.inr (own_w hw 183 rfl)) (Or.inr (own_w hw 185 rfl)) (by decide) (t := (.object "java/lang/String")) (t' := (.array .int)) (by decide) (by decide)
theorem d8_303 : decode prog_8_method_2_code 303 = .ok (.return_, 1) := by decide +kernel
def QAl0 (Z : State) (oA : Addr) (x0 x1 x2 : Int32) (h0 : Heap) (n0 : Nat) (v : Option Value) (h : Heap) (L : List Loc) : Prop := ∃ (r : Addr), v = none ∧ Fr n0 L ∧ Keep h0 h [oA] ∧ Ff Z h oA (.ref r) ∧ Ints Z h r (own_sy x0 x1 x2)
set_option maxRecDepth 65536 in
set_option maxHeartbeats 40000000 in
theorem rmAl0 {l : Launch} {Z : State} {a0 : Array Value} (hw : Hw a0 Z) {ws : List Jvm.Cond} (oA : Addr) (oS yS : Addr) (kS : ClassId) (oR yR : Addr) (kR : ClassId) (x0 x1 x2 : Int32) {h0 : Heap} {n0 : Nat} (Z0 : n0 ≤ h0.size) {cs : Int32} {fv : Value} (Ev : Ev0 Z n0 h0 cs fv) (EA : Exa Z h0 oA "com/example/digitwarden/digitwarden/model/Alphabet") (FsA : Fg Z h0 oA .null) (FvA : Ff Z h0 oA .null) (GA : n0 ≤ oA) (ES : Exa Z h0 oS "java/lang/String") (FcS : Fa Z h0 oS (.int (0 : Int32))) (FvS : Fb Z h0 oS (.ref yS)) (VS : Arv Z h0 yS kS .byte (3 : Int32) [(.int x0), (.int x1), (.int x2)] (.int (0 : Int32))) (ER : Exa Z h0 oR "java/lang/String") (FcR : Fa Z h0 oR (.int (0 : Int32))) (FvR : Fb Z h0 oR (.ref yR)) (VR : Arv Z h0 yR kR .byte (0 : Int32) [] (.int (0 : Int32))) (hpx0 : Pr x0) (hpx1 : Pr x1) (hpx2 : Pr x2) (hx01 : ¬ x1 = x0) (hx02 : ¬ x2 = x0) (hx12 : ¬ x2 = x1) (hn1 : oS ≠ oA) (hn2 : yS ≠ oA) (hn3 : oR ≠ oA) (hn4 : yR ≠ oA) : MF l Z own_y_473 prog_8_method_2_code 7 none ws (⟨6, 5, 155, 91⟩ : Room) #[(.ref oA), (.ref oS), (.ref oR)] h0 (QAl0 Z oA x0 x1 x2 h0 n0) := by
  refine own_en (plainFor_of_name pn_452) (fun m => ef_474 m oA oS oR) fun p e s m below meth c s₁ bs hx hby hml hZ hown hnm X0 e0 hlk hrt pre0 => ?_
  have N0 := Fr.nil n0
  obtain ⟨T875, X875, e875, st875⟩ := initO X0 hx hZ hown (own_w hw 41 rfl) (own_w hw 17 rfl) (own_w hw 18 rfl) e0 (g := (mkF m 1 (Y26 oA oS oR) [(.ref oA)])) rfl (by rw [hml]; rfl) rfl (hb hby d8_1) (by decide) (W := 0) (by show 2 * 0 + _ ≤ _; exact Nat.le_of_eq rfl) (by decide)
  obtain ⟨_, T876, L876, X876, N876, ⟨_, rfl, -, e876⟩, st876⟩ := own_cV X875 hx hZ hown (own_k_479 hw) (rmLen3 hw oS yS kS x0 x1 x2 Z0 Ev ES FcS FvS VS) (W := 0) (k := 0) (n := 0) (by decide) e875 N0 (fun _ _ _ h => h.2.1) ES (Ls := (Y26 oA oS oR)) (rest := []) hml.symm (lenOf pd_272 rfl) (Nat.le_of_eq rfl) (hb hby d8_5)
  obtain ⟨_, T877, L877, X877, N877, ⟨_, rfl, -, e877⟩, st877⟩ := own_cV X876 hx hZ hown (own_k_479 hw) (rmLen0 hw oR yR kR  Z0 Ev ER FcR FvR VR) (W := 0) (k := 0) (n := 0) (by decide) e876 N876 (fun _ _ _ h => h.2.1) ER (Ls := (Y26 oA oS oR)) (rest := []) hml.symm (lenOf pd_272 rfl) (Nat.le_of_eq rfl) (hb hby d8_45)
  obtain ⟨_, T878, L878, X878, N878, ⟨_, rfl, -, e878⟩, st878⟩ := own_cV X877 hx hZ hown (own_k_479 hw) (rmLen3 hw oS yS kS x0 x1 x2 Z0 Ev ES FcS FvS VS) (W := 1) (k := 0) (n := 0) (by decide) e877 N877 (fun _ _ _ h => h.2.1) ES (Ls := (Y26 oA oS oR)) (rest := [(.int (0 : Int32))]) hml.symm (lenOf pd_272 rfl) (Nat.le_of_eq rfl) (hb hby d8_49)
  obtain ⟨T879, h879, X879, e879, E879, A879, D879, -, st879⟩ := newO X878 hx hZ hown (own_w hw 52 rfl) (own_w hw 53 rfl) (own_w hw 54 rfl) e878 (g := (mkF m 96 (Y26 oA oS oR) [])) rfl (hb hby d8_96) (by decide) (by decide)
  obtain ⟨b879, g879⟩ : ∃ z, z = h0.size := ⟨_, rfl⟩
  rw [← g879] at A879 D879 st879
  have G879 : n0 ≤ b879 := Nat.le_trans Z0 (Nat.le_of_eq g879.symm)
  have sz879 : h0.size ≤ b879 := Nat.le_trans (Keep.refl h0 [oA]).1 (Nat.le_of_eq g879.symm)
  have ne880 : oS ≠ b879 := Nat.ne_of_lt (Nat.lt_of_lt_of_le ES.lt (Nat.le_of_eq g879.symm))
  have ne881 : yS ≠ b879 := Nat.ne_of_lt (Nat.lt_of_lt_of_le VS.lt (Nat.le_of_eq g879.symm))
  have ne882 : oR ≠ b879 := Nat.ne_of_lt (Nat.lt_of_lt_of_le ER.lt (Nat.le_of_eq g879.symm))
  have ne883 : yR ≠ b879 := Nat.ne_of_lt (Nat.lt_of_lt_of_le VR.lt (Nat.le_of_eq g879.symm))
  have ne884 : oA ≠ b879 := Nat.ne_of_lt (Nat.lt_of_lt_of_le EA.lt (Nat.le_of_eq g879.symm))
  have c885 := (Keep.refl h0 [oA]).ext E879
  have c886 := Ev.ext E879
  have c887 := ES.ext E879
  have c888 := FcS.ext E879
  have c889 := FvS.ext E879
  have c890 := VS.ext E879
  have c891 := ER.ext E879
  have c892 := FcR.ext E879
  have c893 := FvR.ext E879
  have c894 := VR.ext E879
  have c895 := EA.ext E879
  have c896 := FsA.ext E879
  have c897 := FvA.ext E879
  have F898 : Fc Z h879 b879 .null := D879 (Or.inl (own_w hw 67 rfl)) (ty := (.array .byte)) (by decide)
  have F899 : Fd Z h879 b879 (.int (0 : Int32)) := D879 (Or.inl (own_w hw 69 rfl)) (ty := .byte) (by decide)
  have F900 : Fe Z h879 b879 (.int (0 : Int32)) := D879 (Or.inl (own_w hw 82 rfl)) (ty := .int) (by decide)
  have z901 : n0 ≤ h879.size := Nat.le_trans Z0 E879.1
  obtain ⟨_, T902, L902, X902, N902, ⟨_, r902, kc902, rfl, -, K902, z902, G902, Fv902, Fc902, Fn902, V902⟩, st902⟩ := own_cI X879 hx hZ hown (own_k_490 hw) (rmBj hw b879 z901 c886 A879 F898 F899 F900 G879) (W := 1) (k := 2) (n := 20) (by decide) e879 N878 (fun _ _ _ ⟨_, _, _, h, _⟩ => h) (Ls := (Y26 oA oS oR)) (rest := [(.ref b879)]) hml.symm (lenOf pd_491 rfl) (Nat.le_of_eq rfl) (hb hby d8_100)
  have szr902_z902 : h0.size ≤ r902 := Nat.le_trans c885.1 z902
  have ne903 : oS ≠ r902 := Nat.ne_of_lt (Nat.lt_of_lt_of_le c887.lt z902)
  have ne904 : yS ≠ r902 := Nat.ne_of_lt (Nat.lt_of_lt_of_le c890.lt z902)
  have ne905 : oR ≠ r902 := Nat.ne_of_lt (Nat.lt_of_lt_of_le c891.lt z902)
  have ne906 : yR ≠ r902 := Nat.ne_of_lt (Nat.lt_of_lt_of_le c894.lt z902)
  have ne907 : oA ≠ r902 := Nat.ne_of_lt (Nat.lt_of_lt_of_le c895.lt z902)
  have ne908 : b879 ≠ r902 := Nat.ne_of_lt (Nat.lt_of_lt_of_le A879.lt z902)
  have z909 : n0 ≤ T902.heap.size := Nat.le_trans z901 K902.1
  have c910 := c885.trans K902 (allS (Or.inr sz879) all0)
  have c911 := c886.keep K902 (allS G879 all0)
  have c912 := c887.keep K902
  have c913 := c888.keep K902 (ninS ne880 nin0)
  have c914 := c889.keep K902 (ninS ne880 nin0)
  have c915 := c890.keep K902 (ninS ne881 nin0)
  have c916 := c891.keep K902
  have c917 := c892.keep K902 (ninS ne882 nin0)
  have c918 := c893.keep K902 (ninS ne882 nin0)
  have c919 := c894.keep K902 (ninS ne883 nin0)
  have c920 := c895.keep K902
  have c921 := c896.keep K902 (ninS ne884 nin0)
  have c922 := c897.keep K902 (ninS ne884 nin0)
  have c923 := A879.keep K902
  obtain ⟨_, T927, L927, X927, N927, ⟨_, rfl, -, K927, Fv927, Fc927, Fn927, V927⟩, st927⟩ := own_cV X902 hx hZ hown (own_k_494 hw) (rmAq03 hw b879 r902 kc902 oS yS kS x0 x1 x2 z909 c911 c923 Fv902 Fc902 Fn902 V902 c912 c913 c914 c915 G879 G902 (Ne.symm ne908)) (W := 0) (k := 2) (n := 20) (by decide) rfl N902 (fun _ _ _ h => h.2.1) c923 (Ls := (Y26 oA oS oR)) (rest := []) hml.symm (lenOf pd_495 rfl) (Nat.le_of_eq rfl) (hb hby d8_104)
  have z928 : n0 ≤ T927.heap.size := Nat.le_trans z909 K927.1
  have c929 := c910.trans K927 (allS (Or.inr sz879) (allS (Or.inr szr902_z902) all0))
  have c930 := c911.keep K927 (allS G879 (allS G902 all0))
  have c931 := c912.keep K927
  have c932 := c913.keep K927 (ninS ne880 (ninS ne903 nin0))
  have c933 := c914.keep K927 (ninS ne880 (ninS ne903 nin0))
  have c934 := c915.keep K927 (ninS ne881 (ninS ne904 nin0))
  have c935 := c916.keep K927
  have c936 := c917.keep K927 (ninS ne882 (ninS ne905 nin0))
  have c937 := c918.keep K927 (ninS ne882 (ninS ne905 nin0))
  have c938 := c919.keep K927 (ninS ne883 (ninS ne906 nin0))
  have c939 := c920.keep K927
  have c940 := c921.keep K927 (ninS ne884 (ninS ne907 nin0))
  have c941 := c922.keep K927 (ninS ne884 (ninS ne907 nin0))
  have c942 := c923.keep K927
  obtain ⟨_, T947, L947, X947, N947, ⟨_, rfl, -, K947, Fv947, Fc947, Fn947, V947⟩, st947⟩ := own_cV X927 hx hZ hown (own_k_494 hw) (rmAq30 hw b879 r902 kc902 oR yR kR x0 x1 x2 z928 c930 c942 Fv927 Fc927 Fn927 V927 c935 c936 c937 c938 G879 G902 (Ne.symm ne908)) (W := 0) (k := 2) (n := 20) (by decide) rfl N927 (fun _ _ _ h => h.2.1) c942 (Ls := (Y26 oA oS oR)) (rest := []) hml.symm (lenOf pd_495 rfl) (Nat.le_of_eq rfl) (hb hby d8_108)
  have z948 : n0 ≤ T947.heap.size := Nat.le_trans z928 K947.1
  have c949 := c929.trans K947 (allS (Or.inr sz879) (allS (Or.inr szr902_z902) all0))
  have c950 := c930.keep K947 (allS G879 (allS G902 all0))
  have c951 := c931.keep K947
  have c952 := c932.keep K947 (ninS ne880 (ninS ne903 nin0))
  have c953 := c933.keep K947 (ninS ne880 (ninS ne903 nin0))
  have c954 := c934.keep K947 (ninS ne881 (ninS ne904 nin0))
  have c959 := c939.keep K947
  have c960 := c940.keep K947 (ninS ne884 (ninS ne907 nin0))
  have c961 := c941.keep K947 (ninS ne884 (ninS ne907 nin0))
  have c962 := c942.keep K947
  obtain ⟨_, T967, L967, X967, N967, ⟨_, r967, yy967, kc967, rfl, -, K967, z967, G967, E967, Fc967, Fv967, V967⟩, st967⟩ := own_cV X947 hx hZ hown (own_k_499 hw) (rmTs3 hw b879 r902 kc902 x0 x1 x2 z948 c950 c962 Fv947 Fc947 Fn947 V947) (W := 0) (k := 4) (n := 27) (by decide) rfl N947 (fun _ _ _ ⟨_, _, _, _, h, _⟩ => h) c962 (Ls := (Y26 oA oS oR)) (rest := []) hml.symm (lenOf pd_500 rfl) (Nat.le_of_eq rfl) (hb hby d8_111)
  have z975 : n0 ≤ T967.heap.size := Nat.le_trans z948 K967.1
  have c976 := c949.trans K967 all0
  have c977 := c950.keep K967 all0
  have c978 := c951.keep K967
  have c979 := c952.keep K967 nin0
  have c980 := c953.keep K967 nin0
  have c981 := c954.keep K967 nin0
  have c986 := c959.keep K967
  have c987 := c960.keep K967 nin0
  have c988 := c961.keep K967 nin0
  obtain ⟨T994, h994, k994, X994, e994, E994, A994, st994⟩ := newP X967 hx hZ (own_w hw 153 rfl) rfl (g := (mkF m 118 (Y27 oA oS oR r967) [(.int (128 : Int32))])) rfl (hb hby d8_118) rfl (by decide) (cap := 128) (by decide) (by decide) (by decide) (by decide)
  obtain ⟨b994, g994⟩ : ∃ z, z = T967.heap.size := ⟨_, rfl⟩
  rw [← g994] at A994 st994
  have G994 : n0 ≤ b994 := Nat.le_trans z975 (Nat.le_of_eq g994.symm)
  have sz994 : h0.size ≤ b994 := Nat.le_trans c976.1 (Nat.le_of_eq g994.symm)
  have ne995 : oS ≠ b994 := Nat.ne_of_lt (Nat.lt_of_lt_of_le c978.lt (Nat.le_of_eq g994.symm))
  have ne996 : yS ≠ b994 := Nat.ne_of_lt (Nat.lt_of_lt_of_le c981.lt (Nat.le_of_eq g994.symm))
  have ne999 : oA ≠ b994 := Nat.ne_of_lt (Nat.lt_of_lt_of_le c986.lt (Nat.le_of_eq g994.symm))
  have ne1000 : r967 ≠ b994 := Nat.ne_of_lt (Nat.lt_of_lt_of_le E967.lt (Nat.le_of_eq g994.symm))
  have ne1001 : yy967 ≠ b994 := Nat.ne_of_lt (Nat.lt_of_lt_of_le V967.lt (Nat.le_of_eq g994.symm))
  have c1002 := c976.ext E994
  have c1003 := c977.ext E994
  have c1004 := c978.ext E994
  have c1005 := c979.ext E994
  have c1006 := c980.ext E994
  have c1007 := c981.ext E994
  have c1012 := c986.ext E994
  have c1013 := c987.ext E994
  have c1014 := c988.ext E994
  have c1015 := E967.ext E994
  have c1016 := Fc967.ext E994
  have c1017 := Fv967.ext E994
  have c1018 := V967.ext E994
  have z1019 : n0 ≤ h994.size := Nat.le_trans z975 E994.1
  have P994 := own_part0 (Arv.new A994 (by decide))
  obtain ⟨_, T1020, L1020, X1020, N1020, ⟨_, rfl, -, K1020, I1020⟩, st1020⟩ := own_cS X994 hx hZ hown (own_k_508 hw) (rmFill hw b994 z1019 P994 G994) (W := 0) (k := 5) (n := 155) (by decide) e994 N967 (fun _ _ _ h => h.2.1) (Ls := (Y28 oA oS oR r967 b994)) (rest := []) hml.symm (lenOf pd_509 rfl) (Nat.le_of_eq rfl) (hb hby d8_125)
  have z1021 : n0 ≤ T1020.heap.size := Nat.le_trans z1019 K1020.1
  have c1022 := c1002.trans K1020 (allS (Or.inr sz994) all0)
  have c1023 := c1003.keep K1020 (allS G994 all0)
  have c1024 := c1004.keep K1020
  have c1025 := c1005.keep K1020 (ninS ne995 nin0)
  have c1026 := c1006.keep K1020 (ninS ne995 nin0)
  have c1027 := c1007.keep K1020 (ninS ne996 nin0)
  have c1032 := c1012.keep K1020
  have c1033 := c1013.keep K1020 (ninS ne999 nin0)
  have c1034 := c1014.keep K1020 (ninS ne999 nin0)
  have c1035 := c1015.keep K1020
  have c1036 := c1016.keep K1020 (ninS ne1000 nin0)
  have c1037 := c1017.keep K1020 (ninS ne1000 nin0)
  have c1038 := c1018.keep K1020 (ninS ne1001 nin0)
  obtain ⟨_, T1039, L1039, X1039, N1039, ⟨_, rfl, -, e1039⟩, st1039⟩ := own_cV X1020 hx hZ hown (own_k_479 hw) (rmLen3 hw r967 yy967 kc967 x0 x1 x2 z1021 c1023 c1035 c1036 c1037 c1038) (W := 1) (k := 5) (n := 155) (by decide) rfl N1020 (fun _ _ _ h => h.2.1) c1035 (Ls := (Y29 oA oS oR r967 b994 0)) (rest := [(.int (0 : Int32))]) hml.symm (lenOf pd_272 rfl) (Nat.le_of_eq rfl) (hb hby d8_134)
  obtain ⟨_, T1040, L1040, X1040, N1040, ⟨_, rfl, -, e1040⟩, st1040⟩ := own_cV X1039 hx hZ hown (own_k_519 hw) (rmCa hw r967 yy967 kc967 (3 : Int32) (0 : Int32) x0 [(.int x0), (.int x1), (.int x2)] z1021 c1023 c1035 c1036 c1037 c1038 (by decide) (by decide) rfl hpx0) (W := 0) (k := 5) (n := 155) (by decide) e1039 N1039 (fun _ _ _ h => h.2.1) c1035 (Ls := (Y29 oA oS oR r967 b994 0)) (rest := []) hml.symm (lenOf pd_520 rfl) (Nat.le_of_eq rfl) (hb hby d8_143)
  obtain ⟨_, T1041, L1041, X1041, N1041, ⟨_, rfl, -, e1041⟩, st1041⟩ := own_cV X1040 hx hZ hown (own_k_479 hw) (rmLen3 hw oS yS kS x0 x1 x2 z1021 c1023 c1024 c1025 c1026 c1027) (W := 1) (k := 5) (n := 155) (by decide) e1040 N1040 (fun _ _ _ h => h.2.1) c1024 (Ls := (Y30 oA oS oR r967 b994 0 x0)) (rest := [(.int (0 : Int32))]) hml.symm (lenOf pd_272 rfl) (Nat.le_of_eq rfl) (hb hby d8_151)
  obtain ⟨_, T1042, L1042, X1042, N1042, ⟨_, rfl, -, e1042⟩, st1042⟩ := own_cS X1041 hx hZ hown (own_k_534 hw) (rmSep hw x0 z1021 hpx0) (W := 0) (k := 5) (n := 155) (by decide) e1041 N1041 (fun _ _ _ h => h.2.1) (Ls := (Y30 oA oS oR r967 b994 0 x0)) (rest := []) hml.symm (lenOf pd_535 rfl) (Nat.le_of_eq rfl) (hb hby d8_192)
  obtain ⟨cl1043, Ar1043, S1043, H1043⟩ := id I1020
  have hk1043 : ((fun _ => (-1 : Int32)) x0) = (-1 : Int32) := by simp [own_sy, own_st, own_al, hx01, hx02, hx12]
  have hat1043 : cl1043.slots[(x0).toNatClampNeg]? = some (.int ((fun _ => (-1 : Int32)) x0)) := H1043 _ hpx0.2.2.2.2.2.2.2.2.1 hpx0.2.2.2.2.2.2.2.2.2
  obtain ⟨_, T1044, L1044, X1044, N1044, ⟨_, rfl, -, e1044⟩, st1044⟩ := own_cV X1042 hx hZ hown (own_k_479 hw) (rmLen3 hw oS yS kS x0 x1 x2 z1021 c1023 c1024 c1025 c1026 c1027) (W := 3) (k := 5) (n := 155) (by decide) e1042 N1042 (fun _ _ _ h => h.2.1) c1024 (Ls := (Y30 oA oS oR r967 b994 0 x0)) (rest := [(.int (0 : Int32)), (.int x0), (.ref b994)]) hml.symm (lenOf pd_272 rfl) (Nat.le_of_eq rfl) (hb hby d8_281)
  obtain ⟨cl1045, Ar1045, S1045, H1045⟩ := id I1020
  obtain ⟨T1046, h1046, X1046, e1046, W1046, st1046⟩ := stI X1044 hx hZ e1044 Ar1045 (j := x0) (own_inb S1045 hpx0.2.2.2.2.2.2.2.2.1 hpx0.2.2.2.2.2.2.2.2.2) (g := (mkF m 285 (Y30 oA oS oR r967 b994 0 x0) [(.int (0 : Int32)), (.int x0), (.ref b994)])) rfl rfl (hb hby d8_285)
  have I1046 := own_ints_set Ar1045 S1045 H1045 W1046 hpx0.2.2.2.2.2.2.2.2.1 hpx0.2.2.2.2.2.2.2.2.2
  have N1046 := Fr.snoc X1046 N1044 G994
  have z1047 : n0 ≤ h1046.size := Nat.le_trans z1021 (Keep.of_wr W1046).1
  have c1048 := c1022.wr W1046 (Or.inr sz994)
  have c1049 := c1023.wr W1046 G994
  have c1050 := c1024.wr W1046
  have c1051 := c1025.other W1046 (Or.inl ne995)
  have c1052 := c1026.other W1046 (Or.inl ne995)
  have c1053 := c1027.other W1046 ne996
  have c1058 := c1032.wr W1046
  have c1059 := c1033.other W1046 (Or.inl ne999)
  have c1060 := c1034.other W1046 (Or.inl ne999)
  have c1061 := c1035.wr W1046
  have c1062 := c1036.other W1046 (Or.inl ne1000)
  have c1063 := c1037.other W1046 (Or.inl ne1000)
  have c1064 := c1038.other W1046 ne1001
  obtain ⟨_, T1065, L1065, X1065, N1065, ⟨_, rfl, -, e1065⟩, st1065⟩ := own_cV X1046 hx hZ hown (own_k_479 hw) (rmLen3 hw r967 yy967 kc967 x0 x1 x2 z1047 c1049 c1061 c1062 c1063 c1064) (W := 1) (k := 5) (n := 155) (by decide) e1046 N1046 (fun _ _ _ h => h.2.1) c1061 (Ls := (Y30 oA oS oR r967 b994 1 x0)) (rest := [(.int (1 : Int32))]) hml.symm (lenOf pd_272 rfl) (Nat.le_of_eq rfl) (hb hby d8_134)
  obtain ⟨_, T1066, L1066, X1066, N1066, ⟨_, rfl, -, e1066⟩, st1066⟩ := own_cV X1065 hx hZ hown (own_k_519 hw) (rmCa hw r967 yy967 kc967 (3 : Int32) (1 : Int32) x1 [(.int x0), (.int x1), (.int x2)] z1047 c1049 c1061 c1062 c1063 c1064 (by decide) (by decide) rfl hpx1) (W := 0) (k := 5) (n := 155) (by decide) e1065 N1065 (fun _ _ _ h => h.2.1) c1061 (Ls := (Y30 oA oS oR r967 b994 1 x0)) (rest := []) hml.symm (lenOf pd_520 rfl) (Nat.le_of_eq rfl) (hb hby d8_143)
  obtain ⟨_, T1067, L1067, X1067, N1067, ⟨_, rfl, -, e1067⟩, st1067⟩ := own_cV X1066 hx hZ hown (own_k_479 hw) (rmLen3 hw oS yS kS x0 x1 x2 z1047 c1049 c1050 c1051 c1052 c1053) (W := 1) (k := 5) (n := 155) (by decide) e1066 N1066 (fun _ _ _ h => h.2.1) c1050 (Ls := (Y30 oA oS oR r967 b994 1 x1)) (rest := [(.int (1 : Int32))]) hml.symm (lenOf pd_272 rfl) (Nat.le_of_eq rfl) (hb hby d8_151)
  obtain ⟨_, T1068, L1068, X1068, N1068, ⟨_, rfl, -, e1068⟩, st1068⟩ := own_cS X1067 hx hZ hown (own_k_534 hw) (rmSep hw x1 z1047 hpx1) (W := 0) (k := 5) (n := 155) (by decide) e1067 N1067 (fun _ _ _ h => h.2.1) (Ls := (Y30 oA oS oR r967 b994 1 x1)) (rest := []) hml.symm (lenOf pd_535 rfl) (Nat.le_of_eq rfl) (hb hby d8_192)
  obtain ⟨cl1069, Ar1069, S1069, H1069⟩ := id I1046
  have hk1069 : ((own_st (fun _ => (-1 : Int32)) x0 (0 : Int32)) x1) = (-1 : Int32) := by simp [own_sy, own_st, own_al, hx01, hx02, hx12]
  have hat1069 : cl1069.slots[(x1).toNatClampNeg]? = some (.int ((own_st (fun _ => (-1 : Int32)) x0 (0 : Int32)) x1)) := H1069 _ hpx1.2.2.2.2.2.2.2.2.1 hpx1.2.2.2.2.2.2.2.2.2
  obtain ⟨_, T1070, L1070, X1070, N1070, ⟨_, rfl, -, e1070⟩, st1070⟩ := own_cV X1068 hx hZ hown (own_k_479 hw) (rmLen3 hw oS yS kS x0 x1 x2 z1047 c1049 c1050 c1051 c1052 c1053) (W := 3) (k := 5) (n := 155) (by decide) e1068 N1068 (fun _ _ _ h => h.2.1) c1050 (Ls := (Y30 oA oS oR r967 b994 1 x1)) (rest := [(.int (1 : Int32)), (.int x1), (.ref b994)]) hml.symm (lenOf pd_272 rfl) (Nat.le_of_eq rfl) (hb hby d8_281)
  obtain ⟨cl1071, Ar1071, S1071, H1071⟩ := id I1046
  obtain ⟨T1072, h1072, X1072, e1072, W1072, st1072⟩ := stI X1070 hx hZ e1070 Ar1071 (j := x1) (own_inb S1071 hpx1.2.2.2.2.2.2.2.2.1 hpx1.2.2.2.2.2.2.2.2.2) (g := (mkF m 285 (Y30 oA oS oR r967 b994 1 x1) [(.int (1 : Int32)), (.int x1), (.ref b994)])) rfl rfl (hb hby d8_285)
  have I1072 := own_ints_set Ar1071 S1071 H1071 W1072 hpx1.2.2.2.2.2.2.2.2.1 hpx1.2.2.2.2.2.2.2.2.2
  have N1072 := Fr.snoc X1072 N1070 G994
  have z1073 : n0 ≤ h1072.size := Nat.le_trans z1047 (Keep.of_wr W1072).1
  have c1074 := c1048.wr W1072 (Or.inr sz994)
  have c1075 := c1049.wr W1072 G994
  have c1076 := c1050.wr W1072
  have c1077 := c1051.other W1072 (Or.inl ne995)
  have c1078 := c1052.other W1072 (Or.inl ne995)
  have c1079 := c1053.other W1072 ne996
  have c1084 := c1058.wr W1072
  have c1085 := c1059.other W1072 (Or.inl ne999)
  have c1086 := c1060.other W1072 (Or.inl ne999)
  have c1087 := c1061.wr W1072
  have c1088 := c1062.other W1072 (Or.inl ne1000)
  have c1089 := c1063.other W1072 (Or.inl ne1000)
  have c1090 := c1064.other W1072 ne1001
  obtain ⟨_, T1091, L1091, X1091, N1091, ⟨_, rfl, -, e1091⟩, st1091⟩ := own_cV X1072 hx hZ hown (own_k_479 hw) (rmLen3 hw r967 yy967 kc967 x0 x1 x2 z1073 c1075 c1087 c1088 c1089 c1090) (W := 1) (k := 5) (n := 155) (by decide) e1072 N1072 (fun _ _ _ h => h.2.1) c1087 (Ls := (Y30 oA oS oR r967 b994 2 x1)) (rest := [(.int (2 : Int32))]) hml.symm (lenOf pd_272 rfl) (Nat.le_of_eq rfl) (hb hby d8_134)
  obtain ⟨_, T1092, L1092, X1092, N1092, ⟨_, rfl, -, e1092⟩, st1092⟩ := own_cV X1091 hx hZ hown (own_k_519 hw) (rmCa hw r967 yy967 kc967 (3 : Int32) (2 : Int32) x2 [(.int x0), (.int x1), (.int x2)] z1073 c1075 c1087 c1088 c1089 c1090 (by decide) (by decide) rfl hpx2) (W := 0) (k := 5) (n := 155) (by decide) e1091 N1091 (fun _ _ _ h => h.2.1) c1087 (Ls := (Y30 oA oS oR r967 b994 2 x1)) (rest := []) hml.symm (lenOf pd_520 rfl) (Nat.le_of_eq rfl) (hb hby d8_143)
  obtain ⟨_, T1093, L1093, X1093, N1093, ⟨_, rfl, -, e1093⟩, st1093⟩ := own_cV X1092 hx hZ hown (own_k_479 hw) (rmLen3 hw oS yS kS x0 x1 x2 z1073 c1075 c1076 c1077 c1078 c1079) (W := 1) (k := 5) (n := 155) (by decide) e1092 N1092 (fun _ _ _ h => h.2.1) c1076 (Ls := (Y30 oA oS oR r967 b994 2 x2)) (rest := [(.int (2 : Int32))]) hml.symm (lenOf pd_272 rfl) (Nat.le_of_eq rfl) (hb hby d8_151)
  obtain ⟨_, T1094, L1094, X1094, N1094, ⟨_, rfl, -, e1094⟩, st1094⟩ := own_cS X1093 hx hZ hown (own_k_534 hw) (rmSep hw x2 z1073 hpx2) (W := 0) (k := 5) (n := 155) (by decide) e1093 N1093 (fun _ _ _ h => h.2.1) (Ls := (Y30 oA oS oR r967 b994 2 x2)) (rest := []) hml.symm (lenOf pd_535 rfl) (Nat.le_of_eq rfl) (hb hby d8_192)
  obtain ⟨cl1095, Ar1095, S1095, H1095⟩ := id I1072
  have hk1095 : ((own_st (own_st (fun _ => (-1 : Int32)) x0 (0 : Int32)) x1 (1 : Int32)) x2) = (-1 : Int32) := by simp [own_sy, own_st, own_al, hx01, hx02, hx12]
  have hat1095 : cl1095.slots[(x2).toNatClampNeg]? = some (.int ((own_st (own_st (fun _ => (-1 : Int32)) x0 (0 : Int32)) x1 (1 : Int32)) x2)) := H1095 _ hpx2.2.2.2.2.2.2.2.2.1 hpx2.2.2.2.2.2.2.2.2.2
  obtain ⟨_, T1096, L1096, X1096, N1096, ⟨_, rfl, -, e1096⟩, st1096⟩ := own_cV X1094 hx hZ hown (own_k_479 hw) (rmLen3 hw oS yS kS x0 x1 x2 z1073 c1075 c1076 c1077 c1078 c1079) (W := 3) (k := 5) (n := 155) (by decide) e1094 N1094 (fun _ _ _ h => h.2.1) c1076 (Ls := (Y30 oA oS oR r967 b994 2 x2)) (rest := [(.int (2 : Int32)), (.int x2), (.ref b994)]) hml.symm (lenOf pd_272 rfl) (Nat.le_of_eq rfl) (hb hby d8_281)
  obtain ⟨cl1097, Ar1097, S1097, H1097⟩ := id I1072
  obtain ⟨T1098, h1098, X1098, e1098, W1098, st1098⟩ := stI X1096 hx hZ e1096 Ar1097 (j := x2) (own_inb S1097 hpx2.2.2.2.2.2.2.2.2.1 hpx2.2.2.2.2.2.2.2.2.2) (g := (mkF m 285 (Y30 oA oS oR r967 b994 2 x2) [(.int (2 : Int32)), (.int x2), (.ref b994)])) rfl rfl (hb hby d8_285)
  have I1098 := own_ints_set Ar1097 S1097 H1097 W1098 hpx2.2.2.2.2.2.2.2.2.1 hpx2.2.2.2.2.2.2.2.2.2
  have N1098 := Fr.snoc X1098 N1096 G994
  have z1099 : n0 ≤ h1098.size := Nat.le_trans z1073 (Keep.of_wr W1098).1
  have c1100 := c1074.wr W1098 (Or.inr sz994)
  have c1101 := c1075.wr W1098 G994
  have c1110 := c1084.wr W1098
  have c1111 := c1085.other W1098 (Or.inl ne999)
  have c1112 := c1086.other W1098 (Or.inl ne999)
  have c1113 := c1087.wr W1098
  have c1114 := c1088.other W1098 (Or.inl ne1000)
  have c1115 := c1089.other W1098 (Or.inl ne1000)
  have c1116 := c1090.other W1098 ne1001
  obtain ⟨_, T1117, L1117, X1117, N1117, ⟨_, rfl, -, e1117⟩, st1117⟩ := own_cV X1098 hx hZ hown (own_k_479 hw) (rmLen3 hw r967 yy967 kc967 x0 x1 x2 z1099 c1101 c1113 c1114 c1115 c1116) (W := 1) (k := 5) (n := 155) (by decide) e1098 N1098 (fun _ _ _ h => h.2.1) c1113 (Ls := (Y30 oA oS oR r967 b994 3 x2)) (rest := [(.int (3 : Int32))]) hml.symm (lenOf pd_272 rfl) (Nat.le_of_eq rfl) (hb hby d8_134)
  obtain ⟨T1118, h1118, X1118, e1118, W1118, st1118⟩ := putF X1117 hx hZ hown (host := "") (Or.inl (own_w hw 182 rfl)) Via.refl e1117 c1111 c1110 (Or.inr ⟨(own_w hw 183 rfl), rfl, hnm⟩) (own_w hw 36 rfl) (ty := (.object "java/lang/String")) (by decide) rfl rfl (g := (mkF m 294 (Y30 oA oS oR r967 b994 3 x2) [(.ref oS), (.ref oA)])) rfl rfl (hb hby d8_294)
  have N1118 := Fr.snoc X1118 N1117 GA
  have c1120 := c1100.wr W1118 (Or.inl (List.mem_of_getElem? (i := 0) rfl))
  have c1122 := c1110.wr W1118
  have c1124 := c1112.other W1118 (Or.inr (own_sn_554 hw))
  have I1125 := I1098.other W1118 (Ne.symm ne999)
  obtain ⟨T1126, h1126, X1126, e1126, W1126, st1126⟩ := putF X1118 hx hZ hown (host := "") (Or.inl (own_w hw 184 rfl)) Via.refl e1118 c1124 c1122 (Or.inr ⟨(own_w hw 185 rfl), rfl, hnm⟩) (own_w hw 36 rfl) (ty := (.array .int)) (by decide) rfl rfl (g := (mkF m 300 (Y30 oA oS oR r967 b994 3 x2) [(.ref b994), (.ref oA)])) rfl rfl (hb hby d8_300)
  have Fw1126 := c1124.same W1126
  have N1126 := Fr.snoc X1126 N1118 GA
  have c1128 := c1120.wr W1126 (Or.inl (List.mem_of_getElem? (i := 0) rfl))
  have I1133 := I1125.other W1126 (Ne.symm ne999)
  have pre1134 : PQ p e below T1126 (mkF m 303 (Y30 oA oS oR r967 b994 3 x2) []) bs := fun t kt => pre0 t (by
    refine XS.aloadN X0.here hx rfl (hb hby d8_0) rfl rfl ?_
    refine st875 _ ?_
    refine XS.aloadN X875.here hx rfl (hb hby d8_4) rfl rfl ?_
    refine st876.trans ?_
    refine XS.iconst X876.here hx rfl (hb hby d8_8) ?_
    refine XS.icmpYes X876.here hx rfl (pc0 := 9) (pc' := 44) rfl (hb hby d8_9) rfl (flt (by decide : ¬ ((3 : Int32) < (2 : Int32)))).2.1 (by decide) (by decide) ?_
    refine XS.aloadN X876.here hx rfl (hb hby d8_44) rfl rfl ?_
    refine st877.trans ?_
    refine XS.aloadN X877.here hx rfl (hb hby d8_48) rfl rfl ?_
    refine st878.trans ?_
    refine XS.icmpYes X878.here hx rfl (pc0 := 52) (pc' := 96) rfl (hb hby d8_52) rfl (flt (by decide : ¬ ((3 : Int32) < (0 : Int32)))).2.2.2 (by decide) (by decide) ?_
    refine st879 _ ?_
    refine XS.dup X879.here hx rfl (hb hby d8_99) rfl rfl ?_
    refine st902.trans ?_
    refine XS.aloadN X902.here hx rfl (hb hby d8_103) rfl rfl ?_
    refine st927.trans ?_
    refine XS.aloadN X927.here hx rfl (hb hby d8_107) rfl rfl ?_
    refine st947.trans ?_
    refine st967.trans ?_
    refine XS.astoreN X967.here hx rfl (hb hby d8_114) rfl rfl (l' := (Y27 oA oS oR r967)) rfl ?_
    refine XS.sipush X967.here hx rfl (hb hby d8_115) ?_
    refine st994 _ ?_
    refine XS.astore X994.here hx rfl (hb hby d8_120) rfl rfl (l' := (Y28 oA oS oR r967 b994)) rfl ?_
    refine XS.aload X994.here hx rfl (hb hby d8_122) rfl rfl ?_
    refine XS.iconst X994.here hx rfl (hb hby d8_124) ?_
    refine st1020.trans ?_
    refine XS.iconst X1020.here hx rfl (hb hby d8_128) ?_
    refine XS.istore X1020.here hx rfl (hb hby d8_129) rfl (l' := (Y29 oA oS oR r967 b994 0)) rfl ?_
    refine XS.iload X1020.here hx rfl (hb hby d8_131) rfl ?_
    refine XS.aloadN X1020.here hx rfl (hb hby d8_133) rfl rfl ?_
    refine st1039.trans ?_
    refine XS.icmpNo X1039.here hx rfl (hb hby d8_137) rfl (tlt (by decide : (0 : Int32) < (3 : Int32))).2.1 ?_
    refine XS.aloadN X1039.here hx rfl (hb hby d8_140) rfl rfl ?_
    refine XS.iload X1039.here hx rfl (hb hby d8_141) rfl ?_
    refine st1040.trans ?_
    refine XS.istore X1040.here hx rfl (hb hby d8_146) rfl (l' := (Y30 oA oS oR r967 b994 0 x0)) rfl ?_
    refine XS.iload X1040.here hx rfl (hb hby d8_148) rfl ?_
    refine XS.aloadN X1040.here hx rfl (hb hby d8_150) rfl rfl ?_
    refine st1041.trans ?_
    refine XS.icmpYes X1041.here hx rfl (pc0 := 154) (pc' := 176) rfl (hb hby d8_154) rfl (tlt (by decide : (0 : Int32) < (3 : Int32))).1 (by decide) (by decide) ?_
    refine XS.iload X1041.here hx rfl (hb hby d8_176) rfl ?_
    refine XS.bipush X1041.here hx rfl (hb hby d8_178) ?_
    refine XS.icmpNo X1041.here hx rfl (hb hby d8_180) rfl (flt hpx0.2.2.2.2.1).1 ?_
    refine XS.iload X1041.here hx rfl (hb hby d8_183) rfl ?_
    refine XS.bipush X1041.here hx rfl (hb hby d8_185) ?_
    refine XS.icmpNo X1041.here hx rfl (hb hby d8_187) rfl (flt hpx0.2.2.2.2.2.1).2.2.1 ?_
    refine XS.iload X1041.here hx rfl (hb hby d8_190) rfl ?_
    refine st1042.trans ?_
    refine XS.ifYes X1042.here hx rfl (pc0 := 195) (pc' := 223) rfl (hb hby d8_195) rfl ((if0 _ _).trans (teq (by decide : (0 : Int32) = (0 : Int32))).1) (by decide) (by decide) ?_
    refine XS.aload X1042.here hx rfl (hb hby d8_223) rfl rfl ?_
    refine XS.iload X1042.here hx rfl (hb hby d8_225) rfl ?_
    refine X1042.iaload hx (j := x0) (v := (.int ((fun _ => (-1 : Int32)) x0))) (by rw [e1042]; exact Ar1043.1) (State.isArrayOf_alike hZ.alike Ar1043.2.1) Ar1043.2.2 (own_inb S1043 hpx0.2.2.2.2.2.2.2.2.1 hpx0.2.2.2.2.2.2.2.2.2) hat1043 (g := (mkF m 227 (Y30 oA oS oR r967 b994 0 x0) [(.int x0), (.ref b994)])) rfl rfl (hb hby d8_227) _ ?_
    refine XS.iconst X1042.here hx rfl (hb hby d8_228) ?_
    refine XS.icmpYes X1042.here hx rfl (pc0 := 229) (pc' := 274) rfl (hb hby d8_229) rfl (teq hk1043).1 (by decide) (by decide) ?_
    refine XS.aload X1042.here hx rfl (hb hby d8_274) rfl rfl ?_
    refine XS.iload X1042.here hx rfl (hb hby d8_276) rfl ?_
    refine XS.iload X1042.here hx rfl (hb hby d8_278) rfl ?_
    refine XS.aloadN X1042.here hx rfl (hb hby d8_280) rfl rfl ?_
    refine st1044.trans ?_
    refine XS.irem X1044.here hx rfl (hb hby d8_284) rfl (by decide) ?_
    refine st1046 _ ?_
    refine XS.iinc X1046.here hx rfl (hb hby d8_286) rfl (l' := (Y30 oA oS oR r967 b994 1 x0)) rfl ?_
    refine XS.goto X1046.here hx rfl (pc0 := 289) (pc' := 131) rfl (hb hby d8_289) (by decide) (by decide) ?_
    refine XS.iload X1046.here hx rfl (hb hby d8_131) rfl ?_
    refine XS.aloadN X1046.here hx rfl (hb hby d8_133) rfl rfl ?_
    refine st1065.trans ?_
    refine XS.icmpNo X1065.here hx rfl (hb hby d8_137) rfl (tlt (by decide : (1 : Int32) < (3 : Int32))).2.1 ?_
    refine XS.aloadN X1065.here hx rfl (hb hby d8_140) rfl rfl ?_
    refine XS.iload X1065.here hx rfl (hb hby d8_141) rfl ?_
    refine st1066.trans ?_
    refine XS.istore X1066.here hx rfl (hb hby d8_146) rfl (l' := (Y30 oA oS oR r967 b994 1 x1)) rfl ?_
    refine XS.iload X1066.here hx rfl (hb hby d8_148) rfl ?_
    refine XS.aloadN X1066.here hx rfl (hb hby d8_150) rfl rfl ?_
    refine st1067.trans ?_
    refine XS.icmpYes X1067.here hx rfl (pc0 := 154) (pc' := 176) rfl (hb hby d8_154) rfl (tlt (by decide : (1 : Int32) < (3 : Int32))).1 (by decide) (by decide) ?_
    refine XS.iload X1067.here hx rfl (hb hby d8_176) rfl ?_
    refine XS.bipush X1067.here hx rfl (hb hby d8_178) ?_
    refine XS.icmpNo X1067.here hx rfl (hb hby d8_180) rfl (flt hpx1.2.2.2.2.1).1 ?_
    refine XS.iload X1067.here hx rfl (hb hby d8_183) rfl ?_
    refine XS.bipush X1067.here hx rfl (hb hby d8_185) ?_
    refine XS.icmpNo X1067.here hx rfl (hb hby d8_187) rfl (flt hpx1.2.2.2.2.2.1).2.2.1 ?_
    refine XS.iload X1067.here hx rfl (hb hby d8_190) rfl ?_
    refine st1068.trans ?_
    refine XS.ifYes X1068.here hx rfl (pc0 := 195) (pc' := 223) rfl (hb hby d8_195) rfl ((if0 _ _).trans (teq (by decide : (0 : Int32) = (0 : Int32))).1) (by decide) (by decide) ?_
    refine XS.aload X1068.here hx rfl (hb hby d8_223) rfl rfl ?_
    refine XS.iload X1068.here hx rfl (hb hby d8_225) rfl ?_
    refine X1068.iaload hx (j := x1) (v := (.int ((own_st (fun _ => (-1 : Int32)) x0 (0 : Int32)) x1))) (by rw [e1068]; exact Ar1069.1) (State.isArrayOf_alike hZ.alike Ar1069.2.1) Ar1069.2.2 (own_inb S1069 hpx1.2.2.2.2.2.2.2.2.1 hpx1.2.2.2.2.2.2.2.2.2) hat1069 (g := (mkF m 227 (Y30 oA oS oR r967 b994 1 x1) [(.int x1), (.ref b994)])) rfl rfl (hb hby d8_227) _ ?_
    refine XS.iconst X1068.here hx rfl (hb hby d8_228) ?_
    refine XS.icmpYes X1068.here hx rfl (pc0 := 229) (pc' := 274) rfl (hb hby d8_229) rfl (teq hk1069).1 (by decide) (by decide) ?_
    refine XS.aload X1068.here hx rfl (hb hby d8_274) rfl rfl ?_
    refine XS.iload X1068.here hx rfl (hb hby d8_276) rfl ?_
    refine XS.iload X1068.here hx rfl (hb hby d8_278) rfl ?_
    refine XS.aloadN X1068.here hx rfl (hb hby d8_280) rfl rfl ?_
    refine st1070.trans ?_
    refine XS.irem X1070.here hx rfl (hb hby d8_284) rfl (by decide) ?_
    refine st1072 _ ?_
    refine XS.iinc X1072.here hx rfl (hb hby d8_286) rfl (l' := (Y30 oA oS oR r967 b994 2 x1)) rfl ?_
    refine XS.goto X1072.here hx rfl (pc0 := 289) (pc' := 131) rfl (hb hby d8_289) (by decide) (by decide) ?_
    refine XS.iload X1072.here hx rfl (hb hby d8_131) rfl ?_
    refine XS.aloadN X1072.here hx rfl (hb hby d8_133) rfl rfl ?_
    refine st1091.trans ?_
    refine XS.icmpNo X1091.here hx rfl (hb hby d8_137) rfl (tlt (by decide : (2 : Int32) < (3 : Int32))).2.1 ?_
    refine XS.aloadN X1091.here hx rfl (hb hby d8_140) rfl rfl ?_
    refine XS.iload X1091.here hx rfl (hb hby d8_141) rfl ?_
    refine st1092.trans ?_
    refine XS.istore X1092.here hx rfl (hb hby d8_146) rfl (l' := (Y30 oA oS oR r967 b994 2 x2)) rfl ?_
    refine XS.iload X1092.here hx rfl (hb hby d8_148) rfl ?_
    refine XS.aloadN X1092.here hx rfl (hb hby d8_150) rfl rfl ?_
    refine st1093.trans ?_
    refine XS.icmpYes X1093.here hx rfl (pc0 := 154) (pc' := 176) rfl (hb hby d8_154) rfl (tlt (by decide : (2 : Int32) < (3 : Int32))).1 (by decide) (by decide) ?_
    refine XS.iload X1093.here hx rfl (hb hby d8_176) rfl ?_
    refine XS.bipush X1093.here hx rfl (hb hby d8_178) ?_
    refine XS.icmpNo X1093.here hx rfl (hb hby d8_180) rfl (flt hpx2.2.2.2.2.1).1 ?_
    refine XS.iload X1093.here hx rfl (hb hby d8_183) rfl ?_
    refine XS.bipush X1093.here hx rfl (hb hby d8_185) ?_
    refine XS.icmpNo X1093.here hx rfl (hb hby d8_187) rfl (flt hpx2.2.2.2.2.2.1).2.2.1 ?_
    refine XS.iload X1093.here hx rfl (hb hby d8_190) rfl ?_
    refine st1094.trans ?_
    refine XS.ifYes X1094.here hx rfl (pc0 := 195) (pc' := 223) rfl (hb hby d8_195) rfl ((if0 _ _).trans (teq (by decide : (0 : Int32) = (0 : Int32))).1) (by decide) (by decide) ?_
    refine XS.aload X1094.here hx rfl (hb hby d8_223) rfl rfl ?_
    refine XS.iload X1094.here hx rfl (hb hby d8_225) rfl ?_
    refine X1094.iaload hx (j := x2) (v := (.int ((own_st (own_st (fun _ => (-1 : Int32)) x0 (0 : Int32)) x1 (1 : Int32)) x2))) (by rw [e1094]; exact Ar1095.1) (State.isArrayOf_alike hZ.alike Ar1095.2.1) Ar1095.2.2 (own_inb S1095 hpx2.2.2.2.2.2.2.2.2.1 hpx2.2.2.2.2.2.2.2.2.2) hat1095 (g := (mkF m 227 (Y30 oA oS oR r967 b994 2 x2) [(.int x2), (.ref b994)])) rfl rfl (hb hby d8_227) _ ?_
    refine XS.iconst X1094.here hx rfl (hb hby d8_228) ?_
    refine XS.icmpYes X1094.here hx rfl (pc0 := 229) (pc' := 274) rfl (hb hby d8_229) rfl (teq hk1095).1 (by decide) (by decide) ?_
    refine XS.aload X1094.here hx rfl (hb hby d8_274) rfl rfl ?_
    refine XS.iload X1094.here hx rfl (hb hby d8_276) rfl ?_
    refine XS.iload X1094.here hx rfl (hb hby d8_278) rfl ?_
    refine XS.aloadN X1094.here hx rfl (hb hby d8_280) rfl rfl ?_
    refine st1096.trans ?_
    refine XS.irem X1096.here hx rfl (hb hby d8_284) rfl (by decide) ?_
    refine st1098 _ ?_
    refine XS.iinc X1098.here hx rfl (hb hby d8_286) rfl (l' := (Y30 oA oS oR r967 b994 3 x2)) rfl ?_
    refine XS.goto X1098.here hx rfl (pc0 := 289) (pc' := 131) rfl (hb hby d8_289) (by decide) (by decide) ?_
    refine XS.iload X1098.here hx rfl (hb hby d8_131) rfl ?_
    refine XS.aloadN X1098.here hx rfl (hb hby d8_133) rfl rfl ?_
    refine st1117.trans ?_
    refine XS.icmpYes X1117.here hx rfl (pc0 := 137) (pc' := 292) rfl (hb hby d8_137) rfl (flt (by decide : ¬ ((3 : Int32) < (3 : Int32)))).2.1 (by decide) (by decide) ?_
    refine XS.aloadN X1117.here hx rfl (hb hby d8_292) rfl rfl ?_
    refine XS.aloadN X1117.here hx rfl (hb hby d8_293) rfl rfl ?_
    refine st1118 _ ?_
    refine XS.aloadN X1118.here hx rfl (hb hby d8_297) rfl rfl ?_
    refine XS.aload X1118.here hx rfl (hb hby d8_298) rfl rfl ?_
    refine st1126 _ ?_
    exact kt)
  have hQ : QAl0 Z oA x0 x1 x2 h0 n0 none h1126 _ := ⟨b994, rfl, N1126, c1128, Fw1126, I1133⟩
  exact own_retV X1126 hx hlk hrt (hb hby d8_303) pre1134 (show QAl0 Z oA x0 x1 x2 h0 n0 _ _ _ from (by rw [e1126]; exact hQ)) (by decide) (by decide)
theorem d8_157 : decode prog_8_method_2_code 157 = .ok (.iload 6, 2) := by decide +kernel
theorem d8_159 : decode prog_8_method_2_code 159 = .ok (.aload_n 1, 1) := by decide +kernel
theorem d8_160 : decode prog_8_method_2_code 160 = .ok (.iload 5, 2) := by decide +kernel
theorem d8_162 : decode prog_8_method_2_code 162 = .ok (.aload_n 1, 1) := by decide +kernel
theorem d8_163 : decode prog_8_method_2_code 163 = .ok (.invokevirtual 14, 3) := by decide +kernel
theorem d8_166 : decode prog_8_method_2_code 166 = .ok (.isub, 1) := by decide +kernel
theorem d8_167 : decode prog_8_method_2_code 167 = .ok (.invokevirtual 50, 3) := by decide +kernel
theorem d8_170 : decode prog_8_method_2_code 170 = .ok (.if_icmp .ne 6, 3) := by decide +kernel
theorem d8_173 : decode prog_8_method_2_code 173 = .ok (.goto 113, 3) := by decide +kernel
def QAl1 (Z : State) (oA : Addr) (x0 x1 x2 : Int32) (u0 : Int32) (h0 : Heap) (n0 : Nat) (v : Option Value) (h : Heap) (L : List Loc) : Prop := ∃ (r : Addr), v = none ∧ Fr n0 L ∧ Keep h0 h [oA] ∧ Ff Z h oA (.ref r) ∧ Ints Z h r (own_al (own_sy x0 x1 x2) u0 x0 (0 : Int32))
set_option maxRecDepth 65536 in
set_option maxHeartbeats 40000000 in
theorem rmAl1 {l : Launch} {Z : State} {a0 : Array Value} (hw : Hw a0 Z) {ws : List Jvm.Cond} (oA : Addr) (oS yS : Addr) (kS : ClassId) (oR yR : Addr) (kR : ClassId) (x0 x1 x2 : Int32) (u0 : Int32) {h0 : Heap} {n0 : Nat} (Z0 : n0 ≤ h0.size) {cs : Int32} {fv : Value} (Ev : Ev0 Z n0 h0 cs fv) (EA : Exa Z h0 oA "com/example/digitwarden/digitwarden/model/Alphabet") (FsA : Fg Z h0 oA .null) (FvA : Ff Z h0 oA .null) (GA : n0 ≤ oA) (ES : Exa Z h0 oS "java/lang/String") (FcS : Fa Z h0 oS (.int (0 : Int32))) (FvS : Fb Z h0 oS (.ref yS)) (VS : Arv Z h0 yS kS .byte (3 : Int32) [(.int x0), (.int x1), (.int x2)] (.int (0 : Int32))) (ER : Exa Z h0 oR "java/lang/String") (FcR : Fa Z h0 oR (.int (0 : Int32))) (FvR : Fb Z h0 oR (.ref yR)) (VR : Arv Z h0 yR kR .byte (1 : Int32) [(.int u0)] (.int (0 : Int32))) (hpx0 : Pr x0) (hpx1 : Pr x1) (hpx2 : Pr x2) (hpu0 : Pr u0) (hx01 : ¬ x1 = x0) (hx02 : ¬ x2 = x0) (hx12 : ¬ x2 = x1) (hm01 : ¬ u0 = x1) (hm02 : ¬ u0 = x2) (hn1 : oS ≠ oA) (hn2 : yS ≠ oA) (hn3 : oR ≠ oA) (hn4 : yR ≠ oA) : MF l Z own_y_473 prog_8_method_2_code 7 none ws (⟨6, 5, 156, 91⟩ : Room) #[(.ref oA), (.ref oS), (.ref oR)] h0 (QAl1 Z oA x0 x1 x2 u0 h0 n0) := by
  refine own_en (plainFor_of_name pn_452) (fun m => ef_474 m oA oS oR) fun p e s m below meth c s₁ bs hx hby hml hZ hown hnm X0 e0 hlk hrt pre0 => ?_
  have N0 := Fr.nil n0
  obtain ⟨T1135, X1135, e1135, st1135⟩ := initO X0 hx hZ hown (own_w hw 41 rfl) (own_w hw 17 rfl) (own_w hw 18 rfl) e0 (g := (mkF m 1 (Y26 oA oS oR) [(.ref oA)])) rfl (by rw [hml]; rfl) rfl (hb hby d8_1) (by decide) (W := 0) (by show 2 * 0 + _ ≤ _; exact Nat.le_of_eq rfl) (by decide)
  obtain ⟨_, T1136, L1136, X1136, N1136, ⟨_, rfl, -, e1136⟩, st1136⟩ := own_cV X1135 hx hZ hown (own_k_479 hw) (rmLen3 hw oS yS kS x0 x1 x2 Z0 Ev ES FcS FvS VS) (W := 0) (k := 0) (n := 0) (by decide) e1135 N0 (fun _ _ _ h => h.2.1) ES (Ls := (Y26 oA oS oR)) (rest := []) hml.symm (lenOf pd_272 rfl) (Nat.le_of_eq rfl) (hb hby d8_5)
  obtain ⟨_, T1137, L1137, X1137, N1137, ⟨_, rfl, -, e1137⟩, st1137⟩ := own_cV X1136 hx hZ hown (own_k_479 hw) (rmLen1 hw oR yR kR u0 Z0 Ev ER FcR FvR VR) (W := 0) (k := 0) (n := 0) (by decide) e1136 N1136 (fun _ _ _ h => h.2.1) ER (Ls := (Y26 oA oS oR)) (rest := []) hml.symm (lenOf pd_272 rfl) (Nat.le_of_eq rfl) (hb hby d8_45)
  obtain ⟨_, T1138, L1138, X1138, N1138, ⟨_, rfl, -, e1138⟩, st1138⟩ := own_cV X1137 hx hZ hown (own_k_479 hw) (rmLen3 hw oS yS kS x0 x1 x2 Z0 Ev ES FcS FvS VS) (W := 1) (k := 0) (n := 0) (by decide) e1137 N1137 (fun _ _ _ h => h.2.1) ES (Ls := (Y26 oA oS oR)) (rest := [(.int (1 : Int32))]) hml.symm (lenOf pd_272 rfl) (Nat.le_of_eq rfl) (hb hby d8_49)
  obtain ⟨T1139, h1139, X1139, e1139, E1139, A1139, D1139, -, st1139⟩ := newO X1138 hx hZ hown (own_w hw 52 rfl) (own_w hw 53 rfl) (own_w hw 54 rfl) e1138 (g := (mkF m 96 (Y26 oA oS oR) [])) rfl (hb hby d8_96) (by decide) (by decide)
  obtain ⟨b1139, g1139⟩ : ∃ z, z = h0.size := ⟨_, rfl⟩
  rw [← g1139] at A1139 D1139 st1139
  have G1139 : n0 ≤ b1139 := Nat.le_trans Z0 (Nat.le_of_eq g1139.symm)
  have sz1139 : h0.size ≤ b1139 := Nat.le_trans (Keep.refl h0 [oA]).1 (Nat.le_of_eq g1139.symm)
  have ne1140 : oS ≠ b1139 := Nat.ne_of_lt (Nat.lt_of_lt_of_le ES.lt (Nat.le_of_eq g1139.symm))
  have ne1141 : yS ≠ b1139 := Nat.ne_of_lt (Nat.lt_of_lt_of_le VS.lt (Nat.le_of_eq g1139.symm))
  have ne1142 : oR ≠ b1139 := Nat.ne_of_lt (Nat.lt_of_lt_of_le ER.lt (Nat.le_of_eq g1139.symm))
  have ne1143 : yR ≠ b1139 := Nat.ne_of_lt (Nat.lt_of_lt_of_le VR.lt (Nat.le_of_eq g1139.symm))
  have ne1144 : oA ≠ b1139 := Nat.ne_of_lt (Nat.lt_of_lt_of_le EA.lt (Nat.le_of_eq g1139.symm))
  have c1145 := (Keep.refl h0 [oA]).ext E1139
  have c1146 := Ev.ext E1139
  have c1147 := ES.ext E1139
  have c1148 := FcS.ext E1139
  have c1149 := FvS.ext E1139
  have c1150 := VS.ext E1139
  have c1151 := ER.ext E1139
  have c1152 := FcR.ext E1139
  have c1153 := FvR.ext E1139
  have c1154 := VR.ext E1139
  have c1155 := EA.ext E1139
  have c1156 := FsA.ext E1139
  have c1157 := FvA.ext E1139
  have F1158 : Fc Z h1139 b1139 .null := D1139 (Or.inl (own_w hw 67 rfl)) (ty := (.array .byte)) (by decide)
  have F1159 : Fd Z h1139 b1139 (.int (0 : Int32)) := D1139 (Or.inl (own_w hw 69 rfl)) (ty := .byte) (by decide)
  have F1160 : Fe Z h1139 b1139 (.int (0 : Int32)) := D1139 (Or.inl (own_w hw 82 rfl)) (ty := .int) (by decide)
  have z1161 : n0 ≤ h1139.size := Nat.le_trans Z0 E1139.1
  obtain ⟨_, T1162, L1162, X1162, N1162, ⟨_, r1162, kc1162, rfl, -, K1162, z1162, G1162, Fv1162, Fc1162, Fn1162, V1162⟩, st1162⟩ := own_cI X1139 hx hZ hown (own_k_490 hw) (rmBj hw b1139 z1161 c1146 A1139 F1158 F1159 F1160 G1139) (W := 1) (k := 2) (n := 20) (by decide) e1139 N1138 (fun _ _ _ ⟨_, _, _, h, _⟩ => h) (Ls := (Y26 oA oS oR)) (rest := [(.ref b1139)]) hml.symm (lenOf pd_491 rfl) (Nat.le_of_eq rfl) (hb hby d8_100)
  have szr1162_z1162 : h0.size ≤ r1162 := Nat.le_trans c1145.1 z1162
  have ne1163 : oS ≠ r1162 := Nat.ne_of_lt (Nat.lt_of_lt_of_le c1147.lt z1162)
  have ne1164 : yS ≠ r1162 := Nat.ne_of_lt (Nat.lt_of_lt_of_le c1150.lt z1162)
  have ne1165 : oR ≠ r1162 := Nat.ne_of_lt (Nat.lt_of_lt_of_le c1151.lt z1162)
  have ne1166 : yR ≠ r1162 := Nat.ne_of_lt (Nat.lt_of_lt_of_le c1154.lt z1162)
  have ne1167 : oA ≠ r1162 := Nat.ne_of_lt (Nat.lt_of_lt_of_le c1155.lt z1162)
  have ne1168 : b1139 ≠ r1162 := Nat.ne_of_lt (Nat.lt_of_lt_of_le A1139.lt z1162)
  have z1169 : n0 ≤ T1162.heap.size := Nat.le_trans z1161 K1162.1
  have c1170 := c1145.trans K1162 (allS (Or.inr sz1139) all0)
  have c1171 := c1146.keep K1162 (allS G1139 all0)
  have c1172 := c1147.keep K1162
  have c1173 := c1148.keep K1162 (ninS ne1140 nin0)
  have c1174 := c1149.keep K1162 (ninS ne1140 nin0)
  have c1175 := c1150.keep K1162 (ninS ne1141 nin0)
  have c1176 := c1151.keep K1162
  have c1177 := c1152.keep K1162 (ninS ne1142 nin0)
  have c1178 := c1153.keep K1162 (ninS ne1142 nin0)
  have c1179 := c1154.keep K1162 (ninS ne1143 nin0)
  have c1180 := c1155.keep K1162
  have c1181 := c1156.keep K1162 (ninS ne1144 nin0)
  have c1182 := c1157.keep K1162 (ninS ne1144 nin0)
  have c1183 := A1139.keep K1162
  obtain ⟨_, T1187, L1187, X1187, N1187, ⟨_, rfl, -, K1187, Fv1187, Fc1187, Fn1187, V1187⟩, st1187⟩ := own_cV X1162 hx hZ hown (own_k_494 hw) (rmAq03 hw b1139 r1162 kc1162 oS yS kS x0 x1 x2 z1169 c1171 c1183 Fv1162 Fc1162 Fn1162 V1162 c1172 c1173 c1174 c1175 G1139 G1162 (Ne.symm ne1168)) (W := 0) (k := 2) (n := 20) (by decide) rfl N1162 (fun _ _ _ h => h.2.1) c1183 (Ls := (Y26 oA oS oR)) (rest := []) hml.symm (lenOf pd_495 rfl) (Nat.le_of_eq rfl) (hb hby d8_104)
  have z1188 : n0 ≤ T1187.heap.size := Nat.le_trans z1169 K1187.1
  have c1189 := c1170.trans K1187 (allS (Or.inr sz1139) (allS (Or.inr szr1162_z1162) all0))
  have c1190 := c1171.keep K1187 (allS G1139 (allS G1162 all0))
  have c1191 := c1172.keep K1187
  have c1192 := c1173.keep K1187 (ninS ne1140 (ninS ne1163 nin0))
  have c1193 := c1174.keep K1187 (ninS ne1140 (ninS ne1163 nin0))
  have c1194 := c1175.keep K1187 (ninS ne1141 (ninS ne1164 nin0))
  have c1195 := c1176.keep K1187
  have c1196 := c1177.keep K1187 (ninS ne1142 (ninS ne1165 nin0))
  have c1197 := c1178.keep K1187 (ninS ne1142 (ninS ne1165 nin0))
  have c1198 := c1179.keep K1187 (ninS ne1143 (ninS ne1166 nin0))
  have c1199 := c1180.keep K1187
  have c1200 := c1181.keep K1187 (ninS ne1144 (ninS ne1167 nin0))
  have c1201 := c1182.keep K1187 (ninS ne1144 (ninS ne1167 nin0))
  have c1202 := c1183.keep K1187
  obtain ⟨_, T1207, L1207, X1207, N1207, ⟨_, rfl, -, K1207, Fv1207, Fc1207, Fn1207, V1207⟩, st1207⟩ := own_cV X1187 hx hZ hown (own_k_494 hw) (rmAq31 hw b1139 r1162 kc1162 oR yR kR x0 x1 x2 u0 z1188 c1190 c1202 Fv1187 Fc1187 Fn1187 V1187 c1195 c1196 c1197 c1198 G1139 G1162 (Ne.symm ne1168)) (W := 0) (k := 2) (n := 20) (by decide) rfl N1187 (fun _ _ _ h => h.2.1) c1202 (Ls := (Y26 oA oS oR)) (rest := []) hml.symm (lenOf pd_495 rfl) (Nat.le_of_eq rfl) (hb hby d8_108)
  have z1208 : n0 ≤ T1207.heap.size := Nat.le_trans z1188 K1207.1
  have c1209 := c1189.trans K1207 (allS (Or.inr sz1139) (allS (Or.inr szr1162_z1162) all0))
  have c1210 := c1190.keep K1207 (allS G1139 (allS G1162 all0))
  have c1211 := c1191.keep K1207
  have c1212 := c1192.keep K1207 (ninS ne1140 (ninS ne1163 nin0))
  have c1213 := c1193.keep K1207 (ninS ne1140 (ninS ne1163 nin0))
  have c1214 := c1194.keep K1207 (ninS ne1141 (ninS ne1164 nin0))
  have c1219 := c1199.keep K1207
  have c1220 := c1200.keep K1207 (ninS ne1144 (ninS ne1167 nin0))
  have c1221 := c1201.keep K1207 (ninS ne1144 (ninS ne1167 nin0))
  have c1222 := c1202.keep K1207
  obtain ⟨_, T1227, L1227, X1227, N1227, ⟨_, r1227, yy1227, kc1227, rfl, -, K1227, z1227, G1227, E1227, Fc1227, Fv1227, V1227⟩, st1227⟩ := own_cV X1207 hx hZ hown (own_k_499 hw) (rmTs4 hw b1139 r1162 kc1162 x0 x1 x2 u0 z1208 c1210 c1222 Fv1207 Fc1207 Fn1207 V1207) (W := 0) (k := 4) (n := 28) (by decide) rfl N1207 (fun _ _ _ ⟨_, _, _, _, h, _⟩ => h) c1222 (Ls := (Y26 oA oS oR)) (rest := []) hml.symm (lenOf pd_500 rfl) (Nat.le_of_eq rfl) (hb hby d8_111)
  have z1235 : n0 ≤ T1227.heap.size := Nat.le_trans z1208 K1227.1
  have c1236 := c1209.trans K1227 all0
  have c1237 := c1210.keep K1227 all0
  have c1238 := c1211.keep K1227
  have c1239 := c1212.keep K1227 nin0
  have c1240 := c1213.keep K1227 nin0
  have c1241 := c1214.keep K1227 nin0
  have c1246 := c1219.keep K1227
  have c1247 := c1220.keep K1227 nin0
  have c1248 := c1221.keep K1227 nin0
  obtain ⟨T1254, h1254, k1254, X1254, e1254, E1254, A1254, st1254⟩ := newP X1227 hx hZ (own_w hw 153 rfl) rfl (g := (mkF m 118 (Y27 oA oS oR r1227) [(.int (128 : Int32))])) rfl (hb hby d8_118) rfl (by decide) (cap := 128) (by decide) (by decide) (by decide) (by decide)
  obtain ⟨b1254, g1254⟩ : ∃ z, z = T1227.heap.size := ⟨_, rfl⟩
  rw [← g1254] at A1254 st1254
  have G1254 : n0 ≤ b1254 := Nat.le_trans z1235 (Nat.le_of_eq g1254.symm)
  have sz1254 : h0.size ≤ b1254 := Nat.le_trans c1236.1 (Nat.le_of_eq g1254.symm)
  have ne1255 : oS ≠ b1254 := Nat.ne_of_lt (Nat.lt_of_lt_of_le c1238.lt (Nat.le_of_eq g1254.symm))
  have ne1256 : yS ≠ b1254 := Nat.ne_of_lt (Nat.lt_of_lt_of_le c1241.lt (Nat.le_of_eq g1254.symm))
  have ne1259 : oA ≠ b1254 := Nat.ne_of_lt (Nat.lt_of_lt_of_le c1246.lt (Nat.le_of_eq g1254.symm))
  have ne1260 : r1227 ≠ b1254 := Nat.ne_of_lt (Nat.lt_of_lt_of_le E1227.lt (Nat.le_of_eq g1254.symm))
  have ne1261 : yy1227 ≠ b1254 := Nat.ne_of_lt (Nat.lt_of_lt_of_le V1227.lt (Nat.le_of_eq g1254.symm))
  have c1262 := c1236.ext E1254
  have c1263 := c1237.ext E1254
  have c1264 := c1238.ext E1254
  have c1265 := c1239.ext E1254
  have c1266 := c1240.ext E1254
  have c1267 := c1241.ext E1254
  have c1272 := c1246.ext E1254
  have c1273 := c1247.ext E1254
  have c1274 := c1248.ext E1254
  have c1275 := E1227.ext E1254
  have c1276 := Fc1227.ext E1254
  have c1277 := Fv1227.ext E1254
  have c1278 := V1227.ext E1254
  have z1279 : n0 ≤ h1254.size := Nat.le_trans z1235 E1254.1
  have P1254 := own_part0 (Arv.new A1254 (by decide))
  obtain ⟨_, T1280, L1280, X1280, N1280, ⟨_, rfl, -, K1280, I1280⟩, st1280⟩ := own_cS X1254 hx hZ hown (own_k_508 hw) (rmFill hw b1254 z1279 P1254 G1254) (W := 0) (k := 5) (n := 156) (by decide) e1254 N1227 (fun _ _ _ h => h.2.1) (Ls := (Y28 oA oS oR r1227 b1254)) (rest := []) hml.symm (lenOf pd_509 rfl) (Nat.le_of_eq rfl) (hb hby d8_125)
  have z1281 : n0 ≤ T1280.heap.size := Nat.le_trans z1279 K1280.1
  have c1282 := c1262.trans K1280 (allS (Or.inr sz1254) all0)
  have c1283 := c1263.keep K1280 (allS G1254 all0)
  have c1284 := c1264.keep K1280
  have c1285 := c1265.keep K1280 (ninS ne1255 nin0)
  have c1286 := c1266.keep K1280 (ninS ne1255 nin0)
  have c1287 := c1267.keep K1280 (ninS ne1256 nin0)
  have c1292 := c1272.keep K1280
  have c1293 := c1273.keep K1280 (ninS ne1259 nin0)
  have c1294 := c1274.keep K1280 (ninS ne1259 nin0)
  have c1295 := c1275.keep K1280
  have c1296 := c1276.keep K1280 (ninS ne1260 nin0)
  have c1297 := c1277.keep K1280 (ninS ne1260 nin0)
  have c1298 := c1278.keep K1280 (ninS ne1261 nin0)
  obtain ⟨_, T1299, L1299, X1299, N1299, ⟨_, rfl, -, e1299⟩, st1299⟩ := own_cV X1280 hx hZ hown (own_k_479 hw) (rmLen4 hw r1227 yy1227 kc1227 x0 x1 x2 u0 z1281 c1283 c1295 c1296 c1297 c1298) (W := 1) (k := 5) (n := 156) (by decide) rfl N1280 (fun _ _ _ h => h.2.1) c1295 (Ls := (Y29 oA oS oR r1227 b1254 0)) (rest := [(.int (0 : Int32))]) hml.symm (lenOf pd_272 rfl) (Nat.le_of_eq rfl) (hb hby d8_134)
  obtain ⟨_, T1300, L1300, X1300, N1300, ⟨_, rfl, -, e1300⟩, st1300⟩ := own_cV X1299 hx hZ hown (own_k_519 hw) (rmCa hw r1227 yy1227 kc1227 (4 : Int32) (0 : Int32) x0 [(.int x0), (.int x1), (.int x2), (.int u0)] z1281 c1283 c1295 c1296 c1297 c1298 (by decide) (by decide) rfl hpx0) (W := 0) (k := 5) (n := 156) (by decide) e1299 N1299 (fun _ _ _ h => h.2.1) c1295 (Ls := (Y29 oA oS oR r1227 b1254 0)) (rest := []) hml.symm (lenOf pd_520 rfl) (Nat.le_of_eq rfl) (hb hby d8_143)
  obtain ⟨_, T1301, L1301, X1301, N1301, ⟨_, rfl, -, e1301⟩, st1301⟩ := own_cV X1300 hx hZ hown (own_k_479 hw) (rmLen3 hw oS yS kS x0 x1 x2 z1281 c1283 c1284 c1285 c1286 c1287) (W := 1) (k := 5) (n := 156) (by decide) e1300 N1300 (fun _ _ _ h => h.2.1) c1284 (Ls := (Y30 oA oS oR r1227 b1254 0 x0)) (rest := [(.int (0 : Int32))]) hml.symm (lenOf pd_272 rfl) (Nat.le_of_eq rfl) (hb hby d8_151)
  obtain ⟨_, T1302, L1302, X1302, N1302, ⟨_, rfl, -, e1302⟩, st1302⟩ := own_cS X1301 hx hZ hown (own_k_534 hw) (rmSep hw x0 z1281 hpx0) (W := 0) (k := 5) (n := 156) (by decide) e1301 N1301 (fun _ _ _ h => h.2.1) (Ls := (Y30 oA oS oR r1227 b1254 0 x0)) (rest := []) hml.symm (lenOf pd_535 rfl) (Nat.le_of_eq rfl) (hb hby d8_192)
  obtain ⟨cl1303, Ar1303, S1303, H1303⟩ := id I1280
  have hk1303 : ((fun _ => (-1 : Int32)) x0) = (-1 : Int32) := by simp [own_sy, own_st, own_al, hx01, hx02, hx12, hm01, hm02]
  have hat1303 : cl1303.slots[(x0).toNatClampNeg]? = some (.int ((fun _ => (-1 : Int32)) x0)) := H1303 _ hpx0.2.2.2.2.2.2.2.2.1 hpx0.2.2.2.2.2.2.2.2.2
  obtain ⟨_, T1304, L1304, X1304, N1304, ⟨_, rfl, -, e1304⟩, st1304⟩ := own_cV X1302 hx hZ hown (own_k_479 hw) (rmLen3 hw oS yS kS x0 x1 x2 z1281 c1283 c1284 c1285 c1286 c1287) (W := 3) (k := 5) (n := 156) (by decide) e1302 N1302 (fun _ _ _ h => h.2.1) c1284 (Ls := (Y30 oA oS oR r1227 b1254 0 x0)) (rest := [(.int (0 : Int32)), (.int x0), (.ref b1254)]) hml.symm (lenOf pd_272 rfl) (Nat.le_of_eq rfl) (hb hby d8_281)
  obtain ⟨cl1305, Ar1305, S1305, H1305⟩ := id I1280
  obtain ⟨T1306, h1306, X1306, e1306, W1306, st1306⟩ := stI X1304 hx hZ e1304 Ar1305 (j := x0) (own_inb S1305 hpx0.2.2.2.2.2.2.2.2.1 hpx0.2.2.2.2.2.2.2.2.2) (g := (mkF m 285 (Y30 oA oS oR r1227 b1254 0 x0) [(.int (0 : Int32)), (.int x0), (.ref b1254)])) rfl rfl (hb hby d8_285)
  have I1306 := own_ints_set Ar1305 S1305 H1305 W1306 hpx0.2.2.2.2.2.2.2.2.1 hpx0.2.2.2.2.2.2.2.2.2
  have N1306 := Fr.snoc X1306 N1304 G1254
  have z1307 : n0 ≤ h1306.size := Nat.le_trans z1281 (Keep.of_wr W1306).1
  have c1308 := c1282.wr W1306 (Or.inr sz1254)
  have c1309 := c1283.wr W1306 G1254
  have c1310 := c1284.wr W1306
  have c1311 := c1285.other W1306 (Or.inl ne1255)
  have c1312 := c1286.other W1306 (Or.inl ne1255)
  have c1313 := c1287.other W1306 ne1256
  have c1318 := c1292.wr W1306
  have c1319 := c1293.other W1306 (Or.inl ne1259)
  have c1320 := c1294.other W1306 (Or.inl ne1259)
  have c1321 := c1295.wr W1306
  have c1322 := c1296.other W1306 (Or.inl ne1260)
  have c1323 := c1297.other W1306 (Or.inl ne1260)
  have c1324 := c1298.other W1306 ne1261
  obtain ⟨_, T1325, L1325, X1325, N1325, ⟨_, rfl, -, e1325⟩, st1325⟩ := own_cV X1306 hx hZ hown (own_k_479 hw) (rmLen4 hw r1227 yy1227 kc1227 x0 x1 x2 u0 z1307 c1309 c1321 c1322 c1323 c1324) (W := 1) (k := 5) (n := 156) (by decide) e1306 N1306 (fun _ _ _ h => h.2.1) c1321 (Ls := (Y30 oA oS oR r1227 b1254 1 x0)) (rest := [(.int (1 : Int32))]) hml.symm (lenOf pd_272 rfl) (Nat.le_of_eq rfl) (hb hby d8_134)
  obtain ⟨_, T1326, L1326, X1326, N1326, ⟨_, rfl, -, e1326⟩, st1326⟩ := own_cV X1325 hx hZ hown (own_k_519 hw) (rmCa hw r1227 yy1227 kc1227 (4 : Int32) (1 : Int32) x1 [(.int x0), (.int x1), (.int x2), (.int u0)] z1307 c1309 c1321 c1322 c1323 c1324 (by decide) (by decide) rfl hpx1) (W := 0) (k := 5) (n := 156) (by decide) e1325 N1325 (fun _ _ _ h => h.2.1) c1321 (Ls := (Y30 oA oS oR r1227 b1254 1 x0)) (rest := []) hml.symm (lenOf pd_520 rfl) (Nat.le_of_eq rfl) (hb hby d8_143)
  obtain ⟨_, T1327, L1327, X1327, N1327, ⟨_, rfl, -, e1327⟩, st1327⟩ := own_cV X1326 hx hZ hown (own_k_479 hw) (rmLen3 hw oS yS kS x0 x1 x2 z1307 c1309 c1310 c1311 c1312 c1313) (W := 1) (k := 5) (n := 156) (by decide) e1326 N1326 (fun _ _ _ h => h.2.1) c1310 (Ls := (Y30 oA oS oR r1227 b1254 1 x1)) (rest := [(.int (1 : Int32))]) hml.symm (lenOf pd_272 rfl) (Nat.le_of_eq rfl) (hb hby d8_151)
  obtain ⟨_, T1328, L1328, X1328, N1328, ⟨_, rfl, -, e1328⟩, st1328⟩ := own_cS X1327 hx hZ hown (own_k_534 hw) (rmSep hw x1 z1307 hpx1) (W := 0) (k := 5) (n := 156) (by decide) e1327 N1327 (fun _ _ _ h => h.2.1) (Ls := (Y30 oA oS oR r1227 b1254 1 x1)) (rest := []) hml.symm (lenOf pd_535 rfl) (Nat.le_of_eq rfl) (hb hby d8_192)
  obtain ⟨cl1329, Ar1329, S1329, H1329⟩ := id I1306
  have hk1329 : ((own_st (fun _ => (-1 : Int32)) x0 (0 : Int32)) x1) = (-1 : Int32) := by simp [own_sy, own_st, own_al, hx01, hx02, hx12, hm01, hm02]
  have hat1329 : cl1329.slots[(x1).toNatClampNeg]? = some (.int ((own_st (fun _ => (-1 : Int32)) x0 (0 : Int32)) x1)) := H1329 _ hpx1.2.2.2.2.2.2.2.2.1 hpx1.2.2.2.2.2.2.2.2.2
  obtain ⟨_, T1330, L1330, X1330, N1330, ⟨_, rfl, -, e1330⟩, st1330⟩ := own_cV X1328 hx hZ hown (own_k_479 hw) (rmLen3 hw oS yS kS x0 x1 x2 z1307 c1309 c1310 c1311 c1312 c1313) (W := 3) (k := 5) (n := 156) (by decide) e1328 N1328 (fun _ _ _ h => h.2.1) c1310 (Ls := (Y30 oA oS oR r1227 b1254 1 x1)) (rest := [(.int (1 : Int32)), (.int x1), (.ref b1254)]) hml.symm (lenOf pd_272 rfl) (Nat.le_of_eq rfl) (hb hby d8_281)
  obtain ⟨cl1331, Ar1331, S1331, H1331⟩ := id I1306
  obtain ⟨T1332, h1332, X1332, e1332, W1332, st1332⟩ := stI X1330 hx hZ e1330 Ar1331 (j := x1) (own_inb S1331 hpx1.2.2.2.2.2.2.2.2.1 hpx1.2.2.2.2.2.2.2.2.2) (g := (mkF m 285 (Y30 oA oS oR r1227 b1254 1 x1) [(.int (1 : Int32)), (.int x1), (.ref b1254)])) rfl rfl (hb hby d8_285)
  have I1332 := own_ints_set Ar1331 S1331 H1331 W1332 hpx1.2.2.2.2.2.2.2.2.1 hpx1.2.2.2.2.2.2.2.2.2
  have N1332 := Fr.snoc X1332 N1330 G1254
  have z1333 : n0 ≤ h1332.size := Nat.le_trans z1307 (Keep.of_wr W1332).1
  have c1334 := c1308.wr W1332 (Or.inr sz1254)
  have c1335 := c1309.wr W1332 G1254
  have c1336 := c1310.wr W1332
  have c1337 := c1311.other W1332 (Or.inl ne1255)
  have c1338 := c1312.other W1332 (Or.inl ne1255)
  have c1339 := c1313.other W1332 ne1256
  have c1344 := c1318.wr W1332
  have c1345 := c1319.other W1332 (Or.inl ne1259)
  have c1346 := c1320.other W1332 (Or.inl ne1259)
  have c1347 := c1321.wr W1332
  have c1348 := c1322.other W1332 (Or.inl ne1260)
  have c1349 := c1323.other W1332 (Or.inl ne1260)
  have c1350 := c1324.other W1332 ne1261
  obtain ⟨_, T1351, L1351, X1351, N1351, ⟨_, rfl, -, e1351⟩, st1351⟩ := own_cV X1332 hx hZ hown (own_k_479 hw) (rmLen4 hw r1227 yy1227 kc1227 x0 x1 x2 u0 z1333 c1335 c1347 c1348 c1349 c1350) (W := 1) (k := 5) (n := 156) (by decide) e1332 N1332 (fun _ _ _ h => h.2.1) c1347 (Ls := (Y30 oA oS oR r1227 b1254 2 x1)) (rest := [(.int (2 : Int32))]) hml.symm (lenOf pd_272 rfl) (Nat.le_of_eq rfl) (hb hby d8_134)
  obtain ⟨_, T1352, L1352, X1352, N1352, ⟨_, rfl, -, e1352⟩, st1352⟩ := own_cV X1351 hx hZ hown (own_k_519 hw) (rmCa hw r1227 yy1227 kc1227 (4 : Int32) (2 : Int32) x2 [(.int x0), (.int x1), (.int x2), (.int u0)] z1333 c1335 c1347 c1348 c1349 c1350 (by decide) (by decide) rfl hpx2) (W := 0) (k := 5) (n := 156) (by decide) e1351 N1351 (fun _ _ _ h => h.2.1) c1347 (Ls := (Y30 oA oS oR r1227 b1254 2 x1)) (rest := []) hml.symm (lenOf pd_520 rfl) (Nat.le_of_eq rfl) (hb hby d8_143)
  obtain ⟨_, T1353, L1353, X1353, N1353, ⟨_, rfl, -, e1353⟩, st1353⟩ := own_cV X1352 hx hZ hown (own_k_479 hw) (rmLen3 hw oS yS kS x0 x1 x2 z1333 c1335 c1336 c1337 c1338 c1339) (W := 1) (k := 5) (n := 156) (by decide) e1352 N1352 (fun _ _ _ h => h.2.1) c1336 (Ls := (Y30 oA oS oR r1227 b1254 2 x2)) (rest := [(.int (2 : Int32))]) hml.symm (lenOf pd_272 rfl) (Nat.le_of_eq rfl) (hb hby d8_151)
  obtain ⟨_, T1354, L1354, X1354, N1354, ⟨_, rfl, -, e1354⟩, st1354⟩ := own_cS X1353 hx hZ hown (own_k_534 hw) (rmSep hw x2 z1333 hpx2) (W := 0) (k := 5) (n := 156) (by decide) e1353 N1353 (fun _ _ _ h => h.2.1) (Ls := (Y30 oA oS oR r1227 b1254 2 x2)) (rest := []) hml.symm (lenOf pd_535 rfl) (Nat.le_of_eq rfl) (hb hby d8_192)
  obtain ⟨cl1355, Ar1355, S1355, H1355⟩ := id I1332
  have hk1355 : ((own_st (own_st (fun _ => (-1 : Int32)) x0 (0 : Int32)) x1 (1 : Int32)) x2) = (-1 : Int32) := by simp [own_sy, own_st, own_al, hx01, hx02, hx12, hm01, hm02]
  have hat1355 : cl1355.slots[(x2).toNatClampNeg]? = some (.int ((own_st (own_st (fun _ => (-1 : Int32)) x0 (0 : Int32)) x1 (1 : Int32)) x2)) := H1355 _ hpx2.2.2.2.2.2.2.2.2.1 hpx2.2.2.2.2.2.2.2.2.2
  obtain ⟨_, T1356, L1356, X1356, N1356, ⟨_, rfl, -, e1356⟩, st1356⟩ := own_cV X1354 hx hZ hown (own_k_479 hw) (rmLen3 hw oS yS kS x0 x1 x2 z1333 c1335 c1336 c1337 c1338 c1339) (W := 3) (k := 5) (n := 156) (by decide) e1354 N1354 (fun _ _ _ h => h.2.1) c1336 (Ls := (Y30 oA oS oR r1227 b1254 2 x2)) (rest := [(.int (2 : Int32)), (.int x2), (.ref b1254)]) hml.symm (lenOf pd_272 rfl) (Nat.le_of_eq rfl) (hb hby d8_281)
  obtain ⟨cl1357, Ar1357, S1357, H1357⟩ := id I1332
  obtain ⟨T1358, h1358, X1358, e1358, W1358, st1358⟩ := stI X1356 hx hZ e1356 Ar1357 (j := x2) (own_inb S1357 hpx2.2.2.2.2.2.2.2.2.1 hpx2.2.2.2.2.2.2.2.2.2) (g := (mkF m 285 (Y30 oA oS oR r1227 b1254 2 x2) [(.int (2 : Int32)), (.int x2), (.ref b1254)])) rfl rfl (hb hby d8_285)
  have I1358 := own_ints_set Ar1357 S1357 H1357 W1358 hpx2.2.2.2.2.2.2.2.2.1 hpx2.2.2.2.2.2.2.2.2.2
  have N1358 := Fr.snoc X1358 N1356 G1254
  have z1359 : n0 ≤ h1358.size := Nat.le_trans z1333 (Keep.of_wr W1358).1
  have c1360 := c1334.wr W1358 (Or.inr sz1254)
  have c1361 := c1335.wr W1358 G1254
  have c1362 := c1336.wr W1358
  have c1363 := c1337.other W1358 (Or.inl ne1255)
  have c1364 := c1338.other W1358 (Or.inl ne1255)
  have c1365 := c1339.other W1358 ne1256
  have c1370 := c1344.wr W1358
  have c1371 := c1345.other W1358 (Or.inl ne1259)
  have c1372 := c1346.other W1358 (Or.inl ne1259)
  have c1373 := c1347.wr W1358
  have c1374 := c1348.other W1358 (Or.inl ne1260)
  have c1375 := c1349.other W1358 (Or.inl ne1260)
  have c1376 := c1350.other W1358 ne1261
  obtain ⟨_, T1377, L1377, X1377, N1377, ⟨_, rfl, -, e1377⟩, st1377⟩ := own_cV X1358 hx hZ hown (own_k_479 hw) (rmLen4 hw r1227 yy1227 kc1227 x0 x1 x2 u0 z1359 c1361 c1373 c1374 c1375 c1376) (W := 1) (k := 5) (n := 156) (by decide) e1358 N1358 (fun _ _ _ h => h.2.1) c1373 (Ls := (Y30 oA oS oR r1227 b1254 3 x2)) (rest := [(.int (3 : Int32))]) hml.symm (lenOf pd_272 rfl) (Nat.le_of_eq rfl) (hb hby d8_134)
  obtain ⟨_, T1378, L1378, X1378, N1378, ⟨_, rfl, -, e1378⟩, st1378⟩ := own_cV X1377 hx hZ hown (own_k_519 hw) (rmCa hw r1227 yy1227 kc1227 (4 : Int32) (3 : Int32) u0 [(.int x0), (.int x1), (.int x2), (.int u0)] z1359 c1361 c1373 c1374 c1375 c1376 (by decide) (by decide) rfl hpu0) (W := 0) (k := 5) (n := 156) (by decide) e1377 N1377 (fun _ _ _ h => h.2.1) c1373 (Ls := (Y30 oA oS oR r1227 b1254 3 x2)) (rest := []) hml.symm (lenOf pd_520 rfl) (Nat.le_of_eq rfl) (hb hby d8_143)
  obtain ⟨_, T1379, L1379, X1379, N1379, ⟨_, rfl, -, e1379⟩, st1379⟩ := own_cV X1378 hx hZ hown (own_k_479 hw) (rmLen3 hw oS yS kS x0 x1 x2 z1359 c1361 c1362 c1363 c1364 c1365) (W := 1) (k := 5) (n := 156) (by decide) e1378 N1378 (fun _ _ _ h => h.2.1) c1362 (Ls := (Y30 oA oS oR r1227 b1254 3 u0)) (rest := [(.int (3 : Int32))]) hml.symm (lenOf pd_272 rfl) (Nat.le_of_eq rfl) (hb hby d8_151)
  obtain ⟨_, T1380, L1380, X1380, N1380, ⟨_, rfl, -, e1380⟩, st1380⟩ := own_cV X1379 hx hZ hown (own_k_479 hw) (rmLen3 hw oS yS kS x0 x1 x2 z1359 c1361 c1362 c1363 c1364 c1365) (W := 3) (k := 5) (n := 156) (by decide) e1379 N1379 (fun _ _ _ h => h.2.1) c1362 (Ls := (Y30 oA oS oR r1227 b1254 3 u0)) (rest := [(.int (3 : Int32)), (.ref oS), (.int u0)]) hml.symm (lenOf pd_272 rfl) (Nat.le_of_eq rfl) (hb hby d8_163)
  obtain ⟨_, T1381, L1381, X1381, N1381, ⟨_, rfl, -, e1381⟩, st1381⟩ := own_cV X1380 hx hZ hown (own_k_519 hw) (rmCa hw oS yS kS (3 : Int32) (0 : Int32) x0 [(.int x0), (.int x1), (.int x2)] z1359 c1361 c1362 c1363 c1364 c1365 (by decide) (by decide) rfl hpx0) (W := 1) (k := 5) (n := 156) (by decide) e1380 N1380 (fun _ _ _ h => h.2.1) c1362 (Ls := (Y30 oA oS oR r1227 b1254 3 u0)) (rest := [(.int u0)]) hml.symm (lenOf pd_520 rfl) (Nat.le_of_eq rfl) (hb hby d8_167)
  have pre1382 : PQ p e below T1381 (mkF m 170 (Y30 oA oS oR r1227 b1254 3 u0) [(.int x0), (.int u0)]) bs := fun t kt => pre0 t (by
    refine XS.aloadN X0.here hx rfl (hb hby d8_0) rfl rfl ?_
    refine st1135 _ ?_
    refine XS.aloadN X1135.here hx rfl (hb hby d8_4) rfl rfl ?_
    refine st1136.trans ?_
    refine XS.iconst X1136.here hx rfl (hb hby d8_8) ?_
    refine XS.icmpYes X1136.here hx rfl (pc0 := 9) (pc' := 44) rfl (hb hby d8_9) rfl (flt (by decide : ¬ ((3 : Int32) < (2 : Int32)))).2.1 (by decide) (by decide) ?_
    refine XS.aloadN X1136.here hx rfl (hb hby d8_44) rfl rfl ?_
    refine st1137.trans ?_
    refine XS.aloadN X1137.here hx rfl (hb hby d8_48) rfl rfl ?_
    refine st1138.trans ?_
    refine XS.icmpYes X1138.here hx rfl (pc0 := 52) (pc' := 96) rfl (hb hby d8_52) rfl (flt (by decide : ¬ ((3 : Int32) < (1 : Int32)))).2.2.2 (by decide) (by decide) ?_
    refine st1139 _ ?_
    refine XS.dup X1139.here hx rfl (hb hby d8_99) rfl rfl ?_
    refine st1162.trans ?_
    refine XS.aloadN X1162.here hx rfl (hb hby d8_103) rfl rfl ?_
    refine st1187.trans ?_
    refine XS.aloadN X1187.here hx rfl (hb hby d8_107) rfl rfl ?_
    refine st1207.trans ?_
    refine st1227.trans ?_
    refine XS.astoreN X1227.here hx rfl (hb hby d8_114) rfl rfl (l' := (Y27 oA oS oR r1227)) rfl ?_
    refine XS.sipush X1227.here hx rfl (hb hby d8_115) ?_
    refine st1254 _ ?_
    refine XS.astore X1254.here hx rfl (hb hby d8_120) rfl rfl (l' := (Y28 oA oS oR r1227 b1254)) rfl ?_
    refine XS.aload X1254.here hx rfl (hb hby d8_122) rfl rfl ?_
    refine XS.iconst X1254.here hx rfl (hb hby d8_124) ?_
    refine st1280.trans ?_
    refine XS.iconst X1280.here hx rfl (hb hby d8_128) ?_
    refine XS.istore X1280.here hx rfl (hb hby d8_129) rfl (l' := (Y29 oA oS oR r1227 b1254 0)) rfl ?_
    refine XS.iload X1280.here hx rfl (hb hby d8_131) rfl ?_
    refine XS.aloadN X1280.here hx rfl (hb hby d8_133) rfl rfl ?_
    refine st1299.trans ?_
    refine XS.icmpNo X1299.here hx rfl (hb hby d8_137) rfl (tlt (by decide : (0 : Int32) < (4 : Int32))).2.1 ?_
    refine XS.aloadN X1299.here hx rfl (hb hby d8_140) rfl rfl ?_
    refine XS.iload X1299.here hx rfl (hb hby d8_141) rfl ?_
    refine st1300.trans ?_
    refine XS.istore X1300.here hx rfl (hb hby d8_146) rfl (l' := (Y30 oA oS oR r1227 b1254 0 x0)) rfl ?_
    refine XS.iload X1300.here hx rfl (hb hby d8_148) rfl ?_
    refine XS.aloadN X1300.here hx rfl (hb hby d8_150) rfl rfl ?_
    refine st1301.trans ?_
    refine XS.icmpYes X1301.here hx rfl (pc0 := 154) (pc' := 176) rfl (hb hby d8_154) rfl (tlt (by decide : (0 : Int32) < (3 : Int32))).1 (by decide) (by decide) ?_
    refine XS.iload X1301.here hx rfl (hb hby d8_176) rfl ?_
    refine XS.bipush X1301.here hx rfl (hb hby d8_178) ?_
    refine XS.icmpNo X1301.here hx rfl (hb hby d8_180) rfl (flt hpx0.2.2.2.2.1).1 ?_
    refine XS.iload X1301.here hx rfl (hb hby d8_183) rfl ?_
    refine XS.bipush X1301.here hx rfl (hb hby d8_185) ?_
    refine XS.icmpNo X1301.here hx rfl (hb hby d8_187) rfl (flt hpx0.2.2.2.2.2.1).2.2.1 ?_
    refine XS.iload X1301.here hx rfl (hb hby d8_190) rfl ?_
    refine st1302.trans ?_
    refine XS.ifYes X1302.here hx rfl (pc0 := 195) (pc' := 223) rfl (hb hby d8_195) rfl ((if0 _ _).trans (teq (by decide : (0 : Int32) = (0 : Int32))).1) (by decide) (by decide) ?_
    refine XS.aload X1302.here hx rfl (hb hby d8_223) rfl rfl ?_
    refine XS.iload X1302.here hx rfl (hb hby d8_225) rfl ?_
    refine X1302.iaload hx (j := x0) (v := (.int ((fun _ => (-1 : Int32)) x0))) (by rw [e1302]; exact Ar1303.1) (State.isArrayOf_alike hZ.alike Ar1303.2.1) Ar1303.2.2 (own_inb S1303 hpx0.2.2.2.2.2.2.2.2.1 hpx0.2.2.2.2.2.2.2.2.2) hat1303 (g := (mkF m 227 (Y30 oA oS oR r1227 b1254 0 x0) [(.int x0), (.ref b1254)])) rfl rfl (hb hby d8_227) _ ?_
    refine XS.iconst X1302.here hx rfl (hb hby d8_228) ?_
    refine XS.icmpYes X1302.here hx rfl (pc0 := 229) (pc' := 274) rfl (hb hby d8_229) rfl (teq hk1303).1 (by decide) (by decide) ?_
    refine XS.aload X1302.here hx rfl (hb hby d8_274) rfl rfl ?_
    refine XS.iload X1302.here hx rfl (hb hby d8_276) rfl ?_
    refine XS.iload X1302.here hx rfl (hb hby d8_278) rfl ?_
    refine XS.aloadN X1302.here hx rfl (hb hby d8_280) rfl rfl ?_
    refine st1304.trans ?_
    refine XS.irem X1304.here hx rfl (hb hby d8_284) rfl (by decide) ?_
    refine st1306 _ ?_
    refine XS.iinc X1306.here hx rfl (hb hby d8_286) rfl (l' := (Y30 oA oS oR r1227 b1254 1 x0)) rfl ?_
    refine XS.goto X1306.here hx rfl (pc0 := 289) (pc' := 131) rfl (hb hby d8_289) (by decide) (by decide) ?_
    refine XS.iload X1306.here hx rfl (hb hby d8_131) rfl ?_
    refine XS.aloadN X1306.here hx rfl (hb hby d8_133) rfl rfl ?_
    refine st1325.trans ?_
    refine XS.icmpNo X1325.here hx rfl (hb hby d8_137) rfl (tlt (by decide : (1 : Int32) < (4 : Int32))).2.1 ?_
    refine XS.aloadN X1325.here hx rfl (hb hby d8_140) rfl rfl ?_
    refine XS.iload X1325.here hx rfl (hb hby d8_141) rfl ?_
    refine st1326.trans ?_
    refine XS.istore X1326.here hx rfl (hb hby d8_146) rfl (l' := (Y30 oA oS oR r1227 b1254 1 x1)) rfl ?_
    refine XS.iload X1326.here hx rfl (hb hby d8_148) rfl ?_
    refine XS.aloadN X1326.here hx rfl (hb hby d8_150) rfl rfl ?_
    refine st1327.trans ?_
    refine XS.icmpYes X1327.here hx rfl (pc0 := 154) (pc' := 176) rfl (hb hby d8_154) rfl (tlt (by decide : (1 : Int32) < (3 : Int32))).1 (by decide) (by decide) ?_
    refine XS.iload X1327.here hx rfl (hb hby d8_176) rfl ?_
    refine XS.bipush X1327.here hx rfl (hb hby d8_178) ?_
    refine XS.icmpNo X1327.here hx rfl (hb hby d8_180) rfl (flt hpx1.2.2.2.2.1).1 ?_
    refine XS.iload X1327.here hx rfl (hb hby d8_183) rfl ?_
    refine XS.bipush X1327.here hx rfl (hb hby d8_185) ?_
    refine XS.icmpNo X1327.here hx rfl (hb hby d8_187) rfl (flt hpx1.2.2.2.2.2.1).2.2.1 ?_
    refine XS.iload X1327.here hx rfl (hb hby d8_190) rfl ?_
    refine st1328.trans ?_
    refine XS.ifYes X1328.here hx rfl (pc0 := 195) (pc' := 223) rfl (hb hby d8_195) rfl ((if0 _ _).trans (teq (by decide : (0 : Int32) = (0 : Int32))).1) (by decide) (by decide) ?_
    refine XS.aload X1328.here hx rfl (hb hby d8_223) rfl rfl ?_
    refine XS.iload X1328.here hx rfl (hb hby d8_225) rfl ?_
    refine X1328.iaload hx (j := x1) (v := (.int ((own_st (fun _ => (-1 : Int32)) x0 (0 : Int32)) x1))) (by rw [e1328]; exact Ar1329.1) (State.isArrayOf_alike hZ.alike Ar1329.2.1) Ar1329.2.2 (own_inb S1329 hpx1.2.2.2.2.2.2.2.2.1 hpx1.2.2.2.2.2.2.2.2.2) hat1329 (g := (mkF m 227 (Y30 oA oS oR r1227 b1254 1 x1) [(.int x1), (.ref b1254)])) rfl rfl (hb hby d8_227) _ ?_
    refine XS.iconst X1328.here hx rfl (hb hby d8_228) ?_
    refine XS.icmpYes X1328.here hx rfl (pc0 := 229) (pc' := 274) rfl (hb hby d8_229) rfl (teq hk1329).1 (by decide) (by decide) ?_
    refine XS.aload X1328.here hx rfl (hb hby d8_274) rfl rfl ?_
    refine XS.iload X1328.here hx rfl (hb hby d8_276) rfl ?_
    refine XS.iload X1328.here hx rfl (hb hby d8_278) rfl ?_
    refine XS.aloadN X1328.here hx rfl (hb hby d8_280) rfl rfl ?_
    refine st1330.trans ?_
    refine XS.irem X1330.here hx rfl (hb hby d8_284) rfl (by decide) ?_
    refine st1332 _ ?_
    refine XS.iinc X1332.here hx rfl (hb hby d8_286) rfl (l' := (Y30 oA oS oR r1227 b1254 2 x1)) rfl ?_
    refine XS.goto X1332.here hx rfl (pc0 := 289) (pc' := 131) rfl (hb hby d8_289) (by decide) (by decide) ?_
    refine XS.iload X1332.here hx rfl (hb hby d8_131) rfl ?_
    refine XS.aloadN X1332.here hx rfl (hb hby d8_133) rfl rfl ?_
    refine st1351.trans ?_
    refine XS.icmpNo X1351.here hx rfl (hb hby d8_137) rfl (tlt (by decide : (2 : Int32) < (4 : Int32))).2.1 ?_
    refine XS.aloadN X1351.here hx rfl (hb hby d8_140) rfl rfl ?_
    refine XS.iload X1351.here hx rfl (hb hby d8_141) rfl ?_
    refine st1352.trans ?_
    refine XS.istore X1352.here hx rfl (hb hby d8_146) rfl (l' := (Y30 oA oS oR r1227 b1254 2 x2)) rfl ?_
    refine XS.iload X1352.here hx rfl (hb hby d8_148) rfl ?_
    refine XS.aloadN X1352.here hx rfl (hb hby d8_150) rfl rfl ?_
    refine st1353.trans ?_
    refine XS.icmpYes X1353.here hx rfl (pc0 := 154) (pc' := 176) rfl (hb hby d8_154) rfl (tlt (by decide : (2 : Int32) < (3 : Int32))).1 (by decide) (by decide) ?_
    refine XS.iload X1353.here hx rfl (hb hby d8_176) rfl ?_
    refine XS.bipush X1353.here hx rfl (hb hby d8_178) ?_
    refine XS.icmpNo X1353.here hx rfl (hb hby d8_180) rfl (flt hpx2.2.2.2.2.1).1 ?_
    refine XS.iload X1353.here hx rfl (hb hby d8_183) rfl ?_
    refine XS.bipush X1353.here hx rfl (hb hby d8_185) ?_
    refine XS.icmpNo X1353.here hx rfl (hb hby d8_187) rfl (flt hpx2.2.2.2.2.2.1).2.2.1 ?_
    refine XS.iload X1353.here hx rfl (hb hby d8_190) rfl ?_
    refine st1354.trans ?_
    refine XS.ifYes X1354.here hx rfl (pc0 := 195) (pc' := 223) rfl (hb hby d8_195) rfl ((if0 _ _).trans (teq (by decide : (0 : Int32) = (0 : Int32))).1) (by decide) (by decide) ?_
    refine XS.aload X1354.here hx rfl (hb hby d8_223) rfl rfl ?_
    refine XS.iload X1354.here hx rfl (hb hby d8_225) rfl ?_
    refine X1354.iaload hx (j := x2) (v := (.int ((own_st (own_st (fun _ => (-1 : Int32)) x0 (0 : Int32)) x1 (1 : Int32)) x2))) (by rw [e1354]; exact Ar1355.1) (State.isArrayOf_alike hZ.alike Ar1355.2.1) Ar1355.2.2 (own_inb S1355 hpx2.2.2.2.2.2.2.2.2.1 hpx2.2.2.2.2.2.2.2.2.2) hat1355 (g := (mkF m 227 (Y30 oA oS oR r1227 b1254 2 x2) [(.int x2), (.ref b1254)])) rfl rfl (hb hby d8_227) _ ?_
    refine XS.iconst X1354.here hx rfl (hb hby d8_228) ?_
    refine XS.icmpYes X1354.here hx rfl (pc0 := 229) (pc' := 274) rfl (hb hby d8_229) rfl (teq hk1355).1 (by decide) (by decide) ?_
    refine XS.aload X1354.here hx rfl (hb hby d8_274) rfl rfl ?_
    refine XS.iload X1354.here hx rfl (hb hby d8_276) rfl ?_
    refine XS.iload X1354.here hx rfl (hb hby d8_278) rfl ?_
    refine XS.aloadN X1354.here hx rfl (hb hby d8_280) rfl rfl ?_
    refine st1356.trans ?_
    refine XS.irem X1356.here hx rfl (hb hby d8_284) rfl (by decide) ?_
    refine st1358 _ ?_
    refine XS.iinc X1358.here hx rfl (hb hby d8_286) rfl (l' := (Y30 oA oS oR r1227 b1254 3 x2)) rfl ?_
    refine XS.goto X1358.here hx rfl (pc0 := 289) (pc' := 131) rfl (hb hby d8_289) (by decide) (by decide) ?_
    refine XS.iload X1358.here hx rfl (hb hby d8_131) rfl ?_
    refine XS.aloadN X1358.here hx rfl (hb hby d8_133) rfl rfl ?_
    refine st1377.trans ?_
    refine XS.icmpNo X1377.here hx rfl (hb hby d8_137) rfl (tlt (by decide : (3 : Int32) < (4 : Int32))).2.1 ?_
    refine XS.aloadN X1377.here hx rfl (hb hby d8_140) rfl rfl ?_
    refine XS.iload X1377.here hx rfl (hb hby d8_141) rfl ?_
    refine st1378.trans ?_
    refine XS.istore X1378.here hx rfl (hb hby d8_146) rfl (l' := (Y30 oA oS oR r1227 b1254 3 u0)) rfl ?_
    refine XS.iload X1378.here hx rfl (hb hby d8_148) rfl ?_
    refine XS.aloadN X1378.here hx rfl (hb hby d8_150) rfl rfl ?_
    refine st1379.trans ?_
    refine XS.icmpNo X1379.here hx rfl (hb hby d8_154) rfl (flt (by decide : ¬ ((3 : Int32) < (3 : Int32)))).1 ?_
    refine XS.iload X1379.here hx rfl (hb hby d8_157) rfl ?_
    refine XS.aloadN X1379.here hx rfl (hb hby d8_159) rfl rfl ?_
    refine XS.iload X1379.here hx rfl (hb hby d8_160) rfl ?_
    refine XS.aloadN X1379.here hx rfl (hb hby d8_162) rfl rfl ?_
    refine st1380.trans ?_
    refine XS.isub X1380.here hx rfl (hb hby d8_166) rfl ?_
    refine st1381.trans ?_
    exact kt)
  obtain ⟨T1409, L1409, X1409, N1409, hP1409, pre1409⟩ : ∃ (T' : State) (locs' : List Loc), Stand p l e (⟨6, 5, 156, 91⟩ : Room) s m #[(.ref oA), (.ref oS), (.ref oR)] below meth c T' locs' 5 156 ∧ Fr n0 locs' ∧ (Keep h1358 T'.heap [b1254] ∧ Ints Z T'.heap b1254 (own_al (own_sy x0 x1 x2) u0 x0 (0 : Int32))) ∧ PQ p e below T' (mkF m 286 (Y30 oA oS oR r1227 b1254 3 u0) []) bs := by
    by_cases hc1383 : u0 = x0
    case pos =>
      have pre1384 : PQ p e below T1381 (mkF m 286 (Y30 oA oS oR r1227 b1254 3 u0) []) bs := fun t kt => pre1382 t (by
        refine XS.icmpNo X1381.here hx rfl (hb hby d8_170) rfl (teq hc1383).2 ?_
        refine XS.goto X1381.here hx rfl (pc0 := 173) (pc' := 286) rfl (hb hby d8_173) (by decide) (by decide) ?_
        exact kt)
      exact ⟨T1381, _, own_more X1381 (by decide) (by decide), N1381, (by rw [e1381]; exact (⟨Keep.refl h1358 [b1254], by rw [← own_al1 hc1383]; exact I1358⟩ : Keep h1358 h1358 [b1254] ∧ Ints Z h1358 b1254 (own_al (own_sy x0 x1 x2) u0 x0 (0 : Int32)))), pre1384⟩
    case neg =>
      obtain ⟨_, T1385, L1385, X1385, N1385, ⟨_, rfl, -, e1385⟩, st1385⟩ := own_cS X1381 hx hZ hown (own_k_534 hw) (rmSep hw u0 z1359 hpu0) (W := 0) (k := 5) (n := 156) (by decide) e1381 N1381 (fun _ _ _ h => h.2.1) (Ls := (Y30 oA oS oR r1227 b1254 3 u0)) (rest := []) hml.symm (lenOf pd_535 rfl) (Nat.le_of_eq rfl) (hb hby d8_192)
      obtain ⟨cl1386, Ar1386, S1386, H1386⟩ := id I1358
      have hk1386 : ((own_sy x0 x1 x2) u0) = (-1 : Int32) := by simp [own_sy, own_st, own_al, hx01, hx02, hx12, hm01, hm02, hc1383]
      have hat1386 : cl1386.slots[(u0).toNatClampNeg]? = some (.int ((own_sy x0 x1 x2) u0)) := H1386 _ hpu0.2.2.2.2.2.2.2.2.1 hpu0.2.2.2.2.2.2.2.2.2
      obtain ⟨_, T1387, L1387, X1387, N1387, ⟨_, rfl, -, e1387⟩, st1387⟩ := own_cV X1385 hx hZ hown (own_k_479 hw) (rmLen3 hw oS yS kS x0 x1 x2 z1359 c1361 c1362 c1363 c1364 c1365) (W := 3) (k := 5) (n := 156) (by decide) e1385 N1385 (fun _ _ _ h => h.2.1) c1362 (Ls := (Y30 oA oS oR r1227 b1254 3 u0)) (rest := [(.int (3 : Int32)), (.int u0), (.ref b1254)]) hml.symm (lenOf pd_272 rfl) (Nat.le_of_eq rfl) (hb hby d8_281)
      obtain ⟨cl1388, Ar1388, S1388, H1388⟩ := id I1358
      obtain ⟨T1389, h1389, X1389, e1389, W1389, st1389⟩ := stI X1387 hx hZ e1387 Ar1388 (j := u0) (own_inb S1388 hpu0.2.2.2.2.2.2.2.2.1 hpu0.2.2.2.2.2.2.2.2.2) (g := (mkF m 285 (Y30 oA oS oR r1227 b1254 3 u0) [(.int (0 : Int32)), (.int u0), (.ref b1254)])) rfl rfl (hb hby d8_285)
      have I1389 := own_ints_set Ar1388 S1388 H1388 W1389 hpu0.2.2.2.2.2.2.2.2.1 hpu0.2.2.2.2.2.2.2.2.2
      have N1389 := Fr.snoc X1389 N1387 G1254
      have pre1408 : PQ p e below T1389 (mkF m 286 (Y30 oA oS oR r1227 b1254 3 u0) []) bs := fun t kt => pre1382 t (by
        refine XS.icmpYes X1381.here hx rfl (pc0 := 170) (pc' := 176) rfl (hb hby d8_170) rfl (feq hc1383).2 (by decide) (by decide) ?_
        refine XS.iload X1381.here hx rfl (hb hby d8_176) rfl ?_
        refine XS.bipush X1381.here hx rfl (hb hby d8_178) ?_
        refine XS.icmpNo X1381.here hx rfl (hb hby d8_180) rfl (flt hpu0.2.2.2.2.1).1 ?_
        refine XS.iload X1381.here hx rfl (hb hby d8_183) rfl ?_
        refine XS.bipush X1381.here hx rfl (hb hby d8_185) ?_
        refine XS.icmpNo X1381.here hx rfl (hb hby d8_187) rfl (flt hpu0.2.2.2.2.2.1).2.2.1 ?_
        refine XS.iload X1381.here hx rfl (hb hby d8_190) rfl ?_
        refine st1385.trans ?_
        refine XS.ifYes X1385.here hx rfl (pc0 := 195) (pc' := 223) rfl (hb hby d8_195) rfl ((if0 _ _).trans (teq (by decide : (0 : Int32) = (0 : Int32))).1) (by decide) (by decide) ?_
        refine XS.aload X1385.here hx rfl (hb hby d8_223) rfl rfl ?_
        refine XS.iload X1385.here hx rfl (hb hby d8_225) rfl ?_
        refine X1385.iaload hx (j := u0) (v := (.int ((own_sy x0 x1 x2) u0))) (by rw [e1385]; exact Ar1386.1) (State.isArrayOf_alike hZ.alike Ar1386.2.1) Ar1386.2.2 (own_inb S1386 hpu0.2.2.2.2.2.2.2.2.1 hpu0.2.2.2.2.2.2.2.2.2) hat1386 (g := (mkF m 227 (Y30 oA oS oR r1227 b1254 3 u0) [(.int u0), (.ref b1254)])) rfl rfl (hb hby d8_227) _ ?_
        refine XS.iconst X1385.here hx rfl (hb hby d8_228) ?_
        refine XS.icmpYes X1385.here hx rfl (pc0 := 229) (pc' := 274) rfl (hb hby d8_229) rfl (teq hk1386).1 (by decide) (by decide) ?_
        refine XS.aload X1385.here hx rfl (hb hby d8_274) rfl rfl ?_
        refine XS.iload X1385.here hx rfl (hb hby d8_276) rfl ?_
        refine XS.iload X1385.here hx rfl (hb hby d8_278) rfl ?_
        refine XS.aloadN X1385.here hx rfl (hb hby d8_280) rfl rfl ?_
        refine st1387.trans ?_
        refine XS.irem X1387.here hx rfl (hb hby d8_284) rfl (by decide) ?_
        refine st1389 _ ?_
        exact kt)
      exact ⟨T1389, _, own_more X1389 (by decide) (by decide), N1389, (by rw [e1389]; exact (⟨Keep.of_wr W1389, by rw [← own_al0 hc1383]; exact I1389⟩ : Keep h1358 h1389 [b1254] ∧ Ints Z h1389 b1254 (own_al (own_sy x0 x1 x2) u0 x0 (0 : Int32)))), pre1408⟩
  obtain ⟨K1409, I1409⟩ := hP1409
  have z1410 : n0 ≤ T1409.heap.size := Nat.le_trans z1359 K1409.1
  have c1411 := c1360.trans K1409 (allS (Or.inr sz1254) all0)
  have c1412 := c1361.keep K1409 (allS G1254 all0)
  have c1421 := c1370.keep K1409
  have c1422 := c1371.keep K1409 (ninS ne1259 nin0)
  have c1423 := c1372.keep K1409 (ninS ne1259 nin0)
  have c1424 := c1373.keep K1409
  have c1425 := c1374.keep K1409 (ninS ne1260 nin0)
  have c1426 := c1375.keep K1409 (ninS ne1260 nin0)
  have c1427 := c1376.keep K1409 (ninS ne1261 nin0)
  obtain ⟨_, T1428, L1428, X1428, N1428, ⟨_, rfl, -, e1428⟩, st1428⟩ := own_cV X1409 hx hZ hown (own_k_479 hw) (rmLen4 hw r1227 yy1227 kc1227 x0 x1 x2 u0 z1410 c1412 c1424 c1425 c1426 c1427) (W := 1) (k := 5) (n := 156) (by decide) rfl N1409 (fun _ _ _ h => h.2.1) c1424 (Ls := (Y30 oA oS oR r1227 b1254 4 u0)) (rest := [(.int (4 : Int32))]) hml.symm (lenOf pd_272 rfl) (Nat.le_of_eq rfl) (hb hby d8_134)
  obtain ⟨T1429, h1429, X1429, e1429, W1429, st1429⟩ := putF X1428 hx hZ hown (host := "") (Or.inl (own_w hw 182 rfl)) Via.refl e1428 c1422 c1421 (Or.inr ⟨(own_w hw 183 rfl), rfl, hnm⟩) (own_w hw 36 rfl) (ty := (.object "java/lang/String")) (by decide) rfl rfl (g := (mkF m 294 (Y30 oA oS oR r1227 b1254 4 u0) [(.ref oS), (.ref oA)])) rfl rfl (hb hby d8_294)
  have N1429 := Fr.snoc X1429 N1428 GA
  have c1431 := c1411.wr W1429 (Or.inl (List.mem_of_getElem? (i := 0) rfl))
  have c1433 := c1421.wr W1429
  have c1435 := c1423.other W1429 (Or.inr (own_sn_554 hw))
  have I1436 := I1409.other W1429 (Ne.symm ne1259)
  obtain ⟨T1437, h1437, X1437, e1437, W1437, st1437⟩ := putF X1429 hx hZ hown (host := "") (Or.inl (own_w hw 184 rfl)) Via.refl e1429 c1435 c1433 (Or.inr ⟨(own_w hw 185 rfl), rfl, hnm⟩) (own_w hw 36 rfl) (ty := (.array .int)) (by decide) rfl rfl (g := (mkF m 300 (Y30 oA oS oR r1227 b1254 4 u0) [(.ref b1254), (.ref oA)])) rfl rfl (hb hby d8_300)
  have Fw1437 := c1435.same W1437
  have N1437 := Fr.snoc X1437 N1429 GA
  have c1439 := c1431.wr W1437 (Or.inl (List.mem_of_getElem? (i := 0) rfl))
  have I1444 := I1436.other W1437 (Ne.symm ne1259)
  have pre1445 : PQ p e below T1437 (mkF m 303 (Y30 oA oS oR r1227 b1254 4 u0) []) bs := fun t kt => pre1409 t (by
    refine XS.iinc X1409.here hx rfl (hb hby d8_286) rfl (l' := (Y30 oA oS oR r1227 b1254 4 u0)) rfl ?_
    refine XS.goto X1409.here hx rfl (pc0 := 289) (pc' := 131) rfl (hb hby d8_289) (by decide) (by decide) ?_
    refine XS.iload X1409.here hx rfl (hb hby d8_131) rfl ?_
    refine XS.aloadN X1409.here hx rfl (hb hby d8_133) rfl rfl ?_
    refine st1428.trans ?_
    refine XS.icmpYes X1428.here hx rfl (pc0 := 137) (pc' := 292) rfl (hb hby d8_137) rfl (flt (by decide : ¬ ((4 : Int32) < (4 : Int32)))).2.1 (by decide) (by decide) ?_
    refine XS.aloadN X1428.here hx rfl (hb hby d8_292) rfl rfl ?_
    refine XS.aloadN X1428.here hx rfl (hb hby d8_293) rfl rfl ?_
    refine st1429 _ ?_
    refine XS.aloadN X1429.here hx rfl (hb hby d8_297) rfl rfl ?_
    refine XS.aload X1429.here hx rfl (hb hby d8_298) rfl rfl ?_
    refine st1437 _ ?_
    exact kt)
  have hQ : QAl1 Z oA x0 x1 x2 u0 h0 n0 none h1437 _ := ⟨b1254, rfl, N1437, c1439, Fw1437, I1444⟩
  exact own_retV X1437 hx hlk hrt (hb hby d8_303) pre1445 (show QAl1 Z oA x0 x1 x2 u0 h0 n0 _ _ _ from (by rw [e1437]; exact hQ)) (by decide) (by decide)
def QAl2 (Z : State) (oA : Addr) (x0 x1 x2 : Int32) (u0 u1 : Int32) (h0 : Heap) (n0 : Nat) (v : Option Value) (h : Heap) (L : List Loc) : Prop := ∃ (r : Addr), v = none ∧ Fr n0 L ∧ Keep h0 h [oA] ∧ Ff Z h oA (.ref r) ∧ Ints Z h r (own_al (own_al (own_sy x0 x1 x2) u0 x0 (0 : Int32)) u1 x1 (1 : Int32))
set_option maxRecDepth 65536 in
set_option maxHeartbeats 40000000 in
theorem rmAl2 {l : Launch} {Z : State} {a0 : Array Value} (hw : Hw a0 Z) {ws : List Jvm.Cond} (oA : Addr) (oS yS : Addr) (kS : ClassId) (oR yR : Addr) (kR : ClassId) (x0 x1 x2 : Int32) (u0 u1 : Int32) {h0 : Heap} {n0 : Nat} (Z0 : n0 ≤ h0.size) {cs : Int32} {fv : Value} (Ev : Ev0 Z n0 h0 cs fv) (EA : Exa Z h0 oA "com/example/digitwarden/digitwarden/model/Alphabet") (FsA : Fg Z h0 oA .null) (FvA : Ff Z h0 oA .null) (GA : n0 ≤ oA) (ES : Exa Z h0 oS "java/lang/String") (FcS : Fa Z h0 oS (.int (0 : Int32))) (FvS : Fb Z h0 oS (.ref yS)) (VS : Arv Z h0 yS kS .byte (3 : Int32) [(.int x0), (.int x1), (.int x2)] (.int (0 : Int32))) (ER : Exa Z h0 oR "java/lang/String") (FcR : Fa Z h0 oR (.int (0 : Int32))) (FvR : Fb Z h0 oR (.ref yR)) (VR : Arv Z h0 yR kR .byte (2 : Int32) [(.int u0), (.int u1)] (.int (0 : Int32))) (hpx0 : Pr x0) (hpx1 : Pr x1) (hpx2 : Pr x2) (hpu0 : Pr u0) (hpu1 : Pr u1) (hx01 : ¬ x1 = x0) (hx02 : ¬ x2 = x0) (hx12 : ¬ x2 = x1) (hu01 : ¬ u1 = u0) (hm01 : ¬ u0 = x1) (hm02 : ¬ u0 = x2) (hm10 : ¬ u1 = x0) (hm12 : ¬ u1 = x2) (hn1 : oS ≠ oA) (hn2 : yS ≠ oA) (hn3 : oR ≠ oA) (hn4 : yR ≠ oA) : MF l Z own_y_473 prog_8_method_2_code 7 none ws (⟨6, 5, 157, 91⟩ : Room) #[(.ref oA), (.ref oS), (.ref oR)] h0 (QAl2 Z oA x0 x1 x2 u0 u1 h0 n0) := by
  refine own_en (plainFor_of_name pn_452) (fun m => ef_474 m oA oS oR) fun p e s m below meth c s₁ bs hx hby hml hZ hown hnm X0 e0 hlk hrt pre0 => ?_
  have N0 := Fr.nil n0
  obtain ⟨T1446, X1446, e1446, st1446⟩ := initO X0 hx hZ hown (own_w hw 41 rfl) (own_w hw 17 rfl) (own_w hw 18 rfl) e0 (g := (mkF m 1 (Y26 oA oS oR) [(.ref oA)])) rfl (by rw [hml]; rfl) rfl (hb hby d8_1) (by decide) (W := 0) (by show 2 * 0 + _ ≤ _; exact Nat.le_of_eq rfl) (by decide)
  obtain ⟨_, T1447, L1447, X1447, N1447, ⟨_, rfl, -, e1447⟩, st1447⟩ := own_cV X1446 hx hZ hown (own_k_479 hw) (rmLen3 hw oS yS kS x0 x1 x2 Z0 Ev ES FcS FvS VS) (W := 0) (k := 0) (n := 0) (by decide) e1446 N0 (fun _ _ _ h => h.2.1) ES (Ls := (Y26 oA oS oR)) (rest := []) hml.symm (lenOf pd_272 rfl) (Nat.le_of_eq rfl) (hb hby d8_5)
  obtain ⟨_, T1448, L1448, X1448, N1448, ⟨_, rfl, -, e1448⟩, st1448⟩ := own_cV X1447 hx hZ hown (own_k_479 hw) (rmLen2 hw oR yR kR u0 u1 Z0 Ev ER FcR FvR VR) (W := 0) (k := 0) (n := 0) (by decide) e1447 N1447 (fun _ _ _ h => h.2.1) ER (Ls := (Y26 oA oS oR)) (rest := []) hml.symm (lenOf pd_272 rfl) (Nat.le_of_eq rfl) (hb hby d8_45)
  obtain ⟨_, T1449, L1449, X1449, N1449, ⟨_, rfl, -, e1449⟩, st1449⟩ := own_cV X1448 hx hZ hown (own_k_479 hw) (rmLen3 hw oS yS kS x0 x1 x2 Z0 Ev ES FcS FvS VS) (W := 1) (k := 0) (n := 0) (by decide) e1448 N1448 (fun _ _ _ h => h.2.1) ES (Ls := (Y26 oA oS oR)) (rest := [(.int (2 : Int32))]) hml.symm (lenOf pd_272 rfl) (Nat.le_of_eq rfl) (hb hby d8_49)
  obtain ⟨T1450, h1450, X1450, e1450, E1450, A1450, D1450, -, st1450⟩ := newO X1449 hx hZ hown (own_w hw 52 rfl) (own_w hw 53 rfl) (own_w hw 54 rfl) e1449 (g := (mkF m 96 (Y26 oA oS oR) [])) rfl (hb hby d8_96) (by decide) (by decide)
  obtain ⟨b1450, g1450⟩ : ∃ z, z = h0.size := ⟨_, rfl⟩
  rw [← g1450] at A1450 D1450 st1450
  have G1450 : n0 ≤ b1450 := Nat.le_trans Z0 (Nat.le_of_eq g1450.symm)
  have sz1450 : h0.size ≤ b1450 := Nat.le_trans (Keep.refl h0 [oA]).1 (Nat.le_of_eq g1450.symm)
  have ne1451 : oS ≠ b1450 := Nat.ne_of_lt (Nat.lt_of_lt_of_le ES.lt (Nat.le_of_eq g1450.symm))
  have ne1452 : yS ≠ b1450 := Nat.ne_of_lt (Nat.lt_of_lt_of_le VS.lt (Nat.le_of_eq g1450.symm))
  have ne1453 : oR ≠ b1450 := Nat.ne_of_lt (Nat.lt_of_lt_of_le ER.lt (Nat.le_of_eq g1450.symm))
  have ne1454 : yR ≠ b1450 := Nat.ne_of_lt (Nat.lt_of_lt_of_le VR.lt (Nat.le_of_eq g1450.symm))
  have ne1455 : oA ≠ b1450 := Nat.ne_of_lt (Nat.lt_of_lt_of_le EA.lt (Nat.le_of_eq g1450.symm))
  have c1456 := (Keep.refl h0 [oA]).ext E1450
  have c1457 := Ev.ext E1450
  have c1458 := ES.ext E1450
  have c1459 := FcS.ext E1450
  have c1460 := FvS.ext E1450
  have c1461 := VS.ext E1450
  have c1462 := ER.ext E1450
  have c1463 := FcR.ext E1450
  have c1464 := FvR.ext E1450
  have c1465 := VR.ext E1450
  have c1466 := EA.ext E1450
  have c1467 := FsA.ext E1450
  have c1468 := FvA.ext E1450
  have F1469 : Fc Z h1450 b1450 .null := D1450 (Or.inl (own_w hw 67 rfl)) (ty := (.array .byte)) (by decide)
  have F1470 : Fd Z h1450 b1450 (.int (0 : Int32)) := D1450 (Or.inl (own_w hw 69 rfl)) (ty := .byte) (by decide)
  have F1471 : Fe Z h1450 b1450 (.int (0 : Int32)) := D1450 (Or.inl (own_w hw 82 rfl)) (ty := .int) (by decide)
  have z1472 : n0 ≤ h1450.size := Nat.le_trans Z0 E1450.1
  obtain ⟨_, T1473, L1473, X1473, N1473, ⟨_, r1473, kc1473, rfl, -, K1473, z1473, G1473, Fv1473, Fc1473, Fn1473, V1473⟩, st1473⟩ := own_cI X1450 hx hZ hown (own_k_490 hw) (rmBj hw b1450 z1472 c1457 A1450 F1469 F1470 F1471 G1450) (W := 1) (k := 2) (n := 20) (by decide) e1450 N1449 (fun _ _ _ ⟨_, _, _, h, _⟩ => h) (Ls := (Y26 oA oS oR)) (rest := [(.ref b1450)]) hml.symm (lenOf pd_491 rfl) (Nat.le_of_eq rfl) (hb hby d8_100)
  have szr1473_z1473 : h0.size ≤ r1473 := Nat.le_trans c1456.1 z1473
  have ne1474 : oS ≠ r1473 := Nat.ne_of_lt (Nat.lt_of_lt_of_le c1458.lt z1473)
  have ne1475 : yS ≠ r1473 := Nat.ne_of_lt (Nat.lt_of_lt_of_le c1461.lt z1473)
  have ne1476 : oR ≠ r1473 := Nat.ne_of_lt (Nat.lt_of_lt_of_le c1462.lt z1473)
  have ne1477 : yR ≠ r1473 := Nat.ne_of_lt (Nat.lt_of_lt_of_le c1465.lt z1473)
  have ne1478 : oA ≠ r1473 := Nat.ne_of_lt (Nat.lt_of_lt_of_le c1466.lt z1473)
  have ne1479 : b1450 ≠ r1473 := Nat.ne_of_lt (Nat.lt_of_lt_of_le A1450.lt z1473)
  have z1480 : n0 ≤ T1473.heap.size := Nat.le_trans z1472 K1473.1
  have c1481 := c1456.trans K1473 (allS (Or.inr sz1450) all0)
  have c1482 := c1457.keep K1473 (allS G1450 all0)
  have c1483 := c1458.keep K1473
  have c1484 := c1459.keep K1473 (ninS ne1451 nin0)
  have c1485 := c1460.keep K1473 (ninS ne1451 nin0)
  have c1486 := c1461.keep K1473 (ninS ne1452 nin0)
  have c1487 := c1462.keep K1473
  have c1488 := c1463.keep K1473 (ninS ne1453 nin0)
  have c1489 := c1464.keep K1473 (ninS ne1453 nin0)
  have c1490 := c1465.keep K1473 (ninS ne1454 nin0)
  have c1491 := c1466.keep K1473
  have c1492 := c1467.keep K1473 (ninS ne1455 nin0)
  have c1493 := c1468.keep K1473 (ninS ne1455 nin0)
  have c1494 := A1450.keep K1473
  obtain ⟨_, T1498, L1498, X1498, N1498, ⟨_, rfl, -, K1498, Fv1498, Fc1498, Fn1498, V1498⟩, st1498⟩ := own_cV X1473 hx hZ hown (own_k_494 hw) (rmAq03 hw b1450 r1473 kc1473 oS yS kS x0 x1 x2 z1480 c1482 c1494 Fv1473 Fc1473 Fn1473 V1473 c1483 c1484 c1485 c1486 G1450 G1473 (Ne.symm ne1479)) (W := 0) (k := 2) (n := 20) (by decide) rfl N1473 (fun _ _ _ h => h.2.1) c1494 (Ls := (Y26 oA oS oR)) (rest := []) hml.symm (lenOf pd_495 rfl) (Nat.le_of_eq rfl) (hb hby d8_104)
  have z1499 : n0 ≤ T1498.heap.size := Nat.le_trans z1480 K1498.1
  have c1500 := c1481.trans K1498 (allS (Or.inr sz1450) (allS (Or.inr szr1473_z1473) all0))
  have c1501 := c1482.keep K1498 (allS G1450 (allS G1473 all0))
  have c1502 := c1483.keep K1498
  have c1503 := c1484.keep K1498 (ninS ne1451 (ninS ne1474 nin0))
  have c1504 := c1485.keep K1498 (ninS ne1451 (ninS ne1474 nin0))
  have c1505 := c1486.keep K1498 (ninS ne1452 (ninS ne1475 nin0))
  have c1506 := c1487.keep K1498
  have c1507 := c1488.keep K1498 (ninS ne1453 (ninS ne1476 nin0))
  have c1508 := c1489.keep K1498 (ninS ne1453 (ninS ne1476 nin0))
  have c1509 := c1490.keep K1498 (ninS ne1454 (ninS ne1477 nin0))
  have c1510 := c1491.keep K1498
  have c1511 := c1492.keep K1498 (ninS ne1455 (ninS ne1478 nin0))
  have c1512 := c1493.keep K1498 (ninS ne1455 (ninS ne1478 nin0))
  have c1513 := c1494.keep K1498
  obtain ⟨_, T1518, L1518, X1518, N1518, ⟨_, rfl, -, K1518, Fv1518, Fc1518, Fn1518, V1518⟩, st1518⟩ := own_cV X1498 hx hZ hown (own_k_494 hw) (rmAq32 hw b1450 r1473 kc1473 oR yR kR x0 x1 x2 u0 u1 z1499 c1501 c1513 Fv1498 Fc1498 Fn1498 V1498 c1506 c1507 c1508 c1509 G1450 G1473 (Ne.symm ne1479)) (W := 0) (k := 2) (n := 20) (by decide) rfl N1498 (fun _ _ _ h => h.2.1) c1513 (Ls := (Y26 oA oS oR)) (rest := []) hml.symm (lenOf pd_495 rfl) (Nat.le_of_eq rfl) (hb hby d8_108)
  have z1519 : n0 ≤ T1518.heap.size := Nat.le_trans z1499 K1518.1
  have c1520 := c1500.trans K1518 (allS (Or.inr sz1450) (allS (Or.inr szr1473_z1473) all0))
  have c1521 := c1501.keep K1518 (allS G1450 (allS G1473 all0))
  have c1522 := c1502.keep K1518
  have c1523 := c1503.keep K1518 (ninS ne1451 (ninS ne1474 nin0))
  have c1524 := c1504.keep K1518 (ninS ne1451 (ninS ne1474 nin0))
  have c1525 := c1505.keep K1518 (ninS ne1452 (ninS ne1475 nin0))
  have c1530 := c1510.keep K1518
  have c1531 := c1511.keep K1518 (ninS ne1455 (ninS ne1478 nin0))
  have c1532 := c1512.keep K1518 (ninS ne1455 (ninS ne1478 nin0))
  have c1533 := c1513.keep K1518
  obtain ⟨_, T1538, L1538, X1538, N1538, ⟨_, r1538, yy1538, kc1538, rfl, -, K1538, z1538, G1538, E1538, Fc1538, Fv1538, V1538⟩, st1538⟩ := own_cV X1518 hx hZ hown (own_k_499 hw) (rmTs5 hw b1450 r1473 kc1473 x0 x1 x2 u0 u1 z1519 c1521 c1533 Fv1518 Fc1518 Fn1518 V1518) (W := 0) (k := 4) (n := 29) (by decide) rfl N1518 (fun _ _ _ ⟨_, _, _, _, h, _⟩ => h) c1533 (Ls := (Y26 oA oS oR)) (rest := []) hml.symm (lenOf pd_500 rfl) (Nat.le_of_eq rfl) (hb hby d8_111)
  have z1546 : n0 ≤ T1538.heap.size := Nat.le_trans z1519 K1538.1
  have c1547 := c1520.trans K1538 all0
  have c1548 := c1521.keep K1538 all0
  have c1549 := c1522.keep K1538
  have c1550 := c1523.keep K1538 nin0
  have c1551 := c1524.keep K1538 nin0
  have c1552 := c1525.keep K1538 nin0
  have c1557 := c1530.keep K1538
  have c1558 := c1531.keep K1538 nin0
  have c1559 := c1532.keep K1538 nin0
  obtain ⟨T1565, h1565, k1565, X1565, e1565, E1565, A1565, st1565⟩ := newP X1538 hx hZ (own_w hw 153 rfl) rfl (g := (mkF m 118 (Y27 oA oS oR r1538) [(.int (128 : Int32))])) rfl (hb hby d8_118) rfl (by decide) (cap := 128) (by decide) (by decide) (by decide) (by decide)
  obtain ⟨b1565, g1565⟩ : ∃ z, z = T1538.heap.size := ⟨_, rfl⟩
  rw [← g1565] at A1565 st1565
  have G1565 : n0 ≤ b1565 := Nat.le_trans z1546 (Nat.le_of_eq g1565.symm)
  have sz1565 : h0.size ≤ b1565 := Nat.le_trans c1547.1 (Nat.le_of_eq g1565.symm)
  have ne1566 : oS ≠ b1565 := Nat.ne_of_lt (Nat.lt_of_lt_of_le c1549.lt (Nat.le_of_eq g1565.symm))
  have ne1567 : yS ≠ b1565 := Nat.ne_of_lt (Nat.lt_of_lt_of_le c1552.lt (Nat.le_of_eq g1565.symm))
  have ne1570 : oA ≠ b1565 := Nat.ne_of_lt (Nat.lt_of_lt_of_le c1557.lt (Nat.le_of_eq g1565.symm))
  have ne1571 : r1538 ≠ b1565 := Nat.ne_of_lt (Nat.lt_of_lt_of_le E1538.lt (Nat.le_of_eq g1565.symm))
  have ne1572 : yy1538 ≠ b1565 := Nat.ne_of_lt (Nat.lt_of_lt_of_le V1538.lt (Nat.le_of_eq g1565.symm))
  have c1573 := c1547.ext E1565
  have c1574 := c1548.ext E1565
  have c1575 := c1549.ext E1565
  have c1576 := c1550.ext E1565
  have c1577 := c1551.ext E1565
  have c1578 := c1552.ext E1565
  have c1583 := c1557.ext E1565
  have c1584 := c1558.ext E1565
  have c1585 := c1559.ext E1565
  have c1586 := E1538.ext E1565
  have c1587 := Fc1538.ext E1565
  have c1588 := Fv1538.ext E1565
  have c1589 := V1538.ext E1565
  have z1590 : n0 ≤ h1565.size := Nat.le_trans z1546 E1565.1
  have P1565 := own_part0 (Arv.new A1565 (by decide))
  obtain ⟨_, T1591, L1591, X1591, N1591, ⟨_, rfl, -, K1591, I1591⟩, st1591⟩ := own_cS X1565 hx hZ hown (own_k_508 hw) (rmFill hw b1565 z1590 P1565 G1565) (W := 0) (k := 5) (n := 157) (by decide) e1565 N1538 (fun _ _ _ h => h.2.1) (Ls := (Y28 oA oS oR r1538 b1565)) (rest := []) hml.symm (lenOf pd_509 rfl) (Nat.le_of_eq rfl) (hb hby d8_125)
  have z1592 : n0 ≤ T1591.heap.size := Nat.le_trans z1590 K1591.1
  have c1593 := c1573.trans K1591 (allS (Or.inr sz1565) all0)
  have c1594 := c1574.keep K1591 (allS G1565 all0)
  have c1595 := c1575.keep K1591
  have c1596 := c1576.keep K1591 (ninS ne1566 nin0)
  have c1597 := c1577.keep K1591 (ninS ne1566 nin0)
  have c1598 := c1578.keep K1591 (ninS ne1567 nin0)
  have c1603 := c1583.keep K1591
  have c1604 := c1584.keep K1591 (ninS ne1570 nin0)
  have c1605 := c1585.keep K1591 (ninS ne1570 nin0)
  have c1606 := c1586.keep K1591
  have c1607 := c1587.keep K1591 (ninS ne1571 nin0)
  have c1608 := c1588.keep K1591 (ninS ne1571 nin0)
  have c1609 := c1589.keep K1591 (ninS ne1572 nin0)
  obtain ⟨_, T1610, L1610, X1610, N1610, ⟨_, rfl, -, e1610⟩, st1610⟩ := own_cV X1591 hx hZ hown (own_k_479 hw) (rmLen5 hw r1538 yy1538 kc1538 x0 x1 x2 u0 u1 z1592 c1594 c1606 c1607 c1608 c1609) (W := 1) (k := 5) (n := 157) (by decide) rfl N1591 (fun _ _ _ h => h.2.1) c1606 (Ls := (Y29 oA oS oR r1538 b1565 0)) (rest := [(.int (0 : Int32))]) hml.symm (lenOf pd_272 rfl) (Nat.le_of_eq rfl) (hb hby d8_134)
  obtain ⟨_, T1611, L1611, X1611, N1611, ⟨_, rfl, -, e1611⟩, st1611⟩ := own_cV X1610 hx hZ hown (own_k_519 hw) (rmCa hw r1538 yy1538 kc1538 (5 : Int32) (0 : Int32) x0 [(.int x0), (.int x1), (.int x2), (.int u0), (.int u1)] z1592 c1594 c1606 c1607 c1608 c1609 (by decide) (by decide) rfl hpx0) (W := 0) (k := 5) (n := 157) (by decide) e1610 N1610 (fun _ _ _ h => h.2.1) c1606 (Ls := (Y29 oA oS oR r1538 b1565 0)) (rest := []) hml.symm (lenOf pd_520 rfl) (Nat.le_of_eq rfl) (hb hby d8_143)
  obtain ⟨_, T1612, L1612, X1612, N1612, ⟨_, rfl, -, e1612⟩, st1612⟩ := own_cV X1611 hx hZ hown (own_k_479 hw) (rmLen3 hw oS yS kS x0 x1 x2 z1592 c1594 c1595 c1596 c1597 c1598) (W := 1) (k := 5) (n := 157) (by decide) e1611 N1611 (fun _ _ _ h => h.2.1) c1595 (Ls := (Y30 oA oS oR r1538 b1565 0 x0)) (rest := [(.int (0 : Int32))]) hml.symm (lenOf pd_272 rfl) (Nat.le_of_eq rfl) (hb hby d8_151)
  obtain ⟨_, T1613, L1613, X1613, N1613, ⟨_, rfl, -, e1613⟩, st1613⟩ := own_cS X1612 hx hZ hown (own_k_534 hw) (rmSep hw x0 z1592 hpx0) (W := 0) (k := 5) (n := 157) (by decide) e1612 N1612 (fun _ _ _ h => h.2.1) (Ls := (Y30 oA oS oR r1538 b1565 0 x0)) (rest := []) hml.symm (lenOf pd_535 rfl) (Nat.le_of_eq rfl) (hb hby d8_192)
  obtain ⟨cl1614, Ar1614, S1614, H1614⟩ := id I1591
  have hk1614 : ((fun _ => (-1 : Int32)) x0) = (-1 : Int32) := by simp [own_sy, own_st, own_al, hx01, hx02, hx12, hu01, hm01, hm02, hm10, hm12]
  have hat1614 : cl1614.slots[(x0).toNatClampNeg]? = some (.int ((fun _ => (-1 : Int32)) x0)) := H1614 _ hpx0.2.2.2.2.2.2.2.2.1 hpx0.2.2.2.2.2.2.2.2.2
  obtain ⟨_, T1615, L1615, X1615, N1615, ⟨_, rfl, -, e1615⟩, st1615⟩ := own_cV X1613 hx hZ hown (own_k_479 hw) (rmLen3 hw oS yS kS x0 x1 x2 z1592 c1594 c1595 c1596 c1597 c1598) (W := 3) (k := 5) (n := 157) (by decide) e1613 N1613 (fun _ _ _ h => h.2.1) c1595 (Ls := (Y30 oA oS oR r1538 b1565 0 x0)) (rest := [(.int (0 : Int32)), (.int x0), (.ref b1565)]) hml.symm (lenOf pd_272 rfl) (Nat.le_of_eq rfl) (hb hby d8_281)
  obtain ⟨cl1616, Ar1616, S1616, H1616⟩ := id I1591
  obtain ⟨T1617, h1617, X1617, e1617, W1617, st1617⟩ := stI X1615 hx hZ e1615 Ar1616 (j := x0) (own_inb S1616 hpx0.2.2.2.2.2.2.2.2.1 hpx0.2.2.2.2.2.2.2.2.2) (g := (mkF m 285 (Y30 oA oS oR r1538 b1565 0 x0) [(.int (0 : Int32)), (.int x0), (.ref b1565)])) rfl rfl (hb hby d8_285)
  have I1617 := own_ints_set Ar1616 S1616 H1616 W1617 hpx0.2.2.2.2.2.2.2.2.1 hpx0.2.2.2.2.2.2.2.2.2
  have N1617 := Fr.snoc X1617 N1615 G1565
  have z1618 : n0 ≤ h1617.size := Nat.le_trans z1592 (Keep.of_wr W1617).1
  have c1619 := c1593.wr W1617 (Or.inr sz1565)
  have c1620 := c1594.wr W1617 G1565
  have c1621 := c1595.wr W1617
  have c1622 := c1596.other W1617 (Or.inl ne1566)
  have c1623 := c1597.other W1617 (Or.inl ne1566)
  have c1624 := c1598.other W1617 ne1567
  have c1629 := c1603.wr W1617
  have c1630 := c1604.other W1617 (Or.inl ne1570)
  have c1631 := c1605.other W1617 (Or.inl ne1570)
  have c1632 := c1606.wr W1617
  have c1633 := c1607.other W1617 (Or.inl ne1571)
  have c1634 := c1608.other W1617 (Or.inl ne1571)
  have c1635 := c1609.other W1617 ne1572
  obtain ⟨_, T1636, L1636, X1636, N1636, ⟨_, rfl, -, e1636⟩, st1636⟩ := own_cV X1617 hx hZ hown (own_k_479 hw) (rmLen5 hw r1538 yy1538 kc1538 x0 x1 x2 u0 u1 z1618 c1620 c1632 c1633 c1634 c1635) (W := 1) (k := 5) (n := 157) (by decide) e1617 N1617 (fun _ _ _ h => h.2.1) c1632 (Ls := (Y30 oA oS oR r1538 b1565 1 x0)) (rest := [(.int (1 : Int32))]) hml.symm (lenOf pd_272 rfl) (Nat.le_of_eq rfl) (hb hby d8_134)
  obtain ⟨_, T1637, L1637, X1637, N1637, ⟨_, rfl, -, e1637⟩, st1637⟩ := own_cV X1636 hx hZ hown (own_k_519 hw) (rmCa hw r1538 yy1538 kc1538 (5 : Int32) (1 : Int32) x1 [(.int x0), (.int x1), (.int x2), (.int u0), (.int u1)] z1618 c1620 c1632 c1633 c1634 c1635 (by decide) (by decide) rfl hpx1) (W := 0) (k := 5) (n := 157) (by decide) e1636 N1636 (fun _ _ _ h => h.2.1) c1632 (Ls := (Y30 oA oS oR r1538 b1565 1 x0)) (rest := []) hml.symm (lenOf pd_520 rfl) (Nat.le_of_eq rfl) (hb hby d8_143)
  obtain ⟨_, T1638, L1638, X1638, N1638, ⟨_, rfl, -, e1638⟩, st1638⟩ := own_cV X1637 hx hZ hown (own_k_479 hw) (rmLen3 hw oS yS kS x0 x1 x2 z1618 c1620 c1621 c1622 c1623 c1624) (W := 1) (k := 5) (n := 157) (by decide) e1637 N1637 (fun _ _ _ h => h.2.1) c1621 (Ls := (Y30 oA oS oR r1538 b1565 1 x1)) (rest := [(.int (1 : Int32))]) hml.symm (lenOf pd_272 rfl) (Nat.le_of_eq rfl) (hb hby d8_151)
  obtain ⟨_, T1639, L1639, X1639, N1639, ⟨_, rfl, -, e1639⟩, st1639⟩ := own_cS X1638 hx hZ hown (own_k_534 hw) (rmSep hw x1 z1618 hpx1) (W := 0) (k := 5) (n := 157) (by decide) e1638 N1638 (fun _ _ _ h => h.2.1) (Ls := (Y30 oA oS oR r1538 b1565 1 x1)) (rest := []) hml.symm (lenOf pd_535 rfl) (Nat.le_of_eq rfl) (hb hby d8_192)
  obtain ⟨cl1640, Ar1640, S1640, H1640⟩ := id I1617
  have hk1640 : ((own_st (fun _ => (-1 : Int32)) x0 (0 : Int32)) x1) = (-1 : Int32) := by simp [own_sy, own_st, own_al, hx01, hx02, hx12, hu01, hm01, hm02, hm10, hm12]
  have hat1640 : cl1640.slots[(x1).toNatClampNeg]? = some (.int ((own_st (fun _ => (-1 : Int32)) x0 (0 : Int32)) x1)) := H1640 _ hpx1.2.2.2.2.2.2.2.2.1 hpx1.2.2.2.2.2.2.2.2.2
  obtain ⟨_, T1641, L1641, X1641, N1641, ⟨_, rfl, -, e1641⟩, st1641⟩ := own_cV X1639 hx hZ hown (own_k_479 hw) (rmLen3 hw oS yS kS x0 x1 x2 z1618 c1620 c1621 c1622 c1623 c1624) (W := 3) (k := 5) (n := 157) (by decide) e1639 N1639 (fun _ _ _ h => h.2.1) c1621 (Ls := (Y30 oA oS oR r1538 b1565 1 x1)) (rest := [(.int (1 : Int32)), (.int x1), (.ref b1565)]) hml.symm (lenOf pd_272 rfl) (Nat.le_of_eq rfl) (hb hby d8_281)
  obtain ⟨cl1642, Ar1642, S1642, H1642⟩ := id I1617
  obtain ⟨T1643, h1643, X1643, e1643, W1643, st1643⟩ := stI X1641 hx hZ e1641 Ar1642 (j := x1) (own_inb S1642 hpx1.2.2.2.2.2.2.2.2.1 hpx1.2.2.2.2.2.2.2.2.2) (g := (mkF m 285 (Y30 oA oS oR r1538 b1565 1 x1) [(.int (1 : Int32)), (.int x1), (.ref b1565)])) rfl rfl (hb hby d8_285)
  have I1643 := own_ints_set Ar1642 S1642 H1642 W1643 hpx1.2.2.2.2.2.2.2.2.1 hpx1.2.2.2.2.2.2.2.2.2
  have N1643 := Fr.snoc X1643 N1641 G1565
  have z1644 : n0 ≤ h1643.size := Nat.le_trans z1618 (Keep.of_wr W1643).1
  have c1645 := c1619.wr W1643 (Or.inr sz1565)
  have c1646 := c1620.wr W1643 G1565
  have c1647 := c1621.wr W1643
  have c1648 := c1622.other W1643 (Or.inl ne1566)
  have c1649 := c1623.other W1643 (Or.inl ne1566)
  have c1650 := c1624.other W1643 ne1567
  have c1655 := c1629.wr W1643
  have c1656 := c1630.other W1643 (Or.inl ne1570)
  have c1657 := c1631.other W1643 (Or.inl ne1570)
  have c1658 := c1632.wr W1643
  have c1659 := c1633.other W1643 (Or.inl ne1571)
  have c1660 := c1634.other W1643 (Or.inl ne1571)
  have c1661 := c1635.other W1643 ne1572
  obtain ⟨_, T1662, L1662, X1662, N1662, ⟨_, rfl, -, e1662⟩, st1662⟩ := own_cV X1643 hx hZ hown (own_k_479 hw) (rmLen5 hw r1538 yy1538 kc1538 x0 x1 x2 u0 u1 z1644 c1646 c1658 c1659 c1660 c1661) (W := 1) (k := 5) (n := 157) (by decide) e1643 N1643 (fun _ _ _ h => h.2.1) c1658 (Ls := (Y30 oA oS oR r1538 b1565 2 x1)) (rest := [(.int (2 : Int32))]) hml.symm (lenOf pd_272 rfl) (Nat.le_of_eq rfl) (hb hby d8_134)
  obtain ⟨_, T1663, L1663, X1663, N1663, ⟨_, rfl, -, e1663⟩, st1663⟩ := own_cV X1662 hx hZ hown (own_k_519 hw) (rmCa hw r1538 yy1538 kc1538 (5 : Int32) (2 : Int32) x2 [(.int x0), (.int x1), (.int x2), (.int u0), (.int u1)] z1644 c1646 c1658 c1659 c1660 c1661 (by decide) (by decide) rfl hpx2) (W := 0) (k := 5) (n := 157) (by decide) e1662 N1662 (fun _ _ _ h => h.2.1) c1658 (Ls := (Y30 oA oS oR r1538 b1565 2 x1)) (rest := []) hml.symm (lenOf pd_520 rfl) (Nat.le_of_eq rfl) (hb hby d8_143)
  obtain ⟨_, T1664, L1664, X1664, N1664, ⟨_, rfl, -, e1664⟩, st1664⟩ := own_cV X1663 hx hZ hown (own_k_479 hw) (rmLen3 hw oS yS kS x0 x1 x2 z1644 c1646 c1647 c1648 c1649 c1650) (W := 1) (k := 5) (n := 157) (by decide) e1663 N1663 (fun _ _ _ h => h.2.1) c1647 (Ls := (Y30 oA oS oR r1538 b1565 2 x2)) (rest := [(.int (2 : Int32))]) hml.symm (lenOf pd_272 rfl) (Nat.le_of_eq rfl) (hb hby d8_151)
  obtain ⟨_, T1665, L1665, X1665, N1665, ⟨_, rfl, -, e1665⟩, st1665⟩ := own_cS X1664 hx hZ hown (own_k_534 hw) (rmSep hw x2 z1644 hpx2) (W := 0) (k := 5) (n := 157) (by decide) e1664 N1664 (fun _ _ _ h => h.2.1) (Ls := (Y30 oA oS oR r1538 b1565 2 x2)) (rest := []) hml.symm (lenOf pd_535 rfl) (Nat.le_of_eq rfl) (hb hby d8_192)
  obtain ⟨cl1666, Ar1666, S1666, H1666⟩ := id I1643
  have hk1666 : ((own_st (own_st (fun _ => (-1 : Int32)) x0 (0 : Int32)) x1 (1 : Int32)) x2) = (-1 : Int32) := by simp [own_sy, own_st, own_al, hx01, hx02, hx12, hu01, hm01, hm02, hm10, hm12]
  have hat1666 : cl1666.slots[(x2).toNatClampNeg]? = some (.int ((own_st (own_st (fun _ => (-1 : Int32)) x0 (0 : Int32)) x1 (1 : Int32)) x2)) := H1666 _ hpx2.2.2.2.2.2.2.2.2.1 hpx2.2.2.2.2.2.2.2.2.2
  obtain ⟨_, T1667, L1667, X1667, N1667, ⟨_, rfl, -, e1667⟩, st1667⟩ := own_cV X1665 hx hZ hown (own_k_479 hw) (rmLen3 hw oS yS kS x0 x1 x2 z1644 c1646 c1647 c1648 c1649 c1650) (W := 3) (k := 5) (n := 157) (by decide) e1665 N1665 (fun _ _ _ h => h.2.1) c1647 (Ls := (Y30 oA oS oR r1538 b1565 2 x2)) (rest := [(.int (2 : Int32)), (.int x2), (.ref b1565)]) hml.symm (lenOf pd_272 rfl) (Nat.le_of_eq rfl) (hb hby d8_281)
  obtain ⟨cl1668, Ar1668, S1668, H1668⟩ := id I1643
  obtain ⟨T1669, h1669, X1669, e1669, W1669, st1669⟩ := stI X1667 hx hZ e1667 Ar1668 (j := x2) (own_inb S1668 hpx2.2.2.2.2.2.2.2.2.1 hpx2.2.2.2.2.2.2.2.2.2) (g := (mkF m 285 (Y30 oA oS oR r1538 b1565 2 x2) [(.int (2 : Int32)), (.int x2), (.ref b1565)])) rfl rfl (hb hby d8_285)
  have I1669 := own_ints_set Ar1668 S1668 H1668 W1669 hpx2.2.2.2.2.2.2.2.2.1 hpx2.2.2.2.2.2.2.2.2.2
  have N1669 := Fr.snoc X1669 N1667 G1565
  have z1670 : n0 ≤ h1669.size := Nat.le_trans z1644 (Keep.of_wr W1669).1
  have c1671 := c1645.wr W1669 (Or.inr sz1565)
  have c1672 := c1646.wr W1669 G1565
  have c1673 := c1647.wr W1669
  have c1674 := c1648.other W1669 (Or.inl ne1566)
  have c1675 := c1649.other W1669 (Or.inl ne1566)
  have c1676 := c1650.other W1669 ne1567
  have c1681 := c1655.wr W1669
  have c1682 := c1656.other W1669 (Or.inl ne1570)
  have c1683 := c1657.other W1669 (Or.inl ne1570)
  have c1684 := c1658.wr W1669
  have c1685 := c1659.other W1669 (Or.inl ne1571)
  have c1686 := c1660.other W1669 (Or.inl ne1571)
  have c1687 := c1661.other W1669 ne1572
  obtain ⟨_, T1688, L1688, X1688, N1688, ⟨_, rfl, -, e1688⟩, st1688⟩ := own_cV X1669 hx hZ hown (own_k_479 hw) (rmLen5 hw r1538 yy1538 kc1538 x0 x1 x2 u0 u1 z1670 c1672 c1684 c1685 c1686 c1687) (W := 1) (k := 5) (n := 157) (by decide) e1669 N1669 (fun _ _ _ h => h.2.1) c1684 (Ls := (Y30 oA oS oR r1538 b1565 3 x2)) (rest := [(.int (3 : Int32))]) hml.symm (lenOf pd_272 rfl) (Nat.le_of_eq rfl) (hb hby d8_134)
  obtain ⟨_, T1689, L1689, X1689, N1689, ⟨_, rfl, -, e1689⟩, st1689⟩ := own_cV X1688 hx hZ hown (own_k_519 hw) (rmCa hw r1538 yy1538 kc1538 (5 : Int32) (3 : Int32) u0 [(.int x0), (.int x1), (.int x2), (.int u0), (.int u1)] z1670 c1672 c1684 c1685 c1686 c1687 (by decide) (by decide) rfl hpu0) (W := 0) (k := 5) (n := 157) (by decide) e1688 N1688 (fun _ _ _ h => h.2.1) c1684 (Ls := (Y30 oA oS oR r1538 b1565 3 x2)) (rest := []) hml.symm (lenOf pd_520 rfl) (Nat.le_of_eq rfl) (hb hby d8_143)
  obtain ⟨_, T1690, L1690, X1690, N1690, ⟨_, rfl, -, e1690⟩, st1690⟩ := own_cV X1689 hx hZ hown (own_k_479 hw) (rmLen3 hw oS yS kS x0 x1 x2 z1670 c1672 c1673 c1674 c1675 c1676) (W := 1) (k := 5) (n := 157) (by decide) e1689 N1689 (fun _ _ _ h => h.2.1) c1673 (Ls := (Y30 oA oS oR r1538 b1565 3 u0)) (rest := [(.int (3 : Int32))]) hml.symm (lenOf pd_272 rfl) (Nat.le_of_eq rfl) (hb hby d8_151)
  obtain ⟨_, T1691, L1691, X1691, N1691, ⟨_, rfl, -, e1691⟩, st1691⟩ := own_cV X1690 hx hZ hown (own_k_479 hw) (rmLen3 hw oS yS kS x0 x1 x2 z1670 c1672 c1673 c1674 c1675 c1676) (W := 3) (k := 5) (n := 157) (by decide) e1690 N1690 (fun _ _ _ h => h.2.1) c1673 (Ls := (Y30 oA oS oR r1538 b1565 3 u0)) (rest := [(.int (3 : Int32)), (.ref oS), (.int u0)]) hml.symm (lenOf pd_272 rfl) (Nat.le_of_eq rfl) (hb hby d8_163)
  obtain ⟨_, T1692, L1692, X1692, N1692, ⟨_, rfl, -, e1692⟩, st1692⟩ := own_cV X1691 hx hZ hown (own_k_519 hw) (rmCa hw oS yS kS (3 : Int32) (0 : Int32) x0 [(.int x0), (.int x1), (.int x2)] z1670 c1672 c1673 c1674 c1675 c1676 (by decide) (by decide) rfl hpx0) (W := 1) (k := 5) (n := 157) (by decide) e1691 N1691 (fun _ _ _ h => h.2.1) c1673 (Ls := (Y30 oA oS oR r1538 b1565 3 u0)) (rest := [(.int u0)]) hml.symm (lenOf pd_520 rfl) (Nat.le_of_eq rfl) (hb hby d8_167)
  have pre1693 : PQ p e below T1692 (mkF m 170 (Y30 oA oS oR r1538 b1565 3 u0) [(.int x0), (.int u0)]) bs := fun t kt => pre0 t (by
    refine XS.aloadN X0.here hx rfl (hb hby d8_0) rfl rfl ?_
    refine st1446 _ ?_
    refine XS.aloadN X1446.here hx rfl (hb hby d8_4) rfl rfl ?_
    refine st1447.trans ?_
    refine XS.iconst X1447.here hx rfl (hb hby d8_8) ?_
    refine XS.icmpYes X1447.here hx rfl (pc0 := 9) (pc' := 44) rfl (hb hby d8_9) rfl (flt (by decide : ¬ ((3 : Int32) < (2 : Int32)))).2.1 (by decide) (by decide) ?_
    refine XS.aloadN X1447.here hx rfl (hb hby d8_44) rfl rfl ?_
    refine st1448.trans ?_
    refine XS.aloadN X1448.here hx rfl (hb hby d8_48) rfl rfl ?_
    refine st1449.trans ?_
    refine XS.icmpYes X1449.here hx rfl (pc0 := 52) (pc' := 96) rfl (hb hby d8_52) rfl (flt (by decide : ¬ ((3 : Int32) < (2 : Int32)))).2.2.2 (by decide) (by decide) ?_
    refine st1450 _ ?_
    refine XS.dup X1450.here hx rfl (hb hby d8_99) rfl rfl ?_
    refine st1473.trans ?_
    refine XS.aloadN X1473.here hx rfl (hb hby d8_103) rfl rfl ?_
    refine st1498.trans ?_
    refine XS.aloadN X1498.here hx rfl (hb hby d8_107) rfl rfl ?_
    refine st1518.trans ?_
    refine st1538.trans ?_
    refine XS.astoreN X1538.here hx rfl (hb hby d8_114) rfl rfl (l' := (Y27 oA oS oR r1538)) rfl ?_
    refine XS.sipush X1538.here hx rfl (hb hby d8_115) ?_
    refine st1565 _ ?_
    refine XS.astore X1565.here hx rfl (hb hby d8_120) rfl rfl (l' := (Y28 oA oS oR r1538 b1565)) rfl ?_
    refine XS.aload X1565.here hx rfl (hb hby d8_122) rfl rfl ?_
    refine XS.iconst X1565.here hx rfl (hb hby d8_124) ?_
    refine st1591.trans ?_
    refine XS.iconst X1591.here hx rfl (hb hby d8_128) ?_
    refine XS.istore X1591.here hx rfl (hb hby d8_129) rfl (l' := (Y29 oA oS oR r1538 b1565 0)) rfl ?_
    refine XS.iload X1591.here hx rfl (hb hby d8_131) rfl ?_
    refine XS.aloadN X1591.here hx rfl (hb hby d8_133) rfl rfl ?_
    refine st1610.trans ?_
    refine XS.icmpNo X1610.here hx rfl (hb hby d8_137) rfl (tlt (by decide : (0 : Int32) < (5 : Int32))).2.1 ?_
    refine XS.aloadN X1610.here hx rfl (hb hby d8_140) rfl rfl ?_
    refine XS.iload X1610.here hx rfl (hb hby d8_141) rfl ?_
    refine st1611.trans ?_
    refine XS.istore X1611.here hx rfl (hb hby d8_146) rfl (l' := (Y30 oA oS oR r1538 b1565 0 x0)) rfl ?_
    refine XS.iload X1611.here hx rfl (hb hby d8_148) rfl ?_
    refine XS.aloadN X1611.here hx rfl (hb hby d8_150) rfl rfl ?_
    refine st1612.trans ?_
    refine XS.icmpYes X1612.here hx rfl (pc0 := 154) (pc' := 176) rfl (hb hby d8_154) rfl (tlt (by decide : (0 : Int32) < (3 : Int32))).1 (by decide) (by decide) ?_
    refine XS.iload X1612.here hx rfl (hb hby d8_176) rfl ?_
    refine XS.bipush X1612.here hx rfl (hb hby d8_178) ?_
    refine XS.icmpNo X1612.here hx rfl (hb hby d8_180) rfl (flt hpx0.2.2.2.2.1).1 ?_
    refine XS.iload X1612.here hx rfl (hb hby d8_183) rfl ?_
    refine XS.bipush X1612.here hx rfl (hb hby d8_185) ?_
    refine XS.icmpNo X1612.here hx rfl (hb hby d8_187) rfl (flt hpx0.2.2.2.2.2.1).2.2.1 ?_
    refine XS.iload X1612.here hx rfl (hb hby d8_190) rfl ?_
    refine st1613.trans ?_
    refine XS.ifYes X1613.here hx rfl (pc0 := 195) (pc' := 223) rfl (hb hby d8_195) rfl ((if0 _ _).trans (teq (by decide : (0 : Int32) = (0 : Int32))).1) (by decide) (by decide) ?_
    refine XS.aload X1613.here hx rfl (hb hby d8_223) rfl rfl ?_
    refine XS.iload X1613.here hx rfl (hb hby d8_225) rfl ?_
    refine X1613.iaload hx (j := x0) (v := (.int ((fun _ => (-1 : Int32)) x0))) (by rw [e1613]; exact Ar1614.1) (State.isArrayOf_alike hZ.alike Ar1614.2.1) Ar1614.2.2 (own_inb S1614 hpx0.2.2.2.2.2.2.2.2.1 hpx0.2.2.2.2.2.2.2.2.2) hat1614 (g := (mkF m 227 (Y30 oA oS oR r1538 b1565 0 x0) [(.int x0), (.ref b1565)])) rfl rfl (hb hby d8_227) _ ?_
    refine XS.iconst X1613.here hx rfl (hb hby d8_228) ?_
    refine XS.icmpYes X1613.here hx rfl (pc0 := 229) (pc' := 274) rfl (hb hby d8_229) rfl (teq hk1614).1 (by decide) (by decide) ?_
    refine XS.aload X1613.here hx rfl (hb hby d8_274) rfl rfl ?_
    refine XS.iload X1613.here hx rfl (hb hby d8_276) rfl ?_
    refine XS.iload X1613.here hx rfl (hb hby d8_278) rfl ?_
    refine XS.aloadN X1613.here hx rfl (hb hby d8_280) rfl rfl ?_
    refine st1615.trans ?_
    refine XS.irem X1615.here hx rfl (hb hby d8_284) rfl (by decide) ?_
    refine st1617 _ ?_
    refine XS.iinc X1617.here hx rfl (hb hby d8_286) rfl (l' := (Y30 oA oS oR r1538 b1565 1 x0)) rfl ?_
    refine XS.goto X1617.here hx rfl (pc0 := 289) (pc' := 131) rfl (hb hby d8_289) (by decide) (by decide) ?_
    refine XS.iload X1617.here hx rfl (hb hby d8_131) rfl ?_
    refine XS.aloadN X1617.here hx rfl (hb hby d8_133) rfl rfl ?_
    refine st1636.trans ?_
    refine XS.icmpNo X1636.here hx rfl (hb hby d8_137) rfl (tlt (by decide : (1 : Int32) < (5 : Int32))).2.1 ?_
    refine XS.aloadN X1636.here hx rfl (hb hby d8_140) rfl rfl ?_
    refine XS.iload X1636.here hx rfl (hb hby d8_141) rfl ?_
    refine st1637.trans ?_
    refine XS.istore X1637.here hx rfl (hb hby d8_146) rfl (l' := (Y30 oA oS oR r1538 b1565 1 x1)) rfl ?_
    refine XS.iload X1637.here hx rfl (hb hby d8_148) rfl ?_
    refine XS.aloadN X1637.here hx rfl (hb hby d8_150) rfl rfl ?_
    refine st1638.trans ?_
    refine XS.icmpYes X1638.here hx rfl (pc0 := 154) (pc' := 176) rfl (hb hby d8_154) rfl (tlt (by decide : (1 : Int32) < (3 : Int32))).1 (by decide) (by decide) ?_
    refine XS.iload X1638.here hx rfl (hb hby d8_176) rfl ?_
    refine XS.bipush X1638.here hx rfl (hb hby d8_178) ?_
    refine XS.icmpNo X1638.here hx rfl (hb hby d8_180) rfl (flt hpx1.2.2.2.2.1).1 ?_
    refine XS.iload X1638.here hx rfl (hb hby d8_183) rfl ?_
    refine XS.bipush X1638.here hx rfl (hb hby d8_185) ?_
    refine XS.icmpNo X1638.here hx rfl (hb hby d8_187) rfl (flt hpx1.2.2.2.2.2.1).2.2.1 ?_
    refine XS.iload X1638.here hx rfl (hb hby d8_190) rfl ?_
    refine st1639.trans ?_
    refine XS.ifYes X1639.here hx rfl (pc0 := 195) (pc' := 223) rfl (hb hby d8_195) rfl ((if0 _ _).trans (teq (by decide : (0 : Int32) = (0 : Int32))).1) (by decide) (by decide) ?_
    refine XS.aload X1639.here hx rfl (hb hby d8_223) rfl rfl ?_
    refine XS.iload X1639.here hx rfl (hb hby d8_225) rfl ?_
    refine X1639.iaload hx (j := x1) (v := (.int ((own_st (fun _ => (-1 : Int32)) x0 (0 : Int32)) x1))) (by rw [e1639]; exact Ar1640.1) (State.isArrayOf_alike hZ.alike Ar1640.2.1) Ar1640.2.2 (own_inb S1640 hpx1.2.2.2.2.2.2.2.2.1 hpx1.2.2.2.2.2.2.2.2.2) hat1640 (g := (mkF m 227 (Y30 oA oS oR r1538 b1565 1 x1) [(.int x1), (.ref b1565)])) rfl rfl (hb hby d8_227) _ ?_
    refine XS.iconst X1639.here hx rfl (hb hby d8_228) ?_
    refine XS.icmpYes X1639.here hx rfl (pc0 := 229) (pc' := 274) rfl (hb hby d8_229) rfl (teq hk1640).1 (by decide) (by decide) ?_
    refine XS.aload X1639.here hx rfl (hb hby d8_274) rfl rfl ?_
    refine XS.iload X1639.here hx rfl (hb hby d8_276) rfl ?_
    refine XS.iload X1639.here hx rfl (hb hby d8_278) rfl ?_
    refine XS.aloadN X1639.here hx rfl (hb hby d8_280) rfl rfl ?_
    refine st1641.trans ?_
    refine XS.irem X1641.here hx rfl (hb hby d8_284) rfl (by decide) ?_
    refine st1643 _ ?_
    refine XS.iinc X1643.here hx rfl (hb hby d8_286) rfl (l' := (Y30 oA oS oR r1538 b1565 2 x1)) rfl ?_
    refine XS.goto X1643.here hx rfl (pc0 := 289) (pc' := 131) rfl (hb hby d8_289) (by decide) (by decide) ?_
    refine XS.iload X1643.here hx rfl (hb hby d8_131) rfl ?_
    refine XS.aloadN X1643.here hx rfl (hb hby d8_133) rfl rfl ?_
    refine st1662.trans ?_
    refine XS.icmpNo X1662.here hx rfl (hb hby d8_137) rfl (tlt (by decide : (2 : Int32) < (5 : Int32))).2.1 ?_
    refine XS.aloadN X1662.here hx rfl (hb hby d8_140) rfl rfl ?_
    refine XS.iload X1662.here hx rfl (hb hby d8_141) rfl ?_
    refine st1663.trans ?_
    refine XS.istore X1663.here hx rfl (hb hby d8_146) rfl (l' := (Y30 oA oS oR r1538 b1565 2 x2)) rfl ?_
    refine XS.iload X1663.here hx rfl (hb hby d8_148) rfl ?_
    refine XS.aloadN X1663.here hx rfl (hb hby d8_150) rfl rfl ?_
    refine st1664.trans ?_
    refine XS.icmpYes X1664.here hx rfl (pc0 := 154) (pc' := 176) rfl (hb hby d8_154) rfl (tlt (by decide : (2 : Int32) < (3 : Int32))).1 (by decide) (by decide) ?_
    refine XS.iload X1664.here hx rfl (hb hby d8_176) rfl ?_
    refine XS.bipush X1664.here hx rfl (hb hby d8_178) ?_
    refine XS.icmpNo X1664.here hx rfl (hb hby d8_180) rfl (flt hpx2.2.2.2.2.1).1 ?_
    refine XS.iload X1664.here hx rfl (hb hby d8_183) rfl ?_
    refine XS.bipush X1664.here hx rfl (hb hby d8_185) ?_
    refine XS.icmpNo X1664.here hx rfl (hb hby d8_187) rfl (flt hpx2.2.2.2.2.2.1).2.2.1 ?_
    refine XS.iload X1664.here hx rfl (hb hby d8_190) rfl ?_
    refine st1665.trans ?_
    refine XS.ifYes X1665.here hx rfl (pc0 := 195) (pc' := 223) rfl (hb hby d8_195) rfl ((if0 _ _).trans (teq (by decide : (0 : Int32) = (0 : Int32))).1) (by decide) (by decide) ?_
    refine XS.aload X1665.here hx rfl (hb hby d8_223) rfl rfl ?_
    refine XS.iload X1665.here hx rfl (hb hby d8_225) rfl ?_
    refine X1665.iaload hx (j := x2) (v := (.int ((own_st (own_st (fun _ => (-1 : Int32)) x0 (0 : Int32)) x1 (1 : Int32)) x2))) (by rw [e1665]; exact Ar1666.1) (State.isArrayOf_alike hZ.alike Ar1666.2.1) Ar1666.2.2 (own_inb S1666 hpx2.2.2.2.2.2.2.2.2.1 hpx2.2.2.2.2.2.2.2.2.2) hat1666 (g := (mkF m 227 (Y30 oA oS oR r1538 b1565 2 x2) [(.int x2), (.ref b1565)])) rfl rfl (hb hby d8_227) _ ?_
    refine XS.iconst X1665.here hx rfl (hb hby d8_228) ?_
    refine XS.icmpYes X1665.here hx rfl (pc0 := 229) (pc' := 274) rfl (hb hby d8_229) rfl (teq hk1666).1 (by decide) (by decide) ?_
    refine XS.aload X1665.here hx rfl (hb hby d8_274) rfl rfl ?_
    refine XS.iload X1665.here hx rfl (hb hby d8_276) rfl ?_
    refine XS.iload X1665.here hx rfl (hb hby d8_278) rfl ?_
    refine XS.aloadN X1665.here hx rfl (hb hby d8_280) rfl rfl ?_
    refine st1667.trans ?_
    refine XS.irem X1667.here hx rfl (hb hby d8_284) rfl (by decide) ?_
    refine st1669 _ ?_
    refine XS.iinc X1669.here hx rfl (hb hby d8_286) rfl (l' := (Y30 oA oS oR r1538 b1565 3 x2)) rfl ?_
    refine XS.goto X1669.here hx rfl (pc0 := 289) (pc' := 131) rfl (hb hby d8_289) (by decide) (by decide) ?_
    refine XS.iload X1669.here hx rfl (hb hby d8_131) rfl ?_
    refine XS.aloadN X1669.here hx rfl (hb hby d8_133) rfl rfl ?_
    refine st1688.trans ?_
    refine XS.icmpNo X1688.here hx rfl (hb hby d8_137) rfl (tlt (by decide : (3 : Int32) < (5 : Int32))).2.1 ?_
    refine XS.aloadN X1688.here hx rfl (hb hby d8_140) rfl rfl ?_
    refine XS.iload X1688.here hx rfl (hb hby d8_141) rfl ?_
    refine st1689.trans ?_
    refine XS.istore X1689.here hx rfl (hb hby d8_146) rfl (l' := (Y30 oA oS oR r1538 b1565 3 u0)) rfl ?_
    refine XS.iload X1689.here hx rfl (hb hby d8_148) rfl ?_
    refine XS.aloadN X1689.here hx rfl (hb hby d8_150) rfl rfl ?_
    refine st1690.trans ?_
    refine XS.icmpNo X1690.here hx rfl (hb hby d8_154) rfl (flt (by decide : ¬ ((3 : Int32) < (3 : Int32)))).1 ?_
    refine XS.iload X1690.here hx rfl (hb hby d8_157) rfl ?_
    refine XS.aloadN X1690.here hx rfl (hb hby d8_159) rfl rfl ?_
    refine XS.iload X1690.here hx rfl (hb hby d8_160) rfl ?_
    refine XS.aloadN X1690.here hx rfl (hb hby d8_162) rfl rfl ?_
    refine st1691.trans ?_
    refine XS.isub X1691.here hx rfl (hb hby d8_166) rfl ?_
    refine st1692.trans ?_
    exact kt)
  obtain ⟨T1720, L1720, X1720, N1720, hP1720, pre1720⟩ : ∃ (T' : State) (locs' : List Loc), Stand p l e (⟨6, 5, 157, 91⟩ : Room) s m #[(.ref oA), (.ref oS), (.ref oR)] below meth c T' locs' 5 157 ∧ Fr n0 locs' ∧ (Keep h1669 T'.heap [b1565] ∧ Ints Z T'.heap b1565 (own_al (own_sy x0 x1 x2) u0 x0 (0 : Int32))) ∧ PQ p e below T' (mkF m 286 (Y30 oA oS oR r1538 b1565 3 u0) []) bs := by
    by_cases hc1694 : u0 = x0
    case pos =>
      have pre1695 : PQ p e below T1692 (mkF m 286 (Y30 oA oS oR r1538 b1565 3 u0) []) bs := fun t kt => pre1693 t (by
        refine XS.icmpNo X1692.here hx rfl (hb hby d8_170) rfl (teq hc1694).2 ?_
        refine XS.goto X1692.here hx rfl (pc0 := 173) (pc' := 286) rfl (hb hby d8_173) (by decide) (by decide) ?_
        exact kt)
      exact ⟨T1692, _, own_more X1692 (by decide) (by decide), N1692, (by rw [e1692]; exact (⟨Keep.refl h1669 [b1565], by rw [← own_al1 hc1694]; exact I1669⟩ : Keep h1669 h1669 [b1565] ∧ Ints Z h1669 b1565 (own_al (own_sy x0 x1 x2) u0 x0 (0 : Int32)))), pre1695⟩
    case neg =>
      obtain ⟨_, T1696, L1696, X1696, N1696, ⟨_, rfl, -, e1696⟩, st1696⟩ := own_cS X1692 hx hZ hown (own_k_534 hw) (rmSep hw u0 z1670 hpu0) (W := 0) (k := 5) (n := 157) (by decide) e1692 N1692 (fun _ _ _ h => h.2.1) (Ls := (Y30 oA oS oR r1538 b1565 3 u0)) (rest := []) hml.symm (lenOf pd_535 rfl) (Nat.le_of_eq rfl) (hb hby d8_192)
      obtain ⟨cl1697, Ar1697, S1697, H1697⟩ := id I1669
      have hk1697 : ((own_sy x0 x1 x2) u0) = (-1 : Int32) := by simp [own_sy, own_st, own_al, hx01, hx02, hx12, hu01, hm01, hm02, hm10, hm12, hc1694]
      have hat1697 : cl1697.slots[(u0).toNatClampNeg]? = some (.int ((own_sy x0 x1 x2) u0)) := H1697 _ hpu0.2.2.2.2.2.2.2.2.1 hpu0.2.2.2.2.2.2.2.2.2
      obtain ⟨_, T1698, L1698, X1698, N1698, ⟨_, rfl, -, e1698⟩, st1698⟩ := own_cV X1696 hx hZ hown (own_k_479 hw) (rmLen3 hw oS yS kS x0 x1 x2 z1670 c1672 c1673 c1674 c1675 c1676) (W := 3) (k := 5) (n := 157) (by decide) e1696 N1696 (fun _ _ _ h => h.2.1) c1673 (Ls := (Y30 oA oS oR r1538 b1565 3 u0)) (rest := [(.int (3 : Int32)), (.int u0), (.ref b1565)]) hml.symm (lenOf pd_272 rfl) (Nat.le_of_eq rfl) (hb hby d8_281)
      obtain ⟨cl1699, Ar1699, S1699, H1699⟩ := id I1669
      obtain ⟨T1700, h1700, X1700, e1700, W1700, st1700⟩ := stI X1698 hx hZ e1698 Ar1699 (j := u0) (own_inb S1699 hpu0.2.2.2.2.2.2.2.2.1 hpu0.2.2.2.2.2.2.2.2.2) (g := (mkF m 285 (Y30 oA oS oR r1538 b1565 3 u0) [(.int (0 : Int32)), (.int u0), (.ref b1565)])) rfl rfl (hb hby d8_285)
      have I1700 := own_ints_set Ar1699 S1699 H1699 W1700 hpu0.2.2.2.2.2.2.2.2.1 hpu0.2.2.2.2.2.2.2.2.2
      have N1700 := Fr.snoc X1700 N1698 G1565
      have pre1719 : PQ p e below T1700 (mkF m 286 (Y30 oA oS oR r1538 b1565 3 u0) []) bs := fun t kt => pre1693 t (by
        refine XS.icmpYes X1692.here hx rfl (pc0 := 170) (pc' := 176) rfl (hb hby d8_170) rfl (feq hc1694).2 (by decide) (by decide) ?_
        refine XS.iload X1692.here hx rfl (hb hby d8_176) rfl ?_
        refine XS.bipush X1692.here hx rfl (hb hby d8_178) ?_
        refine XS.icmpNo X1692.here hx rfl (hb hby d8_180) rfl (flt hpu0.2.2.2.2.1).1 ?_
        refine XS.iload X1692.here hx rfl (hb hby d8_183) rfl ?_
        refine XS.bipush X1692.here hx rfl (hb hby d8_185) ?_
        refine XS.icmpNo X1692.here hx rfl (hb hby d8_187) rfl (flt hpu0.2.2.2.2.2.1).2.2.1 ?_
        refine XS.iload X1692.here hx rfl (hb hby d8_190) rfl ?_
        refine st1696.trans ?_
        refine XS.ifYes X1696.here hx rfl (pc0 := 195) (pc' := 223) rfl (hb hby d8_195) rfl ((if0 _ _).trans (teq (by decide : (0 : Int32) = (0 : Int32))).1) (by decide) (by decide) ?_
        refine XS.aload X1696.here hx rfl (hb hby d8_223) rfl rfl ?_
        refine XS.iload X1696.here hx rfl (hb hby d8_225) rfl ?_
        refine X1696.iaload hx (j := u0) (v := (.int ((own_sy x0 x1 x2) u0))) (by rw [e1696]; exact Ar1697.1) (State.isArrayOf_alike hZ.alike Ar1697.2.1) Ar1697.2.2 (own_inb S1697 hpu0.2.2.2.2.2.2.2.2.1 hpu0.2.2.2.2.2.2.2.2.2) hat1697 (g := (mkF m 227 (Y30 oA oS oR r1538 b1565 3 u0) [(.int u0), (.ref b1565)])) rfl rfl (hb hby d8_227) _ ?_
        refine XS.iconst X1696.here hx rfl (hb hby d8_228) ?_
        refine XS.icmpYes X1696.here hx rfl (pc0 := 229) (pc' := 274) rfl (hb hby d8_229) rfl (teq hk1697).1 (by decide) (by decide) ?_
        refine XS.aload X1696.here hx rfl (hb hby d8_274) rfl rfl ?_
        refine XS.iload X1696.here hx rfl (hb hby d8_276) rfl ?_
        refine XS.iload X1696.here hx rfl (hb hby d8_278) rfl ?_
        refine XS.aloadN X1696.here hx rfl (hb hby d8_280) rfl rfl ?_
        refine st1698.trans ?_
        refine XS.irem X1698.here hx rfl (hb hby d8_284) rfl (by decide) ?_
        refine st1700 _ ?_
        exact kt)
      exact ⟨T1700, _, own_more X1700 (by decide) (by decide), N1700, (by rw [e1700]; exact (⟨Keep.of_wr W1700, by rw [← own_al0 hc1694]; exact I1700⟩ : Keep h1669 h1700 [b1565] ∧ Ints Z h1700 b1565 (own_al (own_sy x0 x1 x2) u0 x0 (0 : Int32)))), pre1719⟩
  obtain ⟨K1720, I1720⟩ := hP1720
  have z1721 : n0 ≤ T1720.heap.size := Nat.le_trans z1670 K1720.1
  have c1722 := c1671.trans K1720 (allS (Or.inr sz1565) all0)
  have c1723 := c1672.keep K1720 (allS G1565 all0)
  have c1724 := c1673.keep K1720
  have c1725 := c1674.keep K1720 (ninS ne1566 nin0)
  have c1726 := c1675.keep K1720 (ninS ne1566 nin0)
  have c1727 := c1676.keep K1720 (ninS ne1567 nin0)
  have c1732 := c1681.keep K1720
  have c1733 := c1682.keep K1720 (ninS ne1570 nin0)
  have c1734 := c1683.keep K1720 (ninS ne1570 nin0)
  have c1735 := c1684.keep K1720
  have c1736 := c1685.keep K1720 (ninS ne1571 nin0)
  have c1737 := c1686.keep K1720 (ninS ne1571 nin0)
  have c1738 := c1687.keep K1720 (ninS ne1572 nin0)
  obtain ⟨_, T1739, L1739, X1739, N1739, ⟨_, rfl, -, e1739⟩, st1739⟩ := own_cV X1720 hx hZ hown (own_k_479 hw) (rmLen5 hw r1538 yy1538 kc1538 x0 x1 x2 u0 u1 z1721 c1723 c1735 c1736 c1737 c1738) (W := 1) (k := 5) (n := 157) (by decide) rfl N1720 (fun _ _ _ h => h.2.1) c1735 (Ls := (Y30 oA oS oR r1538 b1565 4 u0)) (rest := [(.int (4 : Int32))]) hml.symm (lenOf pd_272 rfl) (Nat.le_of_eq rfl) (hb hby d8_134)
  obtain ⟨_, T1740, L1740, X1740, N1740, ⟨_, rfl, -, e1740⟩, st1740⟩ := own_cV X1739 hx hZ hown (own_k_519 hw) (rmCa hw r1538 yy1538 kc1538 (5 : Int32) (4 : Int32) u1 [(.int x0), (.int x1), (.int x2), (.int u0), (.int u1)] z1721 c1723 c1735 c1736 c1737 c1738 (by decide) (by decide) rfl hpu1) (W := 0) (k := 5) (n := 157) (by decide) e1739 N1739 (fun _ _ _ h => h.2.1) c1735 (Ls := (Y30 oA oS oR r1538 b1565 4 u0)) (rest := []) hml.symm (lenOf pd_520 rfl) (Nat.le_of_eq rfl) (hb hby d8_143)
  obtain ⟨_, T1741, L1741, X1741, N1741, ⟨_, rfl, -, e1741⟩, st1741⟩ := own_cV X1740 hx hZ hown (own_k_479 hw) (rmLen3 hw oS yS kS x0 x1 x2 z1721 c1723 c1724 c1725 c1726 c1727) (W := 1) (k := 5) (n := 157) (by decide) e1740 N1740 (fun _ _ _ h => h.2.1) c1724 (Ls := (Y30 oA oS oR r1538 b1565 4 u1)) (rest := [(.int (4 : Int32))]) hml.symm (lenOf pd_272 rfl) (Nat.le_of_eq rfl) (hb hby d8_151)
  obtain ⟨_, T1742, L1742, X1742, N1742, ⟨_, rfl, -, e1742⟩, st1742⟩ := own_cV X1741 hx hZ hown (own_k_479 hw) (rmLen3 hw oS yS kS x0 x1 x2 z1721 c1723 c1724 c1725 c1726 c1727) (W := 3) (k := 5) (n := 157) (by decide) e1741 N1741 (fun _ _ _ h => h.2.1) c1724 (Ls := (Y30 oA oS oR r1538 b1565 4 u1)) (rest := [(.int (4 : Int32)), (.ref oS), (.int u1)]) hml.symm (lenOf pd_272 rfl) (Nat.le_of_eq rfl) (hb hby d8_163)
  obtain ⟨_, T1743, L1743, X1743, N1743, ⟨_, rfl, -, e1743⟩, st1743⟩ := own_cV X1742 hx hZ hown (own_k_519 hw) (rmCa hw oS yS kS (3 : Int32) (1 : Int32) x1 [(.int x0), (.int x1), (.int x2)] z1721 c1723 c1724 c1725 c1726 c1727 (by decide) (by decide) rfl hpx1) (W := 1) (k := 5) (n := 157) (by decide) e1742 N1742 (fun _ _ _ h => h.2.1) c1724 (Ls := (Y30 oA oS oR r1538 b1565 4 u1)) (rest := [(.int u1)]) hml.symm (lenOf pd_520 rfl) (Nat.le_of_eq rfl) (hb hby d8_167)
  have pre1744 : PQ p e below T1743 (mkF m 170 (Y30 oA oS oR r1538 b1565 4 u1) [(.int x1), (.int u1)]) bs := fun t kt => pre1720 t (by
    refine XS.iinc X1720.here hx rfl (hb hby d8_286) rfl (l' := (Y30 oA oS oR r1538 b1565 4 u0)) rfl ?_
    refine XS.goto X1720.here hx rfl (pc0 := 289) (pc' := 131) rfl (hb hby d8_289) (by decide) (by decide) ?_
    refine XS.iload X1720.here hx rfl (hb hby d8_131) rfl ?_
    refine XS.aloadN X1720.here hx rfl (hb hby d8_133) rfl rfl ?_
    refine st1739.trans ?_
    refine XS.icmpNo X1739.here hx rfl (hb hby d8_137) rfl (tlt (by decide : (4 : Int32) < (5 : Int32))).2.1 ?_
    refine XS.aloadN X1739.here hx rfl (hb hby d8_140) rfl rfl ?_
    refine XS.iload X1739.here hx rfl (hb hby d8_141) rfl ?_
    refine st1740.trans ?_
    refine XS.istore X1740.here hx rfl (hb hby d8_146) rfl (l' := (Y30 oA oS oR r1538 b1565 4 u1)) rfl ?_
    refine XS.iload X1740.here hx rfl (hb hby d8_148) rfl ?_
    refine XS.aloadN X1740.here hx rfl (hb hby d8_150) rfl rfl ?_
    refine st1741.trans ?_
    refine XS.icmpNo X1741.here hx rfl (hb hby d8_154) rfl (flt (by decide : ¬ ((4 : Int32) < (3 : Int32)))).1 ?_
    refine XS.iload X1741.here hx rfl (hb hby d8_157) rfl ?_
    refine XS.aloadN X1741.here hx rfl (hb hby d8_159) rfl rfl ?_
    refine XS.iload X1741.here hx rfl (hb hby d8_160) rfl ?_
    refine XS.aloadN X1741.here hx rfl (hb hby d8_162) rfl rfl ?_
    refine st1742.trans ?_
    refine XS.isub X1742.here hx rfl (hb hby d8_166) rfl ?_
    refine st1743.trans ?_
    exact kt)
  obtain ⟨T1771, L1771, X1771, N1771, hP1771, pre1771⟩ : ∃ (T' : State) (locs' : List Loc), Stand p l e (⟨6, 5, 157, 91⟩ : Room) s m #[(.ref oA), (.ref oS), (.ref oR)] below meth c T' locs' 5 157 ∧ Fr n0 locs' ∧ (Keep T1720.heap T'.heap [b1565] ∧ Ints Z T'.heap b1565 (own_al (own_al (own_sy x0 x1 x2) u0 x0 (0 : Int32)) u1 x1 (1 : Int32))) ∧ PQ p e below T' (mkF m 286 (Y30 oA oS oR r1538 b1565 4 u1) []) bs := by
    by_cases hc1745 : u1 = x1
    case pos =>
      have pre1746 : PQ p e below T1743 (mkF m 286 (Y30 oA oS oR r1538 b1565 4 u1) []) bs := fun t kt => pre1744 t (by
        refine XS.icmpNo X1743.here hx rfl (hb hby d8_170) rfl (teq hc1745).2 ?_
        refine XS.goto X1743.here hx rfl (pc0 := 173) (pc' := 286) rfl (hb hby d8_173) (by decide) (by decide) ?_
        exact kt)
      exact ⟨T1743, _, own_more X1743 (by decide) (by decide), N1743, (by rw [e1743]; exact (⟨Keep.refl T1720.heap [b1565], by rw [← own_al1 hc1745]; exact I1720⟩ : Keep T1720.heap T1720.heap [b1565] ∧ Ints Z T1720.heap b1565 (own_al (own_al (own_sy x0 x1 x2) u0 x0 (0 : Int32)) u1 x1 (1 : Int32)))), pre1746⟩
    case neg =>
      obtain ⟨_, T1747, L1747, X1747, N1747, ⟨_, rfl, -, e1747⟩, st1747⟩ := own_cS X1743 hx hZ hown (own_k_534 hw) (rmSep hw u1 z1721 hpu1) (W := 0) (k := 5) (n := 157) (by decide) e1743 N1743 (fun _ _ _ h => h.2.1) (Ls := (Y30 oA oS oR r1538 b1565 4 u1)) (rest := []) hml.symm (lenOf pd_535 rfl) (Nat.le_of_eq rfl) (hb hby d8_192)
      obtain ⟨cl1748, Ar1748, S1748, H1748⟩ := id I1720
      have hk1748 : ((own_al (own_sy x0 x1 x2) u0 x0 (0 : Int32)) u1) = (-1 : Int32) := by simp [own_sy, own_st, own_al, hx01, hx02, hx12, hu01, hm01, hm02, hm10, hm12, hc1745]
      have hat1748 : cl1748.slots[(u1).toNatClampNeg]? = some (.int ((own_al (own_sy x0 x1 x2) u0 x0 (0 : Int32)) u1)) := H1748 _ hpu1.2.2.2.2.2.2.2.2.1 hpu1.2.2.2.2.2.2.2.2.2
      obtain ⟨_, T1749, L1749, X1749, N1749, ⟨_, rfl, -, e1749⟩, st1749⟩ := own_cV X1747 hx hZ hown (own_k_479 hw) (rmLen3 hw oS yS kS x0 x1 x2 z1721 c1723 c1724 c1725 c1726 c1727) (W := 3) (k := 5) (n := 157) (by decide) e1747 N1747 (fun _ _ _ h => h.2.1) c1724 (Ls := (Y30 oA oS oR r1538 b1565 4 u1)) (rest := [(.int (4 : Int32)), (.int u1), (.ref b1565)]) hml.symm (lenOf pd_272 rfl) (Nat.le_of_eq rfl) (hb hby d8_281)
      obtain ⟨cl1750, Ar1750, S1750, H1750⟩ := id I1720
      obtain ⟨T1751, h1751, X1751, e1751, W1751, st1751⟩ := stI X1749 hx hZ e1749 Ar1750 (j := u1) (own_inb S1750 hpu1.2.2.2.2.2.2.2.2.1 hpu1.2.2.2.2.2.2.2.2.2) (g := (mkF m 285 (Y30 oA oS oR r1538 b1565 4 u1) [(.int (1 : Int32)), (.int u1), (.ref b1565)])) rfl rfl (hb hby d8_285)
      have I1751 := own_ints_set Ar1750 S1750 H1750 W1751 hpu1.2.2.2.2.2.2.2.2.1 hpu1.2.2.2.2.2.2.2.2.2
      have N1751 := Fr.snoc X1751 N1749 G1565
      have pre1770 : PQ p e below T1751 (mkF m 286 (Y30 oA oS oR r1538 b1565 4 u1) []) bs := fun t kt => pre1744 t (by
        refine XS.icmpYes X1743.here hx rfl (pc0 := 170) (pc' := 176) rfl (hb hby d8_170) rfl (feq hc1745).2 (by decide) (by decide) ?_
        refine XS.iload X1743.here hx rfl (hb hby d8_176) rfl ?_
        refine XS.bipush X1743.here hx rfl (hb hby d8_178) ?_
        refine XS.icmpNo X1743.here hx rfl (hb hby d8_180) rfl (flt hpu1.2.2.2.2.1).1 ?_
        refine XS.iload X1743.here hx rfl (hb hby d8_183) rfl ?_
        refine XS.bipush X1743.here hx rfl (hb hby d8_185) ?_
        refine XS.icmpNo X1743.here hx rfl (hb hby d8_187) rfl (flt hpu1.2.2.2.2.2.1).2.2.1 ?_
        refine XS.iload X1743.here hx rfl (hb hby d8_190) rfl ?_
        refine st1747.trans ?_
        refine XS.ifYes X1747.here hx rfl (pc0 := 195) (pc' := 223) rfl (hb hby d8_195) rfl ((if0 _ _).trans (teq (by decide : (0 : Int32) = (0 : Int32))).1) (by decide) (by decide) ?_
        refine XS.aload X1747.here hx rfl (hb hby d8_223) rfl rfl ?_
        refine XS.iload X1747.here hx rfl (hb hby d8_225) rfl ?_
        refine X1747.iaload hx (j := u1) (v := (.int ((own_al (own_sy x0 x1 x2) u0 x0 (0 : Int32)) u1))) (by rw [e1747]; exact Ar1748.1) (State.isArrayOf_alike hZ.alike Ar1748.2.1) Ar1748.2.2 (own_inb S1748 hpu1.2.2.2.2.2.2.2.2.1 hpu1.2.2.2.2.2.2.2.2.2) hat1748 (g := (mkF m 227 (Y30 oA oS oR r1538 b1565 4 u1) [(.int u1), (.ref b1565)])) rfl rfl (hb hby d8_227) _ ?_
        refine XS.iconst X1747.here hx rfl (hb hby d8_228) ?_
        refine XS.icmpYes X1747.here hx rfl (pc0 := 229) (pc' := 274) rfl (hb hby d8_229) rfl (teq hk1748).1 (by decide) (by decide) ?_
        refine XS.aload X1747.here hx rfl (hb hby d8_274) rfl rfl ?_
        refine XS.iload X1747.here hx rfl (hb hby d8_276) rfl ?_
        refine XS.iload X1747.here hx rfl (hb hby d8_278) rfl ?_
        refine XS.aloadN X1747.here hx rfl (hb hby d8_280) rfl rfl ?_
        refine st1749.trans ?_
        refine XS.irem X1749.here hx rfl (hb hby d8_284) rfl (by decide) ?_
        refine st1751 _ ?_
        exact kt)
      exact ⟨T1751, _, own_more X1751 (by decide) (by decide), N1751, (by rw [e1751]; exact (⟨Keep.of_wr W1751, by rw [← own_al0 hc1745]; exact I1751⟩ : Keep T1720.heap h1751 [b1565] ∧ Ints Z h1751 b1565 (own_al (own_al (own_sy x0 x1 x2) u0 x0 (0 : Int32)) u1 x1 (1 : Int32)))), pre1770⟩
  obtain ⟨K1771, I1771⟩ := hP1771
  have z1772 : n0 ≤ T1771.heap.size := Nat.le_trans z1721 K1771.1
  have c1773 := c1722.trans K1771 (allS (Or.inr sz1565) all0)
  have c1774 := c1723.keep K1771 (allS G1565 all0)
  have c1783 := c1732.keep K1771
  have c1784 := c1733.keep K1771 (ninS ne1570 nin0)
  have c1785 := c1734.keep K1771 (ninS ne1570 nin0)
  have c1786 := c1735.keep K1771
  have c1787 := c1736.keep K1771 (ninS ne1571 nin0)
  have c1788 := c1737.keep K1771 (ninS ne1571 nin0)
  have c1789 := c1738.keep K1771 (ninS ne1572 nin0)
  obtain ⟨_, T1790, L1790, X1790, N1790, ⟨_, rfl, -, e1790⟩, st1790⟩ := own_cV X1771 hx hZ hown (own_k_479 hw) (rmLen5 hw r1538 yy1538 kc1538 x0 x1 x2 u0 u1 z1772 c1774 c1786 c1787 c1788 c1789) (W := 1) (k := 5) (n := 157) (by decide) rfl N1771 (fun _ _ _ h => h.2.1) c1786 (Ls := (Y30 oA oS oR r1538 b1565 5 u1)) (rest := [(.int (5 : Int32))]) hml.symm (lenOf pd_272 rfl) (Nat.le_of_eq rfl) (hb hby d8_134)
  obtain ⟨T1791, h1791, X1791, e1791, W1791, st1791⟩ := putF X1790 hx hZ hown (host := "") (Or.inl (own_w hw 182 rfl)) Via.refl e1790 c1784 c1783 (Or.inr ⟨(own_w hw 183 rfl), rfl, hnm⟩) (own_w hw 36 rfl) (ty := (.object "java/lang/String")) (by decide) rfl rfl (g := (mkF m 294 (Y30 oA oS oR r1538 b1565 5 u1) [(.ref oS), (.ref oA)])) rfl rfl (hb hby d8_294)
  have N1791 := Fr.snoc X1791 N1790 GA
  have c1793 := c1773.wr W1791 (Or.inl (List.mem_of_getElem? (i := 0) rfl))
  have c1795 := c1783.wr W1791
  have c1797 := c1785.other W1791 (Or.inr (own_sn_554 hw))
  have I1798 := I1771.other W1791 (Ne.symm ne1570)
  obtain ⟨T1799, h1799, X1799, e1799, W1799, st1799⟩ := putF X1791 hx hZ hown (host := "") (Or.inl (own_w hw 184 rfl)) Via.refl e1791 c1797 c1795 (Or.inr ⟨(own_w hw 185 rfl), rfl, hnm⟩) (own_w hw 36 rfl) (ty := (.array .int)) (by decide) rfl rfl (g := (mkF m 300 (Y30 oA oS oR r1538 b1565 5 u1) [(.ref b1565), (.ref oA)])) rfl rfl (hb hby d8_300)
  have Fw1799 := c1797.same W1799
  have N1799 := Fr.snoc X1799 N1791 GA
  have c1801 := c1793.wr W1799 (Or.inl (List.mem_of_getElem? (i := 0) rfl))
  have I1806 := I1798.other W1799 (Ne.symm ne1570)
  have pre1807 : PQ p e below T1799 (mkF m 303 (Y30 oA oS oR r1538 b1565 5 u1) []) bs := fun t kt => pre1771 t (by
    refine XS.iinc X1771.here hx rfl (hb hby d8_286) rfl (l' := (Y30 oA oS oR r1538 b1565 5 u1)) rfl ?_
    refine XS.goto X1771.here hx rfl (pc0 := 289) (pc' := 131) rfl (hb hby d8_289) (by decide) (by decide) ?_
    refine XS.iload X1771.here hx rfl (hb hby d8_131) rfl ?_
    refine XS.aloadN X1771.here hx rfl (hb hby d8_133) rfl rfl ?_
    refine st1790.trans ?_
    refine XS.icmpYes X1790.here hx rfl (pc0 := 137) (pc' := 292) rfl (hb hby d8_137) rfl (flt (by decide : ¬ ((5 : Int32) < (5 : Int32)))).2.1 (by decide) (by decide) ?_
    refine XS.aloadN X1790.here hx rfl (hb hby d8_292) rfl rfl ?_
    refine XS.aloadN X1790.here hx rfl (hb hby d8_293) rfl rfl ?_
    refine st1791 _ ?_
    refine XS.aloadN X1791.here hx rfl (hb hby d8_297) rfl rfl ?_
    refine XS.aload X1791.here hx rfl (hb hby d8_298) rfl rfl ?_
    refine st1799 _ ?_
    exact kt)
  have hQ : QAl2 Z oA x0 x1 x2 u0 u1 h0 n0 none h1799 _ := ⟨b1565, rfl, N1799, c1801, Fw1799, I1806⟩
  exact own_retV X1799 hx hlk hrt (hb hby d8_303) pre1807 (show QAl2 Z oA x0 x1 x2 u0 u1 h0 n0 _ _ _ from (by rw [e1799]; exact hQ)) (by decide) (by decide)
def QAl3 (Z : State) (oA : Addr) (x0 x1 x2 : Int32) (u0 u1 u2 : Int32) (h0 : Heap) (n0 : Nat) (v : Option Value) (h : Heap) (L : List Loc) : Prop := ∃ (r : Addr), v = none ∧ Fr n0 L ∧ Keep h0 h [oA] ∧ Ff Z h oA (.ref r) ∧ Ints Z h r (own_al (own_al (own_al (own_sy x0 x1 x2) u0 x0 (0 : Int32)) u1 x1 (1 : Int32)) u2 x2 (2 : Int32))
set_option maxRecDepth 65536 in
set_option maxHeartbeats 40000000 in
theorem rmAl3 {l : Launch} {Z : State} {a0 : Array Value} (hw : Hw a0 Z) {ws : List Jvm.Cond} (oA : Addr) (oS yS : Addr) (kS : ClassId) (oR yR : Addr) (kR : ClassId) (x0 x1 x2 : Int32) (u0 u1 u2 : Int32) {h0 : Heap} {n0 : Nat} (Z0 : n0 ≤ h0.size) {cs : Int32} {fv : Value} (Ev : Ev0 Z n0 h0 cs fv) (EA : Exa Z h0 oA "com/example/digitwarden/digitwarden/model/Alphabet") (FsA : Fg Z h0 oA .null) (FvA : Ff Z h0 oA .null) (GA : n0 ≤ oA) (ES : Exa Z h0 oS "java/lang/String") (FcS : Fa Z h0 oS (.int (0 : Int32))) (FvS : Fb Z h0 oS (.ref yS)) (VS : Arv Z h0 yS kS .byte (3 : Int32) [(.int x0), (.int x1), (.int x2)] (.int (0 : Int32))) (ER : Exa Z h0 oR "java/lang/String") (FcR : Fa Z h0 oR (.int (0 : Int32))) (FvR : Fb Z h0 oR (.ref yR)) (VR : Arv Z h0 yR kR .byte (3 : Int32) [(.int u0), (.int u1), (.int u2)] (.int (0 : Int32))) (hpx0 : Pr x0) (hpx1 : Pr x1) (hpx2 : Pr x2) (hpu0 : Pr u0) (hpu1 : Pr u1) (hpu2 : Pr u2) (hx01 : ¬ x1 = x0) (hx02 : ¬ x2 = x0) (hx12 : ¬ x2 = x1) (hu01 : ¬ u1 = u0) (hu02 : ¬ u2 = u0) (hu12 : ¬ u2 = u1) (hm01 : ¬ u0 = x1) (hm02 : ¬ u0 = x2) (hm10 : ¬ u1 = x0) (hm12 : ¬ u1 = x2) (hm20 : ¬ u2 = x0) (hm21 : ¬ u2 = x1) (hn1 : oS ≠ oA) (hn2 : yS ≠ oA) (hn3 : oR ≠ oA) (hn4 : yR ≠ oA) : MF l Z own_y_473 prog_8_method_2_code 7 none ws (⟨6, 5, 158, 91⟩ : Room) #[(.ref oA), (.ref oS), (.ref oR)] h0 (QAl3 Z oA x0 x1 x2 u0 u1 u2 h0 n0) := by
  refine own_en (plainFor_of_name pn_452) (fun m => ef_474 m oA oS oR) fun p e s m below meth c s₁ bs hx hby hml hZ hown hnm X0 e0 hlk hrt pre0 => ?_
  have N0 := Fr.nil n0
  obtain ⟨T1808, X1808, e1808, st1808⟩ := initO X0 hx hZ hown (own_w hw 41 rfl) (own_w hw 17 rfl) (own_w hw 18 rfl) e0 (g := (mkF m 1 (Y26 oA oS oR) [(.ref oA)])) rfl (by rw [hml]; rfl) rfl (hb hby d8_1) (by decide) (W := 0) (by show 2 * 0 + _ ≤ _; exact Nat.le_of_eq rfl) (by decide)
  obtain ⟨_, T1809, L1809, X1809, N1809, ⟨_, rfl, -, e1809⟩, st1809⟩ := own_cV X1808 hx hZ hown (own_k_479 hw) (rmLen3 hw oS yS kS x0 x1 x2 Z0 Ev ES FcS FvS VS) (W := 0) (k := 0) (n := 0) (by decide) e1808 N0 (fun _ _ _ h => h.2.1) ES (Ls := (Y26 oA oS oR)) (rest := []) hml.symm (lenOf pd_272 rfl) (Nat.le_of_eq rfl) (hb hby d8_5)
  obtain ⟨_, T1810, L1810, X1810, N1810, ⟨_, rfl, -, e1810⟩, st1810⟩ := own_cV X1809 hx hZ hown (own_k_479 hw) (rmLen3 hw oR yR kR u0 u1 u2 Z0 Ev ER FcR FvR VR) (W := 0) (k := 0) (n := 0) (by decide) e1809 N1809 (fun _ _ _ h => h.2.1) ER (Ls := (Y26 oA oS oR)) (rest := []) hml.symm (lenOf pd_272 rfl) (Nat.le_of_eq rfl) (hb hby d8_45)
  obtain ⟨_, T1811, L1811, X1811, N1811, ⟨_, rfl, -, e1811⟩, st1811⟩ := own_cV X1810 hx hZ hown (own_k_479 hw) (rmLen3 hw oS yS kS x0 x1 x2 Z0 Ev ES FcS FvS VS) (W := 1) (k := 0) (n := 0) (by decide) e1810 N1810 (fun _ _ _ h => h.2.1) ES (Ls := (Y26 oA oS oR)) (rest := [(.int (3 : Int32))]) hml.symm (lenOf pd_272 rfl) (Nat.le_of_eq rfl) (hb hby d8_49)
  obtain ⟨T1812, h1812, X1812, e1812, E1812, A1812, D1812, -, st1812⟩ := newO X1811 hx hZ hown (own_w hw 52 rfl) (own_w hw 53 rfl) (own_w hw 54 rfl) e1811 (g := (mkF m 96 (Y26 oA oS oR) [])) rfl (hb hby d8_96) (by decide) (by decide)
  obtain ⟨b1812, g1812⟩ : ∃ z, z = h0.size := ⟨_, rfl⟩
  rw [← g1812] at A1812 D1812 st1812
  have G1812 : n0 ≤ b1812 := Nat.le_trans Z0 (Nat.le_of_eq g1812.symm)
  have sz1812 : h0.size ≤ b1812 := Nat.le_trans (Keep.refl h0 [oA]).1 (Nat.le_of_eq g1812.symm)
  have ne1813 : oS ≠ b1812 := Nat.ne_of_lt (Nat.lt_of_lt_of_le ES.lt (Nat.le_of_eq g1812.symm))
  have ne1814 : yS ≠ b1812 := Nat.ne_of_lt (Nat.lt_of_lt_of_le VS.lt (Nat.le_of_eq g1812.symm))
  have ne1815 : oR ≠ b1812 := Nat.ne_of_lt (Nat.lt_of_lt_of_le ER.lt (Nat.le_of_eq g1812.symm))
  have ne1816 : yR ≠ b1812 := Nat.ne_of_lt (Nat.lt_of_lt_of_le VR.lt (Nat.le_of_eq g1812.symm))
  have ne1817 : oA ≠ b1812 := Nat.ne_of_lt (Nat.lt_of_lt_of_le EA.lt (Nat.le_of_eq g1812.symm))
  have c1818 := (Keep.refl h0 [oA]).ext E1812
  have c1819 := Ev.ext E1812
  have c1820 := ES.ext E1812
  have c1821 := FcS.ext E1812
  have c1822 := FvS.ext E1812
  have c1823 := VS.ext E1812
  have c1824 := ER.ext E1812
  have c1825 := FcR.ext E1812
  have c1826 := FvR.ext E1812
  have c1827 := VR.ext E1812
  have c1828 := EA.ext E1812
  have c1829 := FsA.ext E1812
  have c1830 := FvA.ext E1812
  have F1831 : Fc Z h1812 b1812 .null := D1812 (Or.inl (own_w hw 67 rfl)) (ty := (.array .byte)) (by decide)
  have F1832 : Fd Z h1812 b1812 (.int (0 : Int32)) := D1812 (Or.inl (own_w hw 69 rfl)) (ty := .byte) (by decide)
  have F1833 : Fe Z h1812 b1812 (.int (0 : Int32)) := D1812 (Or.inl (own_w hw 82 rfl)) (ty := .int) (by decide)
  have z1834 : n0 ≤ h1812.size := Nat.le_trans Z0 E1812.1
  obtain ⟨_, T1835, L1835, X1835, N1835, ⟨_, r1835, kc1835, rfl, -, K1835, z1835, G1835, Fv1835, Fc1835, Fn1835, V1835⟩, st1835⟩ := own_cI X1812 hx hZ hown (own_k_490 hw) (rmBj hw b1812 z1834 c1819 A1812 F1831 F1832 F1833 G1812) (W := 1) (k := 2) (n := 20) (by decide) e1812 N1811 (fun _ _ _ ⟨_, _, _, h, _⟩ => h) (Ls := (Y26 oA oS oR)) (rest := [(.ref b1812)]) hml.symm (lenOf pd_491 rfl) (Nat.le_of_eq rfl) (hb hby d8_100)
  have szr1835_z1835 : h0.size ≤ r1835 := Nat.le_trans c1818.1 z1835
  have ne1836 : oS ≠ r1835 := Nat.ne_of_lt (Nat.lt_of_lt_of_le c1820.lt z1835)
  have ne1837 : yS ≠ r1835 := Nat.ne_of_lt (Nat.lt_of_lt_of_le c1823.lt z1835)
  have ne1838 : oR ≠ r1835 := Nat.ne_of_lt (Nat.lt_of_lt_of_le c1824.lt z1835)
  have ne1839 : yR ≠ r1835 := Nat.ne_of_lt (Nat.lt_of_lt_of_le c1827.lt z1835)
  have ne1840 : oA ≠ r1835 := Nat.ne_of_lt (Nat.lt_of_lt_of_le c1828.lt z1835)
  have ne1841 : b1812 ≠ r1835 := Nat.ne_of_lt (Nat.lt_of_lt_of_le A1812.lt z1835)
  have z1842 : n0 ≤ T1835.heap.size := Nat.le_trans z1834 K1835.1
  have c1843 := c1818.trans K1835 (allS (Or.inr sz1812) all0)
  have c1844 := c1819.keep K1835 (allS G1812 all0)
  have c1845 := c1820.keep K1835
  have c1846 := c1821.keep K1835 (ninS ne1813 nin0)
  have c1847 := c1822.keep K1835 (ninS ne1813 nin0)
  have c1848 := c1823.keep K1835 (ninS ne1814 nin0)
  have c1849 := c1824.keep K1835
  have c1850 := c1825.keep K1835 (ninS ne1815 nin0)
  have c1851 := c1826.keep K1835 (ninS ne1815 nin0)
  have c1852 := c1827.keep K1835 (ninS ne1816 nin0)
  have c1853 := c1828.keep K1835
  have c1854 := c1829.keep K1835 (ninS ne1817 nin0)
  have c1855 := c1830.keep K1835 (ninS ne1817 nin0)
  have c1856 := A1812.keep K1835
  obtain ⟨_, T1860, L1860, X1860, N1860, ⟨_, rfl, -, K1860, Fv1860, Fc1860, Fn1860, V1860⟩, st1860⟩ := own_cV X1835 hx hZ hown (own_k_494 hw) (rmAq03 hw b1812 r1835 kc1835 oS yS kS x0 x1 x2 z1842 c1844 c1856 Fv1835 Fc1835 Fn1835 V1835 c1845 c1846 c1847 c1848 G1812 G1835 (Ne.symm ne1841)) (W := 0) (k := 2) (n := 20) (by decide) rfl N1835 (fun _ _ _ h => h.2.1) c1856 (Ls := (Y26 oA oS oR)) (rest := []) hml.symm (lenOf pd_495 rfl) (Nat.le_of_eq rfl) (hb hby d8_104)
  have z1861 : n0 ≤ T1860.heap.size := Nat.le_trans z1842 K1860.1
  have c1862 := c1843.trans K1860 (allS (Or.inr sz1812) (allS (Or.inr szr1835_z1835) all0))
  have c1863 := c1844.keep K1860 (allS G1812 (allS G1835 all0))
  have c1864 := c1845.keep K1860
  have c1865 := c1846.keep K1860 (ninS ne1813 (ninS ne1836 nin0))
  have c1866 := c1847.keep K1860 (ninS ne1813 (ninS ne1836 nin0))
  have c1867 := c1848.keep K1860 (ninS ne1814 (ninS ne1837 nin0))
  have c1868 := c1849.keep K1860
  have c1869 := c1850.keep K1860 (ninS ne1815 (ninS ne1838 nin0))
  have c1870 := c1851.keep K1860 (ninS ne1815 (ninS ne1838 nin0))
  have c1871 := c1852.keep K1860 (ninS ne1816 (ninS ne1839 nin0))
  have c1872 := c1853.keep K1860
  have c1873 := c1854.keep K1860 (ninS ne1817 (ninS ne1840 nin0))
  have c1874 := c1855.keep K1860 (ninS ne1817 (ninS ne1840 nin0))
  have c1875 := c1856.keep K1860
  obtain ⟨_, T1880, L1880, X1880, N1880, ⟨_, rfl, -, K1880, Fv1880, Fc1880, Fn1880, V1880⟩, st1880⟩ := own_cV X1860 hx hZ hown (own_k_494 hw) (rmAq33 hw b1812 r1835 kc1835 oR yR kR x0 x1 x2 u0 u1 u2 z1861 c1863 c1875 Fv1860 Fc1860 Fn1860 V1860 c1868 c1869 c1870 c1871 G1812 G1835 (Ne.symm ne1841)) (W := 0) (k := 2) (n := 20) (by decide) rfl N1860 (fun _ _ _ h => h.2.1) c1875 (Ls := (Y26 oA oS oR)) (rest := []) hml.symm (lenOf pd_495 rfl) (Nat.le_of_eq rfl) (hb hby d8_108)
  have z1881 : n0 ≤ T1880.heap.size := Nat.le_trans z1861 K1880.1
  have c1882 := c1862.trans K1880 (allS (Or.inr sz1812) (allS (Or.inr szr1835_z1835) all0))
  have c1883 := c1863.keep K1880 (allS G1812 (allS G1835 all0))
  have c1884 := c1864.keep K1880
  have c1885 := c1865.keep K1880 (ninS ne1813 (ninS ne1836 nin0))
  have c1886 := c1866.keep K1880 (ninS ne1813 (ninS ne1836 nin0))
  have c1887 := c1867.keep K1880 (ninS ne1814 (ninS ne1837 nin0))
  have c1892 := c1872.keep K1880
  have c1893 := c1873.keep K1880 (ninS ne1817 (ninS ne1840 nin0))
  have c1894 := c1874.keep K1880 (ninS ne1817 (ninS ne1840 nin0))
  have c1895 := c1875.keep K1880
  obtain ⟨_, T1900, L1900, X1900, N1900, ⟨_, r1900, yy1900, kc1900, rfl, -, K1900, z1900, G1900, E1900, Fc1900, Fv1900, V1900⟩, st1900⟩ := own_cV X1880 hx hZ hown (own_k_499 hw) (rmTs6 hw b1812 r1835 kc1835 x0 x1 x2 u0 u1 u2 z1881 c1883 c1895 Fv1880 Fc1880 Fn1880 V1880) (W := 0) (k := 4) (n := 30) (by decide) rfl N1880 (fun _ _ _ ⟨_, _, _, _, h, _⟩ => h) c1895 (Ls := (Y26 oA oS oR)) (rest := []) hml.symm (lenOf pd_500 rfl) (Nat.le_of_eq rfl) (hb hby d8_111)
  have z1908 : n0 ≤ T1900.heap.size := Nat.le_trans z1881 K1900.1
  have c1909 := c1882.trans K1900 all0
  have c1910 := c1883.keep K1900 all0
  have c1911 := c1884.keep K1900
  have c1912 := c1885.keep K1900 nin0
  have c1913 := c1886.keep K1900 nin0
  have c1914 := c1887.keep K1900 nin0
  have c1919 := c1892.keep K1900
  have c1920 := c1893.keep K1900 nin0
  have c1921 := c1894.keep K1900 nin0
  obtain ⟨T1927, h1927, k1927, X1927, e1927, E1927, A1927, st1927⟩ := newP X1900 hx hZ (own_w hw 153 rfl) rfl (g := (mkF m 118 (Y27 oA oS oR r1900) [(.int (128 : Int32))])) rfl (hb hby d8_118) rfl (by decide) (cap := 128) (by decide) (by decide) (by decide) (by decide)
  obtain ⟨b1927, g1927⟩ : ∃ z, z = T1900.heap.size := ⟨_, rfl⟩
  rw [← g1927] at A1927 st1927
  have G1927 : n0 ≤ b1927 := Nat.le_trans z1908 (Nat.le_of_eq g1927.symm)
  have sz1927 : h0.size ≤ b1927 := Nat.le_trans c1909.1 (Nat.le_of_eq g1927.symm)
  have ne1928 : oS ≠ b1927 := Nat.ne_of_lt (Nat.lt_of_lt_of_le c1911.lt (Nat.le_of_eq g1927.symm))
  have ne1929 : yS ≠ b1927 := Nat.ne_of_lt (Nat.lt_of_lt_of_le c1914.lt (Nat.le_of_eq g1927.symm))
  have ne1932 : oA ≠ b1927 := Nat.ne_of_lt (Nat.lt_of_lt_of_le c1919.lt (Nat.le_of_eq g1927.symm))
  have ne1933 : r1900 ≠ b1927 := Nat.ne_of_lt (Nat.lt_of_lt_of_le E1900.lt (Nat.le_of_eq g1927.symm))
  have ne1934 : yy1900 ≠ b1927 := Nat.ne_of_lt (Nat.lt_of_lt_of_le V1900.lt (Nat.le_of_eq g1927.symm))
  have c1935 := c1909.ext E1927
  have c1936 := c1910.ext E1927
  have c1937 := c1911.ext E1927
  have c1938 := c1912.ext E1927
  have c1939 := c1913.ext E1927
  have c1940 := c1914.ext E1927
  have c1945 := c1919.ext E1927
  have c1946 := c1920.ext E1927
  have c1947 := c1921.ext E1927
  have c1948 := E1900.ext E1927
  have c1949 := Fc1900.ext E1927
  have c1950 := Fv1900.ext E1927
  have c1951 := V1900.ext E1927
  have z1952 : n0 ≤ h1927.size := Nat.le_trans z1908 E1927.1
  have P1927 := own_part0 (Arv.new A1927 (by decide))
  obtain ⟨_, T1953, L1953, X1953, N1953, ⟨_, rfl, -, K1953, I1953⟩, st1953⟩ := own_cS X1927 hx hZ hown (own_k_508 hw) (rmFill hw b1927 z1952 P1927 G1927) (W := 0) (k := 5) (n := 158) (by decide) e1927 N1900 (fun _ _ _ h => h.2.1) (Ls := (Y28 oA oS oR r1900 b1927)) (rest := []) hml.symm (lenOf pd_509 rfl) (Nat.le_of_eq rfl) (hb hby d8_125)
  have z1954 : n0 ≤ T1953.heap.size := Nat.le_trans z1952 K1953.1
  have c1955 := c1935.trans K1953 (allS (Or.inr sz1927) all0)
  have c1956 := c1936.keep K1953 (allS G1927 all0)
  have c1957 := c1937.keep K1953
  have c1958 := c1938.keep K1953 (ninS ne1928 nin0)
  have c1959 := c1939.keep K1953 (ninS ne1928 nin0)
  have c1960 := c1940.keep K1953 (ninS ne1929 nin0)
  have c1965 := c1945.keep K1953
  have c1966 := c1946.keep K1953 (ninS ne1932 nin0)
  have c1967 := c1947.keep K1953 (ninS ne1932 nin0)
  have c1968 := c1948.keep K1953
  have c1969 := c1949.keep K1953 (ninS ne1933 nin0)
  have c1970 := c1950.keep K1953 (ninS ne1933 nin0)
  have c1971 := c1951.keep K1953 (ninS ne1934 nin0)
  obtain ⟨_, T1972, L1972, X1972, N1972, ⟨_, rfl, -, e1972⟩, st1972⟩ := own_cV X1953 hx hZ hown (own_k_479 hw) (rmLen6 hw r1900 yy1900 kc1900 x0 x1 x2 u0 u1 u2 z1954 c1956 c1968 c1969 c1970 c1971) (W := 1) (k := 5) (n := 158) (by decide) rfl N1953 (fun _ _ _ h => h.2.1) c1968 (Ls := (Y29 oA oS oR r1900 b1927 0)) (rest := [(.int (0 : Int32))]) hml.symm (lenOf pd_272 rfl) (Nat.le_of_eq rfl) (hb hby d8_134)
  obtain ⟨_, T1973, L1973, X1973, N1973, ⟨_, rfl, -, e1973⟩, st1973⟩ := own_cV X1972 hx hZ hown (own_k_519 hw) (rmCa hw r1900 yy1900 kc1900 (6 : Int32) (0 : Int32) x0 [(.int x0), (.int x1), (.int x2), (.int u0), (.int u1), (.int u2)] z1954 c1956 c1968 c1969 c1970 c1971 (by decide) (by decide) rfl hpx0) (W := 0) (k := 5) (n := 158) (by decide) e1972 N1972 (fun _ _ _ h => h.2.1) c1968 (Ls := (Y29 oA oS oR r1900 b1927 0)) (rest := []) hml.symm (lenOf pd_520 rfl) (Nat.le_of_eq rfl) (hb hby d8_143)
  obtain ⟨_, T1974, L1974, X1974, N1974, ⟨_, rfl, -, e1974⟩, st1974⟩ := own_cV X1973 hx hZ hown (own_k_479 hw) (rmLen3 hw oS yS kS x0 x1 x2 z1954 c1956 c1957 c1958 c1959 c1960) (W := 1) (k := 5) (n := 158) (by decide) e1973 N1973 (fun _ _ _ h => h.2.1) c1957 (Ls := (Y30 oA oS oR r1900 b1927 0 x0)) (rest := [(.int (0 : Int32))]) hml.symm (lenOf pd_272 rfl) (Nat.le_of_eq rfl) (hb hby d8_151)
  obtain ⟨_, T1975, L1975, X1975, N1975, ⟨_, rfl, -, e1975⟩, st1975⟩ := own_cS X1974 hx hZ hown (own_k_534 hw) (rmSep hw x0 z1954 hpx0) (W := 0) (k := 5) (n := 158) (by decide) e1974 N1974 (fun _ _ _ h => h.2.1) (Ls := (Y30 oA oS oR r1900 b1927 0 x0)) (rest := []) hml.symm (lenOf pd_535 rfl) (Nat.le_of_eq rfl) (hb hby d8_192)
  obtain ⟨cl1976, Ar1976, S1976, H1976⟩ := id I1953
  have hk1976 : ((fun _ => (-1 : Int32)) x0) = (-1 : Int32) := by simp [own_sy, own_st, own_al, hx01, hx02, hx12, hu01, hu02, hu12, hm01, hm02, hm10, hm12, hm20, hm21]
  have hat1976 : cl1976.slots[(x0).toNatClampNeg]? = some (.int ((fun _ => (-1 : Int32)) x0)) := H1976 _ hpx0.2.2.2.2.2.2.2.2.1 hpx0.2.2.2.2.2.2.2.2.2
  obtain ⟨_, T1977, L1977, X1977, N1977, ⟨_, rfl, -, e1977⟩, st1977⟩ := own_cV X1975 hx hZ hown (own_k_479 hw) (rmLen3 hw oS yS kS x0 x1 x2 z1954 c1956 c1957 c1958 c1959 c1960) (W := 3) (k := 5) (n := 158) (by decide) e1975 N1975 (fun _ _ _ h => h.2.1) c1957 (Ls := (Y30 oA oS oR r1900 b1927 0 x0)) (rest := [(.int (0 : Int32)), (.int x0), (.ref b1927)]) hml.symm (lenOf pd_272 rfl) (Nat.le_of_eq rfl) (hb hby d8_281)
  obtain ⟨cl1978, Ar1978, S1978, H1978⟩ := id I1953
  obtain ⟨T1979, h1979, X1979, e1979, W1979, st1979⟩ := stI X1977 hx hZ e1977 Ar1978 (j := x0) (own_inb S1978 hpx0.2.2.2.2.2.2.2.2.1 hpx0.2.2.2.2.2.2.2.2.2) (g := (mkF m 285 (Y30 oA oS oR r1900 b1927 0 x0) [(.int (0 : Int32)), (.int x0), (.ref b1927)])) rfl rfl (hb hby d8_285)
  have I1979 := own_ints_set Ar1978 S1978 H1978 W1979 hpx0.2.2.2.2.2.2.2.2.1 hpx0.2.2.2.2.2.2.2.2.2
  have N1979 := Fr.snoc X1979 N1977 G1927
  have z1980 : n0 ≤ h1979.size := Nat.le_trans z1954 (Keep.of_wr W1979).1
  have c1981 := c1955.wr W1979 (Or.inr sz1927)
  have c1982 := c1956.wr W1979 G1927
  have c1983 := c1957.wr W1979
  have c1984 := c1958.other W1979 (Or.inl ne1928)
  have c1985 := c1959.other W1979 (Or.inl ne1928)
  have c1986 := c1960.other W1979 ne1929
  have c1991 := c1965.wr W1979
  have c1992 := c1966.other W1979 (Or.inl ne1932)
  have c1993 := c1967.other W1979 (Or.inl ne1932)
  have c1994 := c1968.wr W1979
  have c1995 := c1969.other W1979 (Or.inl ne1933)
  have c1996 := c1970.other W1979 (Or.inl ne1933)
  have c1997 := c1971.other W1979 ne1934
  obtain ⟨_, T1998, L1998, X1998, N1998, ⟨_, rfl, -, e1998⟩, st1998⟩ := own_cV X1979 hx hZ hown (own_k_479 hw) (rmLen6 hw r1900 yy1900 kc1900 x0 x1 x2 u0 u1 u2 z1980 c1982 c1994 c1995 c1996 c1997) (W := 1) (k := 5) (n := 158) (by decide) e1979 N1979 (fun _ _ _ h => h.2.1) c1994 (Ls := (Y30 oA oS oR r1900 b1927 1 x0)) (rest := [(.int (1 : Int32))]) hml.symm (lenOf pd_272 rfl) (Nat.le_of_eq rfl) (hb hby d8_134)
  obtain ⟨_, T1999, L1999, X1999, N1999, ⟨_, rfl, -, e1999⟩, st1999⟩ := own_cV X1998 hx hZ hown (own_k_519 hw) (rmCa hw r1900 yy1900 kc1900 (6 : Int32) (1 : Int32) x1 [(.int x0), (.int x1), (.int x2), (.int u0), (.int u1), (.int u2)] z1980 c1982 c1994 c1995 c1996 c1997 (by decide) (by decide) rfl hpx1) (W := 0) (k := 5) (n := 158) (by decide) e1998 N1998 (fun _ _ _ h => h.2.1) c1994 (Ls := (Y30 oA oS oR r1900 b1927 1 x0)) (rest := []) hml.symm (lenOf pd_520 rfl) (Nat.le_of_eq rfl) (hb hby d8_143)
  obtain ⟨_, T2000, L2000, X2000, N2000, ⟨_, rfl, -, e2000⟩, st2000⟩ := own_cV X1999 hx hZ hown (own_k_479 hw) (rmLen3 hw oS yS kS x0 x1 x2 z1980 c1982 c1983 c1984 c1985 c1986) (W := 1) (k := 5) (n := 158) (by decide) e1999 N1999 (fun _ _ _ h => h.2.1) c1983 (Ls := (Y30 oA oS oR r1900 b1927 1 x1)) (rest := [(.int (1 : Int32))]) hml.symm (lenOf pd_272 rfl) (Nat.le_of_eq rfl) (hb hby d8_151)
  obtain ⟨_, T2001, L2001, X2001, N2001, ⟨_, rfl, -, e2001⟩, st2001⟩ := own_cS X2000 hx hZ hown (own_k_534 hw) (rmSep hw x1 z1980 hpx1) (W := 0) (k := 5) (n := 158) (by decide) e2000 N2000 (fun _ _ _ h => h.2.1) (Ls := (Y30 oA oS oR r1900 b1927 1 x1)) (rest := []) hml.symm (lenOf pd_535 rfl) (Nat.le_of_eq rfl) (hb hby d8_192)
  obtain ⟨cl2002, Ar2002, S2002, H2002⟩ := id I1979
  have hk2002 : ((own_st (fun _ => (-1 : Int32)) x0 (0 : Int32)) x1) = (-1 : Int32) := by simp [own_sy, own_st, own_al, hx01, hx02, hx12, hu01, hu02, hu12, hm01, hm02, hm10, hm12, hm20, hm21]
  have hat2002 : cl2002.slots[(x1).toNatClampNeg]? = some (.int ((own_st (fun _ => (-1 : Int32)) x0 (0 : Int32)) x1)) := H2002 _ hpx1.2.2.2.2.2.2.2.2.1 hpx1.2.2.2.2.2.2.2.2.2
  obtain ⟨_, T2003, L2003, X2003, N2003, ⟨_, rfl, -, e2003⟩, st2003⟩ := own_cV X2001 hx hZ hown (own_k_479 hw) (rmLen3 hw oS yS kS x0 x1 x2 z1980 c1982 c1983 c1984 c1985 c1986) (W := 3) (k := 5) (n := 158) (by decide) e2001 N2001 (fun _ _ _ h => h.2.1) c1983 (Ls := (Y30 oA oS oR r1900 b1927 1 x1)) (rest := [(.int (1 : Int32)), (.int x1), (.ref b1927)]) hml.symm (lenOf pd_272 rfl) (Nat.le_of_eq rfl) (hb hby d8_281)
  obtain ⟨cl2004, Ar2004, S2004, H2004⟩ := id I1979
  obtain ⟨T2005, h2005, X2005, e2005, W2005, st2005⟩ := stI X2003 hx hZ e2003 Ar2004 (j := x1) (own_inb S2004 hpx1.2.2.2.2.2.2.2.2.1 hpx1.2.2.2.2.2.2.2.2.2) (g := (mkF m 285 (Y30 oA oS oR r1900 b1927 1 x1) [(.int (1 : Int32)), (.int x1), (.ref b1927)])) rfl rfl (hb hby d8_285)
  have I2005 := own_ints_set Ar2004 S2004 H2004 W2005 hpx1.2.2.2.2.2.2.2.2.1 hpx1.2.2.2.2.2.2.2.2.2
  have N2005 := Fr.snoc X2005 N2003 G1927
  have z2006 : n0 ≤ h2005.size := Nat.le_trans z1980 (Keep.of_wr W2005).1
  have c2007 := c1981.wr W2005 (Or.inr sz1927)
  have c2008 := c1982.wr W2005 G1927
  have c2009 := c1983.wr W2005
  have c2010 := c1984.other W2005 (Or.inl ne1928)
  have c2011 := c1985.other W2005 (Or.inl ne1928)
  have c2012 := c1986.other W2005 ne1929
  have c2017 := c1991.wr W2005
  have c2018 := c1992.other W2005 (Or.inl ne1932)
  have c2019 := c1993.other W2005 (Or.inl ne1932)
  have c2020 := c1994.wr W2005
  have c2021 := c1995.other W2005 (Or.inl ne1933)
  have c2022 := c1996.other W2005 (Or.inl ne1933)
  have c2023 := c1997.other W2005 ne1934
  obtain ⟨_, T2024, L2024, X2024, N2024, ⟨_, rfl, -, e2024⟩, st2024⟩ := own_cV X2005 hx hZ hown (own_k_479 hw) (rmLen6 hw r1900 yy1900 kc1900 x0 x1 x2 u0 u1 u2 z2006 c2008 c2020 c2021 c2022 c2023) (W := 1) (k := 5) (n := 158) (by decide) e2005 N2005 (fun _ _ _ h => h.2.1) c2020 (Ls := (Y30 oA oS oR r1900 b1927 2 x1)) (rest := [(.int (2 : Int32))]) hml.symm (lenOf pd_272 rfl) (Nat.le_of_eq rfl) (hb hby d8_134)
  obtain ⟨_, T2025, L2025, X2025, N2025, ⟨_, rfl, -, e2025⟩, st2025⟩ := own_cV X2024 hx hZ hown (own_k_519 hw) (rmCa hw r1900 yy1900 kc1900 (6 : Int32) (2 : Int32) x2 [(.int x0), (.int x1), (.int x2), (.int u0), (.int u1), (.int u2)] z2006 c2008 c2020 c2021 c2022 c2023 (by decide) (by decide) rfl hpx2) (W := 0) (k := 5) (n := 158) (by decide) e2024 N2024 (fun _ _ _ h => h.2.1) c2020 (Ls := (Y30 oA oS oR r1900 b1927 2 x1)) (rest := []) hml.symm (lenOf pd_520 rfl) (Nat.le_of_eq rfl) (hb hby d8_143)
  obtain ⟨_, T2026, L2026, X2026, N2026, ⟨_, rfl, -, e2026⟩, st2026⟩ := own_cV X2025 hx hZ hown (own_k_479 hw) (rmLen3 hw oS yS kS x0 x1 x2 z2006 c2008 c2009 c2010 c2011 c2012) (W := 1) (k := 5) (n := 158) (by decide) e2025 N2025 (fun _ _ _ h => h.2.1) c2009 (Ls := (Y30 oA oS oR r1900 b1927 2 x2)) (rest := [(.int (2 : Int32))]) hml.symm (lenOf pd_272 rfl) (Nat.le_of_eq rfl) (hb hby d8_151)
  obtain ⟨_, T2027, L2027, X2027, N2027, ⟨_, rfl, -, e2027⟩, st2027⟩ := own_cS X2026 hx hZ hown (own_k_534 hw) (rmSep hw x2 z2006 hpx2) (W := 0) (k := 5) (n := 158) (by decide) e2026 N2026 (fun _ _ _ h => h.2.1) (Ls := (Y30 oA oS oR r1900 b1927 2 x2)) (rest := []) hml.symm (lenOf pd_535 rfl) (Nat.le_of_eq rfl) (hb hby d8_192)
  obtain ⟨cl2028, Ar2028, S2028, H2028⟩ := id I2005
  have hk2028 : ((own_st (own_st (fun _ => (-1 : Int32)) x0 (0 : Int32)) x1 (1 : Int32)) x2) = (-1 : Int32) := by simp [own_sy, own_st, own_al, hx01, hx02, hx12, hu01, hu02, hu12, hm01, hm02, hm10, hm12, hm20, hm21]
  have hat2028 : cl2028.slots[(x2).toNatClampNeg]? = some (.int ((own_st (own_st (fun _ => (-1 : Int32)) x0 (0 : Int32)) x1 (1 : Int32)) x2)) := H2028 _ hpx2.2.2.2.2.2.2.2.2.1 hpx2.2.2.2.2.2.2.2.2.2
  obtain ⟨_, T2029, L2029, X2029, N2029, ⟨_, rfl, -, e2029⟩, st2029⟩ := own_cV X2027 hx hZ hown (own_k_479 hw) (rmLen3 hw oS yS kS x0 x1 x2 z2006 c2008 c2009 c2010 c2011 c2012) (W := 3) (k := 5) (n := 158) (by decide) e2027 N2027 (fun _ _ _ h => h.2.1) c2009 (Ls := (Y30 oA oS oR r1900 b1927 2 x2)) (rest := [(.int (2 : Int32)), (.int x2), (.ref b1927)]) hml.symm (lenOf pd_272 rfl) (Nat.le_of_eq rfl) (hb hby d8_281)
  obtain ⟨cl2030, Ar2030, S2030, H2030⟩ := id I2005
  obtain ⟨T2031, h2031, X2031, e2031, W2031, st2031⟩ := stI X2029 hx hZ e2029 Ar2030 (j := x2) (own_inb S2030 hpx2.2.2.2.2.2.2.2.2.1 hpx2.2.2.2.2.2.2.2.2.2) (g := (mkF m 285 (Y30 oA oS oR r1900 b1927 2 x2) [(.int (2 : Int32)), (.int x2), (.ref b1927)])) rfl rfl (hb hby d8_285)
  have I2031 := own_ints_set Ar2030 S2030 H2030 W2031 hpx2.2.2.2.2.2.2.2.2.1 hpx2.2.2.2.2.2.2.2.2.2
  have N2031 := Fr.snoc X2031 N2029 G1927
  have z2032 : n0 ≤ h2031.size := Nat.le_trans z2006 (Keep.of_wr W2031).1
  have c2033 := c2007.wr W2031 (Or.inr sz1927)
  have c2034 := c2008.wr W2031 G1927
  have c2035 := c2009.wr W2031
  have c2036 := c2010.other W2031 (Or.inl ne1928)
  have c2037 := c2011.other W2031 (Or.inl ne1928)
  have c2038 := c2012.other W2031 ne1929
  have c2043 := c2017.wr W2031
  have c2044 := c2018.other W2031 (Or.inl ne1932)
  have c2045 := c2019.other W2031 (Or.inl ne1932)
  have c2046 := c2020.wr W2031
  have c2047 := c2021.other W2031 (Or.inl ne1933)
  have c2048 := c2022.other W2031 (Or.inl ne1933)
  have c2049 := c2023.other W2031 ne1934
  obtain ⟨_, T2050, L2050, X2050, N2050, ⟨_, rfl, -, e2050⟩, st2050⟩ := own_cV X2031 hx hZ hown (own_k_479 hw) (rmLen6 hw r1900 yy1900 kc1900 x0 x1 x2 u0 u1 u2 z2032 c2034 c2046 c2047 c2048 c2049) (W := 1) (k := 5) (n := 158) (by decide) e2031 N2031 (fun _ _ _ h => h.2.1) c2046 (Ls := (Y30 oA oS oR r1900 b1927 3 x2)) (rest := [(.int (3 : Int32))]) hml.symm (lenOf pd_272 rfl) (Nat.le_of_eq rfl) (hb hby d8_134)
  obtain ⟨_, T2051, L2051, X2051, N2051, ⟨_, rfl, -, e2051⟩, st2051⟩ := own_cV X2050 hx hZ hown (own_k_519 hw) (rmCa hw r1900 yy1900 kc1900 (6 : Int32) (3 : Int32) u0 [(.int x0), (.int x1), (.int x2), (.int u0), (.int u1), (.int u2)] z2032 c2034 c2046 c2047 c2048 c2049 (by decide) (by decide) rfl hpu0) (W := 0) (k := 5) (n := 158) (by decide) e2050 N2050 (fun _ _ _ h => h.2.1) c2046 (Ls := (Y30 oA oS oR r1900 b1927 3 x2)) (rest := []) hml.symm (lenOf pd_520 rfl) (Nat.le_of_eq rfl) (hb hby d8_143)
  obtain ⟨_, T2052, L2052, X2052, N2052, ⟨_, rfl, -, e2052⟩, st2052⟩ := own_cV X2051 hx hZ hown (own_k_479 hw) (rmLen3 hw oS yS kS x0 x1 x2 z2032 c2034 c2035 c2036 c2037 c2038) (W := 1) (k := 5) (n := 158) (by decide) e2051 N2051 (fun _ _ _ h => h.2.1) c2035 (Ls := (Y30 oA oS oR r1900 b1927 3 u0)) (rest := [(.int (3 : Int32))]) hml.symm (lenOf pd_272 rfl) (Nat.le_of_eq rfl) (hb hby d8_151)
  obtain ⟨_, T2053, L2053, X2053, N2053, ⟨_, rfl, -, e2053⟩, st2053⟩ := own_cV X2052 hx hZ hown (own_k_479 hw) (rmLen3 hw oS yS kS x0 x1 x2 z2032 c2034 c2035 c2036 c2037 c2038) (W := 3) (k := 5) (n := 158) (by decide) e2052 N2052 (fun _ _ _ h => h.2.1) c2035 (Ls := (Y30 oA oS oR r1900 b1927 3 u0)) (rest := [(.int (3 : Int32)), (.ref oS), (.int u0)]) hml.symm (lenOf pd_272 rfl) (Nat.le_of_eq rfl) (hb hby d8_163)
  obtain ⟨_, T2054, L2054, X2054, N2054, ⟨_, rfl, -, e2054⟩, st2054⟩ := own_cV X2053 hx hZ hown (own_k_519 hw) (rmCa hw oS yS kS (3 : Int32) (0 : Int32) x0 [(.int x0), (.int x1), (.int x2)] z2032 c2034 c2035 c2036 c2037 c2038 (by decide) (by decide) rfl hpx0) (W := 1) (k := 5) (n := 158) (by decide) e2053 N2053 (fun _ _ _ h => h.2.1) c2035 (Ls := (Y30 oA oS oR r1900 b1927 3 u0)) (rest := [(.int u0)]) hml.symm (lenOf pd_520 rfl) (Nat.le_of_eq rfl) (hb hby d8_167)
  have pre2055 : PQ p e below T2054 (mkF m 170 (Y30 oA oS oR r1900 b1927 3 u0) [(.int x0), (.int u0)]) bs := fun t kt => pre0 t (by
    refine XS.aloadN X0.here hx rfl (hb hby d8_0) rfl rfl ?_
    refine st1808 _ ?_
    refine XS.aloadN X1808.here hx rfl (hb hby d8_4) rfl rfl ?_
    refine st1809.trans ?_
    refine XS.iconst X1809.here hx rfl (hb hby d8_8) ?_
    refine XS.icmpYes X1809.here hx rfl (pc0 := 9) (pc' := 44) rfl (hb hby d8_9) rfl (flt (by decide : ¬ ((3 : Int32) < (2 : Int32)))).2.1 (by decide) (by decide) ?_
    refine XS.aloadN X1809.here hx rfl (hb hby d8_44) rfl rfl ?_
    refine st1810.trans ?_
    refine XS.aloadN X1810.here hx rfl (hb hby d8_48) rfl rfl ?_
    refine st1811.trans ?_
    refine XS.icmpYes X1811.here hx rfl (pc0 := 52) (pc' := 96) rfl (hb hby d8_52) rfl (flt (by decide : ¬ ((3 : Int32) < (3 : Int32)))).2.2.2 (by decide) (by decide) ?_
    refine st1812 _ ?_
    refine XS.dup X1812.here hx rfl (hb hby d8_99) rfl rfl ?_
    refine st1835.trans ?_
    refine XS.aloadN X1835.here hx rfl (hb hby d8_103) rfl rfl ?_
    refine st1860.trans ?_
    refine XS.aloadN X1860.here hx rfl (hb hby d8_107) rfl rfl ?_
    refine st1880.trans ?_
    refine st1900.trans ?_
    refine XS.astoreN X1900.here hx rfl (hb hby d8_114) rfl rfl (l' := (Y27 oA oS oR r1900)) rfl ?_
    refine XS.sipush X1900.here hx rfl (hb hby d8_115) ?_
    refine st1927 _ ?_
    refine XS.astore X1927.here hx rfl (hb hby d8_120) rfl rfl (l' := (Y28 oA oS oR r1900 b1927)) rfl ?_
    refine XS.aload X1927.here hx rfl (hb hby d8_122) rfl rfl ?_
    refine XS.iconst X1927.here hx rfl (hb hby d8_124) ?_
    refine st1953.trans ?_
    refine XS.iconst X1953.here hx rfl (hb hby d8_128) ?_
    refine XS.istore X1953.here hx rfl (hb hby d8_129) rfl (l' := (Y29 oA oS oR r1900 b1927 0)) rfl ?_
    refine XS.iload X1953.here hx rfl (hb hby d8_131) rfl ?_
    refine XS.aloadN X1953.here hx rfl (hb hby d8_133) rfl rfl ?_
    refine st1972.trans ?_
    refine XS.icmpNo X1972.here hx rfl (hb hby d8_137) rfl (tlt (by decide : (0 : Int32) < (6 : Int32))).2.1 ?_
    refine XS.aloadN X1972.here hx rfl (hb hby d8_140) rfl rfl ?_
    refine XS.iload X1972.here hx rfl (hb hby d8_141) rfl ?_
    refine st1973.trans ?_
    refine XS.istore X1973.here hx rfl (hb hby d8_146) rfl (l' := (Y30 oA oS oR r1900 b1927 0 x0)) rfl ?_
    refine XS.iload X1973.here hx rfl (hb hby d8_148) rfl ?_
    refine XS.aloadN X1973.here hx rfl (hb hby d8_150) rfl rfl ?_
    refine st1974.trans ?_
    refine XS.icmpYes X1974.here hx rfl (pc0 := 154) (pc' := 176) rfl (hb hby d8_154) rfl (tlt (by decide : (0 : Int32) < (3 : Int32))).1 (by decide) (by decide) ?_
    refine XS.iload X1974.here hx rfl (hb hby d8_176) rfl ?_
    refine XS.bipush X1974.here hx rfl (hb hby d8_178) ?_
    refine XS.icmpNo X1974.here hx rfl (hb hby d8_180) rfl (flt hpx0.2.2.2.2.1).1 ?_
    refine XS.iload X1974.here hx rfl (hb hby d8_183) rfl ?_
    refine XS.bipush X1974.here hx rfl (hb hby d8_185) ?_
    refine XS.icmpNo X1974.here hx rfl (hb hby d8_187) rfl (flt hpx0.2.2.2.2.2.1).2.2.1 ?_
    refine XS.iload X1974.here hx rfl (hb hby d8_190) rfl ?_
    refine st1975.trans ?_
    refine XS.ifYes X1975.here hx rfl (pc0 := 195) (pc' := 223) rfl (hb hby d8_195) rfl ((if0 _ _).trans (teq (by decide : (0 : Int32) = (0 : Int32))).1) (by decide) (by decide) ?_
    refine XS.aload X1975.here hx rfl (hb hby d8_223) rfl rfl ?_
    refine XS.iload X1975.here hx rfl (hb hby d8_225) rfl ?_
    refine X1975.iaload hx (j := x0) (v := (.int ((fun _ => (-1 : Int32)) x0))) (by rw [e1975]; exact Ar1976.1) (State.isArrayOf_alike hZ.alike Ar1976.2.1) Ar1976.2.2 (own_inb S1976 hpx0.2.2.2.2.2.2.2.2.1 hpx0.2.2.2.2.2.2.2.2.2) hat1976 (g := (mkF m 227 (Y30 oA oS oR r1900 b1927 0 x0) [(.int x0), (.ref b1927)])) rfl rfl (hb hby d8_227) _ ?_
    refine XS.iconst X1975.here hx rfl (hb hby d8_228) ?_
    refine XS.icmpYes X1975.here hx rfl (pc0 := 229) (pc' := 274) rfl (hb hby d8_229) rfl (teq hk1976).1 (by decide) (by decide) ?_
    refine XS.aload X1975.here hx rfl (hb hby d8_274) rfl rfl ?_
    refine XS.iload X1975.here hx rfl (hb hby d8_276) rfl ?_
    refine XS.iload X1975.here hx rfl (hb hby d8_278) rfl ?_
    refine XS.aloadN X1975.here hx rfl (hb hby d8_280) rfl rfl ?_
    refine st1977.trans ?_
    refine XS.irem X1977.here hx rfl (hb hby d8_284) rfl (by decide) ?_
    refine st1979 _ ?_
    refine XS.iinc X1979.here hx rfl (hb hby d8_286) rfl (l' := (Y30 oA oS oR r1900 b1927 1 x0)) rfl ?_
    refine XS.goto X1979.here hx rfl (pc0 := 289) (pc' := 131) rfl (hb hby d8_289) (by decide) (by decide) ?_
    refine XS.iload X1979.here hx rfl (hb hby d8_131) rfl ?_
    refine XS.aloadN X1979.here hx rfl (hb hby d8_133) rfl rfl ?_
    refine st1998.trans ?_
    refine XS.icmpNo X1998.here hx rfl (hb hby d8_137) rfl (tlt (by decide : (1 : Int32) < (6 : Int32))).2.1 ?_
    refine XS.aloadN X1998.here hx rfl (hb hby d8_140) rfl rfl ?_
    refine XS.iload X1998.here hx rfl (hb hby d8_141) rfl ?_
    refine st1999.trans ?_
    refine XS.istore X1999.here hx rfl (hb hby d8_146) rfl (l' := (Y30 oA oS oR r1900 b1927 1 x1)) rfl ?_
    refine XS.iload X1999.here hx rfl (hb hby d8_148) rfl ?_
    refine XS.aloadN X1999.here hx rfl (hb hby d8_150) rfl rfl ?_
    refine st2000.trans ?_
    refine XS.icmpYes X2000.here hx rfl (pc0 := 154) (pc' := 176) rfl (hb hby d8_154) rfl (tlt (by decide : (1 : Int32) < (3 : Int32))).1 (by decide) (by decide) ?_
    refine XS.iload X2000.here hx rfl (hb hby d8_176) rfl ?_
    refine XS.bipush X2000.here hx rfl (hb hby d8_178) ?_
    refine XS.icmpNo X2000.here hx rfl (hb hby d8_180) rfl (flt hpx1.2.2.2.2.1).1 ?_
    refine XS.iload X2000.here hx rfl (hb hby d8_183) rfl ?_
    refine XS.bipush X2000.here hx rfl (hb hby d8_185) ?_
    refine XS.icmpNo X2000.here hx rfl (hb hby d8_187) rfl (flt hpx1.2.2.2.2.2.1).2.2.1 ?_
    refine XS.iload X2000.here hx rfl (hb hby d8_190) rfl ?_
    refine st2001.trans ?_
    refine XS.ifYes X2001.here hx rfl (pc0 := 195) (pc' := 223) rfl (hb hby d8_195) rfl ((if0 _ _).trans (teq (by decide : (0 : Int32) = (0 : Int32))).1) (by decide) (by decide) ?_
    refine XS.aload X2001.here hx rfl (hb hby d8_223) rfl rfl ?_
    refine XS.iload X2001.here hx rfl (hb hby d8_225) rfl ?_
    refine X2001.iaload hx (j := x1) (v := (.int ((own_st (fun _ => (-1 : Int32)) x0 (0 : Int32)) x1))) (by rw [e2001]; exact Ar2002.1) (State.isArrayOf_alike hZ.alike Ar2002.2.1) Ar2002.2.2 (own_inb S2002 hpx1.2.2.2.2.2.2.2.2.1 hpx1.2.2.2.2.2.2.2.2.2) hat2002 (g := (mkF m 227 (Y30 oA oS oR r1900 b1927 1 x1) [(.int x1), (.ref b1927)])) rfl rfl (hb hby d8_227) _ ?_
    refine XS.iconst X2001.here hx rfl (hb hby d8_228) ?_
    refine XS.icmpYes X2001.here hx rfl (pc0 := 229) (pc' := 274) rfl (hb hby d8_229) rfl (teq hk2002).1 (by decide) (by decide) ?_
    refine XS.aload X2001.here hx rfl (hb hby d8_274) rfl rfl ?_
    refine XS.iload X2001.here hx rfl (hb hby d8_276) rfl ?_
    refine XS.iload X2001.here hx rfl (hb hby d8_278) rfl ?_
    refine XS.aloadN X2001.here hx rfl (hb hby d8_280) rfl rfl ?_
    refine st2003.trans ?_
    refine XS.irem X2003.here hx rfl (hb hby d8_284) rfl (by decide) ?_
    refine st2005 _ ?_
    refine XS.iinc X2005.here hx rfl (hb hby d8_286) rfl (l' := (Y30 oA oS oR r1900 b1927 2 x1)) rfl ?_
    refine XS.goto X2005.here hx rfl (pc0 := 289) (pc' := 131) rfl (hb hby d8_289) (by decide) (by decide) ?_
    refine XS.iload X2005.here hx rfl (hb hby d8_131) rfl ?_
    refine XS.aloadN X2005.here hx rfl (hb hby d8_133) rfl rfl ?_
    refine st2024.trans ?_
    refine XS.icmpNo X2024.here hx rfl (hb hby d8_137) rfl (tlt (by decide : (2 : Int32) < (6 : Int32))).2.1 ?_
    refine XS.aloadN X2024.here hx rfl (hb hby d8_140) rfl rfl ?_
    refine XS.iload X2024.here hx rfl (hb hby d8_141) rfl ?_
    refine st2025.trans ?_
    refine XS.istore X2025.here hx rfl (hb hby d8_146) rfl (l' := (Y30 oA oS oR r1900 b1927 2 x2)) rfl ?_
    refine XS.iload X2025.here hx rfl (hb hby d8_148) rfl ?_
    refine XS.aloadN X2025.here hx rfl (hb hby d8_150) rfl rfl ?_
    refine st2026.trans ?_
    refine XS.icmpYes X2026.here hx rfl (pc0 := 154) (pc' := 176) rfl (hb hby d8_154) rfl (tlt (by decide : (2 : Int32) < (3 : Int32))).1 (by decide) (by decide) ?_
    refine XS.iload X2026.here hx rfl (hb hby d8_176) rfl ?_
    refine XS.bipush X2026.here hx rfl (hb hby d8_178) ?_
    refine XS.icmpNo X2026.here hx rfl (hb hby d8_180) rfl (flt hpx2.2.2.2.2.1).1 ?_
    refine XS.iload X2026.here hx rfl (hb hby d8_183) rfl ?_
    refine XS.bipush X2026.here hx rfl (hb hby d8_185) ?_
    refine XS.icmpNo X2026.here hx rfl (hb hby d8_187) rfl (flt hpx2.2.2.2.2.2.1).2.2.1 ?_
    refine XS.iload X2026.here hx rfl (hb hby d8_190) rfl ?_
    refine st2027.trans ?_
    refine XS.ifYes X2027.here hx rfl (pc0 := 195) (pc' := 223) rfl (hb hby d8_195) rfl ((if0 _ _).trans (teq (by decide : (0 : Int32) = (0 : Int32))).1) (by decide) (by decide) ?_
    refine XS.aload X2027.here hx rfl (hb hby d8_223) rfl rfl ?_
    refine XS.iload X2027.here hx rfl (hb hby d8_225) rfl ?_
    refine X2027.iaload hx (j := x2) (v := (.int ((own_st (own_st (fun _ => (-1 : Int32)) x0 (0 : Int32)) x1 (1 : Int32)) x2))) (by rw [e2027]; exact Ar2028.1) (State.isArrayOf_alike hZ.alike Ar2028.2.1) Ar2028.2.2 (own_inb S2028 hpx2.2.2.2.2.2.2.2.2.1 hpx2.2.2.2.2.2.2.2.2.2) hat2028 (g := (mkF m 227 (Y30 oA oS oR r1900 b1927 2 x2) [(.int x2), (.ref b1927)])) rfl rfl (hb hby d8_227) _ ?_
    refine XS.iconst X2027.here hx rfl (hb hby d8_228) ?_
    refine XS.icmpYes X2027.here hx rfl (pc0 := 229) (pc' := 274) rfl (hb hby d8_229) rfl (teq hk2028).1 (by decide) (by decide) ?_
    refine XS.aload X2027.here hx rfl (hb hby d8_274) rfl rfl ?_
    refine XS.iload X2027.here hx rfl (hb hby d8_276) rfl ?_
    refine XS.iload X2027.here hx rfl (hb hby d8_278) rfl ?_
    refine XS.aloadN X2027.here hx rfl (hb hby d8_280) rfl rfl ?_
    refine st2029.trans ?_
    refine XS.irem X2029.here hx rfl (hb hby d8_284) rfl (by decide) ?_
    refine st2031 _ ?_
    refine XS.iinc X2031.here hx rfl (hb hby d8_286) rfl (l' := (Y30 oA oS oR r1900 b1927 3 x2)) rfl ?_
    refine XS.goto X2031.here hx rfl (pc0 := 289) (pc' := 131) rfl (hb hby d8_289) (by decide) (by decide) ?_
    refine XS.iload X2031.here hx rfl (hb hby d8_131) rfl ?_
    refine XS.aloadN X2031.here hx rfl (hb hby d8_133) rfl rfl ?_
    refine st2050.trans ?_
    refine XS.icmpNo X2050.here hx rfl (hb hby d8_137) rfl (tlt (by decide : (3 : Int32) < (6 : Int32))).2.1 ?_
    refine XS.aloadN X2050.here hx rfl (hb hby d8_140) rfl rfl ?_
    refine XS.iload X2050.here hx rfl (hb hby d8_141) rfl ?_
    refine st2051.trans ?_
    refine XS.istore X2051.here hx rfl (hb hby d8_146) rfl (l' := (Y30 oA oS oR r1900 b1927 3 u0)) rfl ?_
    refine XS.iload X2051.here hx rfl (hb hby d8_148) rfl ?_
    refine XS.aloadN X2051.here hx rfl (hb hby d8_150) rfl rfl ?_
    refine st2052.trans ?_
    refine XS.icmpNo X2052.here hx rfl (hb hby d8_154) rfl (flt (by decide : ¬ ((3 : Int32) < (3 : Int32)))).1 ?_
    refine XS.iload X2052.here hx rfl (hb hby d8_157) rfl ?_
    refine XS.aloadN X2052.here hx rfl (hb hby d8_159) rfl rfl ?_
    refine XS.iload X2052.here hx rfl (hb hby d8_160) rfl ?_
    refine XS.aloadN X2052.here hx rfl (hb hby d8_162) rfl rfl ?_
    refine st2053.trans ?_
    refine XS.isub X2053.here hx rfl (hb hby d8_166) rfl ?_
    refine st2054.trans ?_
    exact kt)
  obtain ⟨T2082, L2082, X2082, N2082, hP2082, pre2082⟩ : ∃ (T' : State) (locs' : List Loc), Stand p l e (⟨6, 5, 158, 91⟩ : Room) s m #[(.ref oA), (.ref oS), (.ref oR)] below meth c T' locs' 5 158 ∧ Fr n0 locs' ∧ (Keep h2031 T'.heap [b1927] ∧ Ints Z T'.heap b1927 (own_al (own_sy x0 x1 x2) u0 x0 (0 : Int32))) ∧ PQ p e below T' (mkF m 286 (Y30 oA oS oR r1900 b1927 3 u0) []) bs := by
    by_cases hc2056 : u0 = x0
    case pos =>
      have pre2057 : PQ p e below T2054 (mkF m 286 (Y30 oA oS oR r1900 b1927 3 u0) []) bs := fun t kt => pre2055 t (by
        refine XS.icmpNo X2054.here hx rfl (hb hby d8_170) rfl (teq hc2056).2 ?_
        refine XS.goto X2054.here hx rfl (pc0 := 173) (pc' := 286) rfl (hb hby d8_173) (by decide) (by decide) ?_
        exact kt)
      exact ⟨T2054, _, own_more X2054 (by decide) (by decide), N2054, (by rw [e2054]; exact (⟨Keep.refl h2031 [b1927], by rw [← own_al1 hc2056]; exact I2031⟩ : Keep h2031 h2031 [b1927] ∧ Ints Z h2031 b1927 (own_al (own_sy x0 x1 x2) u0 x0 (0 : Int32)))), pre2057⟩
    case neg =>
      obtain ⟨_, T2058, L2058, X2058, N2058, ⟨_, rfl, -, e2058⟩, st2058⟩ := own_cS X2054 hx hZ hown (own_k_534 hw) (rmSep hw u0 z2032 hpu0) (W := 0) (k := 5) (n := 158) (by decide) e2054 N2054 (fun _ _ _ h => h.2.1) (Ls := (Y30 oA oS oR r1900 b1927 3 u0)) (rest := []) hml.symm (lenOf pd_535 rfl) (Nat.le_of_eq rfl) (hb hby d8_192)
      obtain ⟨cl2059, Ar2059, S2059, H2059⟩ := id I2031
      have hk2059 : ((own_sy x0 x1 x2) u0) = (-1 : Int32) := by simp [own_sy, own_st, own_al, hx01, hx02, hx12, hu01, hu02, hu12, hm01, hm02, hm10, hm12, hm20, hm21, hc2056]
      have hat2059 : cl2059.slots[(u0).toNatClampNeg]? = some (.int ((own_sy x0 x1 x2) u0)) := H2059 _ hpu0.2.2.2.2.2.2.2.2.1 hpu0.2.2.2.2.2.2.2.2.2
      obtain ⟨_, T2060, L2060, X2060, N2060, ⟨_, rfl, -, e2060⟩, st2060⟩ := own_cV X2058 hx hZ hown (own_k_479 hw) (rmLen3 hw oS yS kS x0 x1 x2 z2032 c2034 c2035 c2036 c2037 c2038) (W := 3) (k := 5) (n := 158) (by decide) e2058 N2058 (fun _ _ _ h => h.2.1) c2035 (Ls := (Y30 oA oS oR r1900 b1927 3 u0)) (rest := [(.int (3 : Int32)), (.int u0), (.ref b1927)]) hml.symm (lenOf pd_272 rfl) (Nat.le_of_eq rfl) (hb hby d8_281)
      obtain ⟨cl2061, Ar2061, S2061, H2061⟩ := id I2031
      obtain ⟨T2062, h2062, X2062, e2062, W2062, st2062⟩ := stI X2060 hx hZ e2060 Ar2061 (j := u0) (own_inb S2061 hpu0.2.2.2.2.2.2.2.2.1 hpu0.2.2.2.2.2.2.2.2.2) (g := (mkF m 285 (Y30 oA oS oR r1900 b1927 3 u0) [(.int (0 : Int32)), (.int u0), (.ref b1927)])) rfl rfl (hb hby d8_285)
      have I2062 := own_ints_set Ar2061 S2061 H2061 W2062 hpu0.2.2.2.2.2.2.2.2.1 hpu0.2.2.2.2.2.2.2.2.2
      have N2062 := Fr.snoc X2062 N2060 G1927
      have pre2081 : PQ p e below T2062 (mkF m 286 (Y30 oA oS oR r1900 b1927 3 u0) []) bs := fun t kt => pre2055 t (by
        refine XS.icmpYes X2054.here hx rfl (pc0 := 170) (pc' := 176) rfl (hb hby d8_170) rfl (feq hc2056).2 (by decide) (by decide) ?_
        refine XS.iload X2054.here hx rfl (hb hby d8_176) rfl ?_
        refine XS.bipush X2054.here hx rfl (hb hby d8_178) ?_
        refine XS.icmpNo X2054.here hx rfl (hb hby d8_180) rfl (flt hpu0.2.2.2.2.1).1 ?_
        refine XS.iload X2054.here hx rfl (hb hby d8_183) rfl ?_
        refine XS.bipush X2054.here hx rfl (hb hby d8_185) ?_
        refine XS.icmpNo X2054.here hx rfl (hb hby d8_187) rfl (flt hpu0.2.2.2.2.2.1).2.2.1 ?_
        refine XS.iload X2054.here hx rfl (hb hby d8_190) rfl ?_
        refine st2058.trans ?_
        refine XS.ifYes X2058.here hx rfl (pc0 := 195) (pc' := 223) rfl (hb hby d8_195) rfl ((if0 _ _).trans (teq (by decide : (0 : Int32) = (0 : Int32))).1) (by decide) (by decide) ?_
        refine XS.aload X2058.here hx rfl (hb hby d8_223) rfl rfl ?_
        refine XS.iload X2058.here hx rfl (hb hby d8_225) rfl ?_
        refine X2058.iaload hx (j := u0) (v := (.int ((own_sy x0 x1 x2) u0))) (by rw [e2058]; exact Ar2059.1) (State.isArrayOf_alike hZ.alike Ar2059.2.1) Ar2059.2.2 (own_inb S2059 hpu0.2.2.2.2.2.2.2.2.1 hpu0.2.2.2.2.2.2.2.2.2) hat2059 (g := (mkF m 227 (Y30 oA oS oR r1900 b1927 3 u0) [(.int u0), (.ref b1927)])) rfl rfl (hb hby d8_227) _ ?_
        refine XS.iconst X2058.here hx rfl (hb hby d8_228) ?_
        refine XS.icmpYes X2058.here hx rfl (pc0 := 229) (pc' := 274) rfl (hb hby d8_229) rfl (teq hk2059).1 (by decide) (by decide) ?_
        refine XS.aload X2058.here hx rfl (hb hby d8_274) rfl rfl ?_
        refine XS.iload X2058.here hx rfl (hb hby d8_276) rfl ?_
        refine XS.iload X2058.here hx rfl (hb hby d8_278) rfl ?_
        refine XS.aloadN X2058.here hx rfl (hb hby d8_280) rfl rfl ?_
        refine st2060.trans ?_
        refine XS.irem X2060.here hx rfl (hb hby d8_284) rfl (by decide) ?_
        refine st2062 _ ?_
        exact kt)
      exact ⟨T2062, _, own_more X2062 (by decide) (by decide), N2062, (by rw [e2062]; exact (⟨Keep.of_wr W2062, by rw [← own_al0 hc2056]; exact I2062⟩ : Keep h2031 h2062 [b1927] ∧ Ints Z h2062 b1927 (own_al (own_sy x0 x1 x2) u0 x0 (0 : Int32)))), pre2081⟩
  obtain ⟨K2082, I2082⟩ := hP2082
  have z2083 : n0 ≤ T2082.heap.size := Nat.le_trans z2032 K2082.1
  have c2084 := c2033.trans K2082 (allS (Or.inr sz1927) all0)
  have c2085 := c2034.keep K2082 (allS G1927 all0)
  have c2086 := c2035.keep K2082
  have c2087 := c2036.keep K2082 (ninS ne1928 nin0)
  have c2088 := c2037.keep K2082 (ninS ne1928 nin0)
  have c2089 := c2038.keep K2082 (ninS ne1929 nin0)
  have c2094 := c2043.keep K2082
  have c2095 := c2044.keep K2082 (ninS ne1932 nin0)
  have c2096 := c2045.keep K2082 (ninS ne1932 nin0)
  have c2097 := c2046.keep K2082
  have c2098 := c2047.keep K2082 (ninS ne1933 nin0)
  have c2099 := c2048.keep K2082 (ninS ne1933 nin0)
  have c2100 := c2049.keep K2082 (ninS ne1934 nin0)
  obtain ⟨_, T2101, L2101, X2101, N2101, ⟨_, rfl, -, e2101⟩, st2101⟩ := own_cV X2082 hx hZ hown (own_k_479 hw) (rmLen6 hw r1900 yy1900 kc1900 x0 x1 x2 u0 u1 u2 z2083 c2085 c2097 c2098 c2099 c2100) (W := 1) (k := 5) (n := 158) (by decide) rfl N2082 (fun _ _ _ h => h.2.1) c2097 (Ls := (Y30 oA oS oR r1900 b1927 4 u0)) (rest := [(.int (4 : Int32))]) hml.symm (lenOf pd_272 rfl) (Nat.le_of_eq rfl) (hb hby d8_134)
  obtain ⟨_, T2102, L2102, X2102, N2102, ⟨_, rfl, -, e2102⟩, st2102⟩ := own_cV X2101 hx hZ hown (own_k_519 hw) (rmCa hw r1900 yy1900 kc1900 (6 : Int32) (4 : Int32) u1 [(.int x0), (.int x1), (.int x2), (.int u0), (.int u1), (.int u2)] z2083 c2085 c2097 c2098 c2099 c2100 (by decide) (by decide) rfl hpu1) (W := 0) (k := 5) (n := 158) (by decide) e2101 N2101 (fun _ _ _ h => h.2.1) c2097 (Ls := (Y30 oA oS oR r1900 b1927 4 u0)) (rest := []) hml.symm (lenOf pd_520 rfl) (Nat.le_of_eq rfl) (hb hby d8_143)
  obtain ⟨_, T2103, L2103, X2103, N2103, ⟨_, rfl, -, e2103⟩, st2103⟩ := own_cV X2102 hx hZ hown (own_k_479 hw) (rmLen3 hw oS yS kS x0 x1 x2 z2083 c2085 c2086 c2087 c2088 c2089) (W := 1) (k := 5) (n := 158) (by decide) e2102 N2102 (fun _ _ _ h => h.2.1) c2086 (Ls := (Y30 oA oS oR r1900 b1927 4 u1)) (rest := [(.int (4 : Int32))]) hml.symm (lenOf pd_272 rfl) (Nat.le_of_eq rfl) (hb hby d8_151)
  obtain ⟨_, T2104, L2104, X2104, N2104, ⟨_, rfl, -, e2104⟩, st2104⟩ := own_cV X2103 hx hZ hown (own_k_479 hw) (rmLen3 hw oS yS kS x0 x1 x2 z2083 c2085 c2086 c2087 c2088 c2089) (W := 3) (k := 5) (n := 158) (by decide) e2103 N2103 (fun _ _ _ h => h.2.1) c2086 (Ls := (Y30 oA oS oR r1900 b1927 4 u1)) (rest := [(.int (4 : Int32)), (.ref oS), (.int u1)]) hml.symm (lenOf pd_272 rfl) (Nat.le_of_eq rfl) (hb hby d8_163)
  obtain ⟨_, T2105, L2105, X2105, N2105, ⟨_, rfl, -, e2105⟩, st2105⟩ := own_cV X2104 hx hZ hown (own_k_519 hw) (rmCa hw oS yS kS (3 : Int32) (1 : Int32) x1 [(.int x0), (.int x1), (.int x2)] z2083 c2085 c2086 c2087 c2088 c2089 (by decide) (by decide) rfl hpx1) (W := 1) (k := 5) (n := 158) (by decide) e2104 N2104 (fun _ _ _ h => h.2.1) c2086 (Ls := (Y30 oA oS oR r1900 b1927 4 u1)) (rest := [(.int u1)]) hml.symm (lenOf pd_520 rfl) (Nat.le_of_eq rfl) (hb hby d8_167)
  have pre2106 : PQ p e below T2105 (mkF m 170 (Y30 oA oS oR r1900 b1927 4 u1) [(.int x1), (.int u1)]) bs := fun t kt => pre2082 t (by
    refine XS.iinc X2082.here hx rfl (hb hby d8_286) rfl (l' := (Y30 oA oS oR r1900 b1927 4 u0)) rfl ?_
    refine XS.goto X2082.here hx rfl (pc0 := 289) (pc' := 131) rfl (hb hby d8_289) (by decide) (by decide) ?_
    refine XS.iload X2082.here hx rfl (hb hby d8_131) rfl ?_
    refine XS.aloadN X2082.here hx rfl (hb hby d8_133) rfl rfl ?_
    refine st2101.trans ?_
    refine XS.icmpNo X2101.here hx rfl (hb hby d8_137) rfl (tlt (by decide : (4 : Int32) < (6 : Int32))).2.1 ?_
    refine XS.aloadN X2101.here hx rfl (hb hby d8_140) rfl rfl ?_
    refine XS.iload X2101.here hx rfl (hb hby d8_141) rfl ?_
    refine st2102.trans ?_
    refine XS.istore X2102.here hx rfl (hb hby d8_146) rfl (l' := (Y30 oA oS oR r1900 b1927 4 u1)) rfl ?_
    refine XS.iload X2102.here hx rfl (hb hby d8_148) rfl ?_
    refine XS.aloadN X2102.here hx rfl (hb hby d8_150) rfl rfl ?_
    refine st2103.trans ?_
    refine XS.icmpNo X2103.here hx rfl (hb hby d8_154) rfl (flt (by decide : ¬ ((4 : Int32) < (3 : Int32)))).1 ?_
    refine XS.iload X2103.here hx rfl (hb hby d8_157) rfl ?_
    refine XS.aloadN X2103.here hx rfl (hb hby d8_159) rfl rfl ?_
    refine XS.iload X2103.here hx rfl (hb hby d8_160) rfl ?_
    refine XS.aloadN X2103.here hx rfl (hb hby d8_162) rfl rfl ?_
    refine st2104.trans ?_
    refine XS.isub X2104.here hx rfl (hb hby d8_166) rfl ?_
    refine st2105.trans ?_
    exact kt)
  obtain ⟨T2133, L2133, X2133, N2133, hP2133, pre2133⟩ : ∃ (T' : State) (locs' : List Loc), Stand p l e (⟨6, 5, 158, 91⟩ : Room) s m #[(.ref oA), (.ref oS), (.ref oR)] below meth c T' locs' 5 158 ∧ Fr n0 locs' ∧ (Keep T2082.heap T'.heap [b1927] ∧ Ints Z T'.heap b1927 (own_al (own_al (own_sy x0 x1 x2) u0 x0 (0 : Int32)) u1 x1 (1 : Int32))) ∧ PQ p e below T' (mkF m 286 (Y30 oA oS oR r1900 b1927 4 u1) []) bs := by
    by_cases hc2107 : u1 = x1
    case pos =>
      have pre2108 : PQ p e below T2105 (mkF m 286 (Y30 oA oS oR r1900 b1927 4 u1) []) bs := fun t kt => pre2106 t (by
        refine XS.icmpNo X2105.here hx rfl (hb hby d8_170) rfl (teq hc2107).2 ?_
        refine XS.goto X2105.here hx rfl (pc0 := 173) (pc' := 286) rfl (hb hby d8_173) (by decide) (by decide) ?_
        exact kt)
      exact ⟨T2105, _, own_more X2105 (by decide) (by decide), N2105, (by rw [e2105]; exact (⟨Keep.refl T2082.heap [b1927], by rw [← own_al1 hc2107]; exact I2082⟩ : Keep T2082.heap T2082.heap [b1927] ∧ Ints Z T2082.heap b1927 (own_al (own_al (own_sy x0 x1 x2) u0 x0 (0 : Int32)) u1 x1 (1 : Int32)))), pre2108⟩
    case neg =>
      obtain ⟨_, T2109, L2109, X2109, N2109, ⟨_, rfl, -, e2109⟩, st2109⟩ := own_cS X2105 hx hZ hown (own_k_534 hw) (rmSep hw u1 z2083 hpu1) (W := 0) (k := 5) (n := 158) (by decide) e2105 N2105 (fun _ _ _ h => h.2.1) (Ls := (Y30 oA oS oR r1900 b1927 4 u1)) (rest := []) hml.symm (lenOf pd_535 rfl) (Nat.le_of_eq rfl) (hb hby d8_192)
      obtain ⟨cl2110, Ar2110, S2110, H2110⟩ := id I2082
      have hk2110 : ((own_al (own_sy x0 x1 x2) u0 x0 (0 : Int32)) u1) = (-1 : Int32) := by simp [own_sy, own_st, own_al, hx01, hx02, hx12, hu01, hu02, hu12, hm01, hm02, hm10, hm12, hm20, hm21, hc2107]
      have hat2110 : cl2110.slots[(u1).toNatClampNeg]? = some (.int ((own_al (own_sy x0 x1 x2) u0 x0 (0 : Int32)) u1)) := H2110 _ hpu1.2.2.2.2.2.2.2.2.1 hpu1.2.2.2.2.2.2.2.2.2
      obtain ⟨_, T2111, L2111, X2111, N2111, ⟨_, rfl, -, e2111⟩, st2111⟩ := own_cV X2109 hx hZ hown (own_k_479 hw) (rmLen3 hw oS yS kS x0 x1 x2 z2083 c2085 c2086 c2087 c2088 c2089) (W := 3) (k := 5) (n := 158) (by decide) e2109 N2109 (fun _ _ _ h => h.2.1) c2086 (Ls := (Y30 oA oS oR r1900 b1927 4 u1)) (rest := [(.int (4 : Int32)), (.int u1), (.ref b1927)]) hml.symm (lenOf pd_272 rfl) (Nat.le_of_eq rfl) (hb hby d8_281)
      obtain ⟨cl2112, Ar2112, S2112, H2112⟩ := id I2082
      obtain ⟨T2113, h2113, X2113, e2113, W2113, st2113⟩ := stI X2111 hx hZ e2111 Ar2112 (j := u1) (own_inb S2112 hpu1.2.2.2.2.2.2.2.2.1 hpu1.2.2.2.2.2.2.2.2.2) (g := (mkF m 285 (Y30 oA oS oR r1900 b1927 4 u1) [(.int (1 : Int32)), (.int u1), (.ref b1927)])) rfl rfl (hb hby d8_285)
      have I2113 := own_ints_set Ar2112 S2112 H2112 W2113 hpu1.2.2.2.2.2.2.2.2.1 hpu1.2.2.2.2.2.2.2.2.2
      have N2113 := Fr.snoc X2113 N2111 G1927
      have pre2132 : PQ p e below T2113 (mkF m 286 (Y30 oA oS oR r1900 b1927 4 u1) []) bs := fun t kt => pre2106 t (by
        refine XS.icmpYes X2105.here hx rfl (pc0 := 170) (pc' := 176) rfl (hb hby d8_170) rfl (feq hc2107).2 (by decide) (by decide) ?_
        refine XS.iload X2105.here hx rfl (hb hby d8_176) rfl ?_
        refine XS.bipush X2105.here hx rfl (hb hby d8_178) ?_
        refine XS.icmpNo X2105.here hx rfl (hb hby d8_180) rfl (flt hpu1.2.2.2.2.1).1 ?_
        refine XS.iload X2105.here hx rfl (hb hby d8_183) rfl ?_
        refine XS.bipush X2105.here hx rfl (hb hby d8_185) ?_
        refine XS.icmpNo X2105.here hx rfl (hb hby d8_187) rfl (flt hpu1.2.2.2.2.2.1).2.2.1 ?_
        refine XS.iload X2105.here hx rfl (hb hby d8_190) rfl ?_
        refine st2109.trans ?_
        refine XS.ifYes X2109.here hx rfl (pc0 := 195) (pc' := 223) rfl (hb hby d8_195) rfl ((if0 _ _).trans (teq (by decide : (0 : Int32) = (0 : Int32))).1) (by decide) (by decide) ?_
        refine XS.aload X2109.here hx rfl (hb hby d8_223) rfl rfl ?_
        refine XS.iload X2109.here hx rfl (hb hby d8_225) rfl ?_
        refine X2109.iaload hx (j := u1) (v := (.int ((own_al (own_sy x0 x1 x2) u0 x0 (0 : Int32)) u1))) (by rw [e2109]; exact Ar2110.1) (State.isArrayOf_alike hZ.alike Ar2110.2.1) Ar2110.2.2 (own_inb S2110 hpu1.2.2.2.2.2.2.2.2.1 hpu1.2.2.2.2.2.2.2.2.2) hat2110 (g := (mkF m 227 (Y30 oA oS oR r1900 b1927 4 u1) [(.int u1), (.ref b1927)])) rfl rfl (hb hby d8_227) _ ?_
        refine XS.iconst X2109.here hx rfl (hb hby d8_228) ?_
        refine XS.icmpYes X2109.here hx rfl (pc0 := 229) (pc' := 274) rfl (hb hby d8_229) rfl (teq hk2110).1 (by decide) (by decide) ?_
        refine XS.aload X2109.here hx rfl (hb hby d8_274) rfl rfl ?_
        refine XS.iload X2109.here hx rfl (hb hby d8_276) rfl ?_
        refine XS.iload X2109.here hx rfl (hb hby d8_278) rfl ?_
        refine XS.aloadN X2109.here hx rfl (hb hby d8_280) rfl rfl ?_
        refine st2111.trans ?_
        refine XS.irem X2111.here hx rfl (hb hby d8_284) rfl (by decide) ?_
        refine st2113 _ ?_
        exact kt)
      exact ⟨T2113, _, own_more X2113 (by decide) (by decide), N2113, (by rw [e2113]; exact (⟨Keep.of_wr W2113, by rw [← own_al0 hc2107]; exact I2113⟩ : Keep T2082.heap h2113 [b1927] ∧ Ints Z h2113 b1927 (own_al (own_al (own_sy x0 x1 x2) u0 x0 (0 : Int32)) u1 x1 (1 : Int32)))), pre2132⟩
  obtain ⟨K2133, I2133⟩ := hP2133
  have z2134 : n0 ≤ T2133.heap.size := Nat.le_trans z2083 K2133.1
  have c2135 := c2084.trans K2133 (allS (Or.inr sz1927) all0)
  have c2136 := c2085.keep K2133 (allS G1927 all0)
  have c2137 := c2086.keep K2133
  have c2138 := c2087.keep K2133 (ninS ne1928 nin0)
  have c2139 := c2088.keep K2133 (ninS ne1928 nin0)
  have c2140 := c2089.keep K2133 (ninS ne1929 nin0)
  have c2145 := c2094.keep K2133
  have c2146 := c2095.keep K2133 (ninS ne1932 nin0)
  have c2147 := c2096.keep K2133 (ninS ne1932 nin0)
  have c2148 := c2097.keep K2133
  have c2149 := c2098.keep K2133 (ninS ne1933 nin0)
  have c2150 := c2099.keep K2133 (ninS ne1933 nin0)
  have c2151 := c2100.keep K2133 (ninS ne1934 nin0)
  obtain ⟨_, T2152, L2152, X2152, N2152, ⟨_, rfl, -, e2152⟩, st2152⟩ := own_cV X2133 hx hZ hown (own_k_479 hw) (rmLen6 hw r1900 yy1900 kc1900 x0 x1 x2 u0 u1 u2 z2134 c2136 c2148 c2149 c2150 c2151) (W := 1) (k := 5) (n := 158) (by decide) rfl N2133 (fun _ _ _ h => h.2.1) c2148 (Ls := (Y30 oA oS oR r1900 b1927 5 u1)) (rest := [(.int (5 : Int32))]) hml.symm (lenOf pd_272 rfl) (Nat.le_of_eq rfl) (hb hby d8_134)
  obtain ⟨_, T2153, L2153, X2153, N2153, ⟨_, rfl, -, e2153⟩, st2153⟩ := own_cV X2152 hx hZ hown (own_k_519 hw) (rmCa hw r1900 yy1900 kc1900 (6 : Int32) (5 : Int32) u2 [(.int x0), (.int x1), (.int x2), (.int u0), (.int u1), (.int u2)] z2134 c2136 c2148 c2149 c2150 c2151 (by decide) (by decide) rfl hpu2) (W := 0) (k := 5) (n := 158) (by decide) e2152 N2152 (fun _ _ _ h => h.2.1) c2148 (Ls := (Y30 oA oS oR r1900 b1927 5 u1)) (rest := []) hml.symm (lenOf pd_520 rfl) (Nat.le_of_eq rfl) (hb hby d8_143)
  obtain ⟨_, T2154, L2154, X2154, N2154, ⟨_, rfl, -, e2154⟩, st2154⟩ := own_cV X2153 hx hZ hown (own_k_479 hw) (rmLen3 hw oS yS kS x0 x1 x2 z2134 c2136 c2137 c2138 c2139 c2140) (W := 1) (k := 5) (n := 158) (by decide) e2153 N2153 (fun _ _ _ h => h.2.1) c2137 (Ls := (Y30 oA oS oR r1900 b1927 5 u2)) (rest := [(.int (5 : Int32))]) hml.symm (lenOf pd_272 rfl) (Nat.le_of_eq rfl) (hb hby d8_151)
  obtain ⟨_, T2155, L2155, X2155, N2155, ⟨_, rfl, -, e2155⟩, st2155⟩ := own_cV X2154 hx hZ hown (own_k_479 hw) (rmLen3 hw oS yS kS x0 x1 x2 z2134 c2136 c2137 c2138 c2139 c2140) (W := 3) (k := 5) (n := 158) (by decide) e2154 N2154 (fun _ _ _ h => h.2.1) c2137 (Ls := (Y30 oA oS oR r1900 b1927 5 u2)) (rest := [(.int (5 : Int32)), (.ref oS), (.int u2)]) hml.symm (lenOf pd_272 rfl) (Nat.le_of_eq rfl) (hb hby d8_163)
  obtain ⟨_, T2156, L2156, X2156, N2156, ⟨_, rfl, -, e2156⟩, st2156⟩ := own_cV X2155 hx hZ hown (own_k_519 hw) (rmCa hw oS yS kS (3 : Int32) (2 : Int32) x2 [(.int x0), (.int x1), (.int x2)] z2134 c2136 c2137 c2138 c2139 c2140 (by decide) (by decide) rfl hpx2) (W := 1) (k := 5) (n := 158) (by decide) e2155 N2155 (fun _ _ _ h => h.2.1) c2137 (Ls := (Y30 oA oS oR r1900 b1927 5 u2)) (rest := [(.int u2)]) hml.symm (lenOf pd_520 rfl) (Nat.le_of_eq rfl) (hb hby d8_167)
  have pre2157 : PQ p e below T2156 (mkF m 170 (Y30 oA oS oR r1900 b1927 5 u2) [(.int x2), (.int u2)]) bs := fun t kt => pre2133 t (by
    refine XS.iinc X2133.here hx rfl (hb hby d8_286) rfl (l' := (Y30 oA oS oR r1900 b1927 5 u1)) rfl ?_
    refine XS.goto X2133.here hx rfl (pc0 := 289) (pc' := 131) rfl (hb hby d8_289) (by decide) (by decide) ?_
    refine XS.iload X2133.here hx rfl (hb hby d8_131) rfl ?_
    refine XS.aloadN X2133.here hx rfl (hb hby d8_133) rfl rfl ?_
    refine st2152.trans ?_
    refine XS.icmpNo X2152.here hx rfl (hb hby d8_137) rfl (tlt (by decide : (5 : Int32) < (6 : Int32))).2.1 ?_
    refine XS.aloadN X2152.here hx rfl (hb hby d8_140) rfl rfl ?_
    refine XS.iload X2152.here hx rfl (hb hby d8_141) rfl ?_
    refine st2153.trans ?_
    refine XS.istore X2153.here hx rfl (hb hby d8_146) rfl (l' := (Y30 oA oS oR r1900 b1927 5 u2)) rfl ?_
    refine XS.iload X2153.here hx rfl (hb hby d8_148) rfl ?_
    refine XS.aloadN X2153.here hx rfl (hb hby d8_150) rfl rfl ?_
    refine st2154.trans ?_
    refine XS.icmpNo X2154.here hx rfl (hb hby d8_154) rfl (flt (by decide : ¬ ((5 : Int32) < (3 : Int32)))).1 ?_
    refine XS.iload X2154.here hx rfl (hb hby d8_157) rfl ?_
    refine XS.aloadN X2154.here hx rfl (hb hby d8_159) rfl rfl ?_
    refine XS.iload X2154.here hx rfl (hb hby d8_160) rfl ?_
    refine XS.aloadN X2154.here hx rfl (hb hby d8_162) rfl rfl ?_
    refine st2155.trans ?_
    refine XS.isub X2155.here hx rfl (hb hby d8_166) rfl ?_
    refine st2156.trans ?_
    exact kt)
  obtain ⟨T2184, L2184, X2184, N2184, hP2184, pre2184⟩ : ∃ (T' : State) (locs' : List Loc), Stand p l e (⟨6, 5, 158, 91⟩ : Room) s m #[(.ref oA), (.ref oS), (.ref oR)] below meth c T' locs' 5 158 ∧ Fr n0 locs' ∧ (Keep T2133.heap T'.heap [b1927] ∧ Ints Z T'.heap b1927 (own_al (own_al (own_al (own_sy x0 x1 x2) u0 x0 (0 : Int32)) u1 x1 (1 : Int32)) u2 x2 (2 : Int32))) ∧ PQ p e below T' (mkF m 286 (Y30 oA oS oR r1900 b1927 5 u2) []) bs := by
    by_cases hc2158 : u2 = x2
    case pos =>
      have pre2159 : PQ p e below T2156 (mkF m 286 (Y30 oA oS oR r1900 b1927 5 u2) []) bs := fun t kt => pre2157 t (by
        refine XS.icmpNo X2156.here hx rfl (hb hby d8_170) rfl (teq hc2158).2 ?_
        refine XS.goto X2156.here hx rfl (pc0 := 173) (pc' := 286) rfl (hb hby d8_173) (by decide) (by decide) ?_
        exact kt)
      exact ⟨T2156, _, own_more X2156 (by decide) (by decide), N2156, (by rw [e2156]; exact (⟨Keep.refl T2133.heap [b1927], by rw [← own_al1 hc2158]; exact I2133⟩ : Keep T2133.heap T2133.heap [b1927] ∧ Ints Z T2133.heap b1927 (own_al (own_al (own_al (own_sy x0 x1 x2) u0 x0 (0 : Int32)) u1 x1 (1 : Int32)) u2 x2 (2 : Int32)))), pre2159⟩
    case neg =>
      obtain ⟨_, T2160, L2160, X2160, N2160, ⟨_, rfl, -, e2160⟩, st2160⟩ := own_cS X2156 hx hZ hown (own_k_534 hw) (rmSep hw u2 z2134 hpu2) (W := 0) (k := 5) (n := 158) (by decide) e2156 N2156 (fun _ _ _ h => h.2.1) (Ls := (Y30 oA oS oR r1900 b1927 5 u2)) (rest := []) hml.symm (lenOf pd_535 rfl) (Nat.le_of_eq rfl) (hb hby d8_192)
      obtain ⟨cl2161, Ar2161, S2161, H2161⟩ := id I2133
      have hk2161 : ((own_al (own_al (own_sy x0 x1 x2) u0 x0 (0 : Int32)) u1 x1 (1 : Int32)) u2) = (-1 : Int32) := by simp [own_sy, own_st, own_al, hx01, hx02, hx12, hu01, hu02, hu12, hm01, hm02, hm10, hm12, hm20, hm21, hc2158]
      have hat2161 : cl2161.slots[(u2).toNatClampNeg]? = some (.int ((own_al (own_al (own_sy x0 x1 x2) u0 x0 (0 : Int32)) u1 x1 (1 : Int32)) u2)) := H2161 _ hpu2.2.2.2.2.2.2.2.2.1 hpu2.2.2.2.2.2.2.2.2.2
      obtain ⟨_, T2162, L2162, X2162, N2162, ⟨_, rfl, -, e2162⟩, st2162⟩ := own_cV X2160 hx hZ hown (own_k_479 hw) (rmLen3 hw oS yS kS x0 x1 x2 z2134 c2136 c2137 c2138 c2139 c2140) (W := 3) (k := 5) (n := 158) (by decide) e2160 N2160 (fun _ _ _ h => h.2.1) c2137 (Ls := (Y30 oA oS oR r1900 b1927 5 u2)) (rest := [(.int (5 : Int32)), (.int u2), (.ref b1927)]) hml.symm (lenOf pd_272 rfl) (Nat.le_of_eq rfl) (hb hby d8_281)
      obtain ⟨cl2163, Ar2163, S2163, H2163⟩ := id I2133
      obtain ⟨T2164, h2164, X2164, e2164, W2164, st2164⟩ := stI X2162 hx hZ e2162 Ar2163 (j := u2) (own_inb S2163 hpu2.2.2.2.2.2.2.2.2.1 hpu2.2.2.2.2.2.2.2.2.2) (g := (mkF m 285 (Y30 oA oS oR r1900 b1927 5 u2) [(.int (2 : Int32)), (.int u2), (.ref b1927)])) rfl rfl (hb hby d8_285)
      have I2164 := own_ints_set Ar2163 S2163 H2163 W2164 hpu2.2.2.2.2.2.2.2.2.1 hpu2.2.2.2.2.2.2.2.2.2
      have N2164 := Fr.snoc X2164 N2162 G1927
      have pre2183 : PQ p e below T2164 (mkF m 286 (Y30 oA oS oR r1900 b1927 5 u2) []) bs := fun t kt => pre2157 t (by
        refine XS.icmpYes X2156.here hx rfl (pc0 := 170) (pc' := 176) rfl (hb hby d8_170) rfl (feq hc2158).2 (by decide) (by decide) ?_
        refine XS.iload X2156.here hx rfl (hb hby d8_176) rfl ?_
        refine XS.bipush X2156.here hx rfl (hb hby d8_178) ?_
        refine XS.icmpNo X2156.here hx rfl (hb hby d8_180) rfl (flt hpu2.2.2.2.2.1).1 ?_
        refine XS.iload X2156.here hx rfl (hb hby d8_183) rfl ?_
        refine XS.bipush X2156.here hx rfl (hb hby d8_185) ?_
        refine XS.icmpNo X2156.here hx rfl (hb hby d8_187) rfl (flt hpu2.2.2.2.2.2.1).2.2.1 ?_
        refine XS.iload X2156.here hx rfl (hb hby d8_190) rfl ?_
        refine st2160.trans ?_
        refine XS.ifYes X2160.here hx rfl (pc0 := 195) (pc' := 223) rfl (hb hby d8_195) rfl ((if0 _ _).trans (teq (by decide : (0 : Int32) = (0 : Int32))).1) (by decide) (by decide) ?_
        refine XS.aload X2160.here hx rfl (hb hby d8_223) rfl rfl ?_
        refine XS.iload X2160.here hx rfl (hb hby d8_225) rfl ?_
        refine X2160.iaload hx (j := u2) (v := (.int ((own_al (own_al (own_sy x0 x1 x2) u0 x0 (0 : Int32)) u1 x1 (1 : Int32)) u2))) (by rw [e2160]; exact Ar2161.1) (State.isArrayOf_alike hZ.alike Ar2161.2.1) Ar2161.2.2 (own_inb S2161 hpu2.2.2.2.2.2.2.2.2.1 hpu2.2.2.2.2.2.2.2.2.2) hat2161 (g := (mkF m 227 (Y30 oA oS oR r1900 b1927 5 u2) [(.int u2), (.ref b1927)])) rfl rfl (hb hby d8_227) _ ?_
        refine XS.iconst X2160.here hx rfl (hb hby d8_228) ?_
        refine XS.icmpYes X2160.here hx rfl (pc0 := 229) (pc' := 274) rfl (hb hby d8_229) rfl (teq hk2161).1 (by decide) (by decide) ?_
        refine XS.aload X2160.here hx rfl (hb hby d8_274) rfl rfl ?_
        refine XS.iload X2160.here hx rfl (hb hby d8_276) rfl ?_
        refine XS.iload X2160.here hx rfl (hb hby d8_278) rfl ?_
        refine XS.aloadN X2160.here hx rfl (hb hby d8_280) rfl rfl ?_
        refine st2162.trans ?_
        refine XS.irem X2162.here hx rfl (hb hby d8_284) rfl (by decide) ?_
        refine st2164 _ ?_
        exact kt)
      exact ⟨T2164, _, own_more X2164 (by decide) (by decide), N2164, (by rw [e2164]; exact (⟨Keep.of_wr W2164, by rw [← own_al0 hc2158]; exact I2164⟩ : Keep T2133.heap h2164 [b1927] ∧ Ints Z h2164 b1927 (own_al (own_al (own_al (own_sy x0 x1 x2) u0 x0 (0 : Int32)) u1 x1 (1 : Int32)) u2 x2 (2 : Int32)))), pre2183⟩
  obtain ⟨K2184, I2184⟩ := hP2184
  have z2185 : n0 ≤ T2184.heap.size := Nat.le_trans z2134 K2184.1
  have c2186 := c2135.trans K2184 (allS (Or.inr sz1927) all0)
  have c2187 := c2136.keep K2184 (allS G1927 all0)
  have c2196 := c2145.keep K2184
  have c2197 := c2146.keep K2184 (ninS ne1932 nin0)
  have c2198 := c2147.keep K2184 (ninS ne1932 nin0)
  have c2199 := c2148.keep K2184
  have c2200 := c2149.keep K2184 (ninS ne1933 nin0)
  have c2201 := c2150.keep K2184 (ninS ne1933 nin0)
  have c2202 := c2151.keep K2184 (ninS ne1934 nin0)
  obtain ⟨_, T2203, L2203, X2203, N2203, ⟨_, rfl, -, e2203⟩, st2203⟩ := own_cV X2184 hx hZ hown (own_k_479 hw) (rmLen6 hw r1900 yy1900 kc1900 x0 x1 x2 u0 u1 u2 z2185 c2187 c2199 c2200 c2201 c2202) (W := 1) (k := 5) (n := 158) (by decide) rfl N2184 (fun _ _ _ h => h.2.1) c2199 (Ls := (Y30 oA oS oR r1900 b1927 6 u2)) (rest := [(.int (6 : Int32))]) hml.symm (lenOf pd_272 rfl) (Nat.le_of_eq rfl) (hb hby d8_134)
  obtain ⟨T2204, h2204, X2204, e2204, W2204, st2204⟩ := putF X2203 hx hZ hown (host := "") (Or.inl (own_w hw 182 rfl)) Via.refl e2203 c2197 c2196 (Or.inr ⟨(own_w hw 183 rfl), rfl, hnm⟩) (own_w hw 36 rfl) (ty := (.object "java/lang/String")) (by decide) rfl rfl (g := (mkF m 294 (Y30 oA oS oR r1900 b1927 6 u2) [(.ref oS), (.ref oA)])) rfl rfl (hb hby d8_294)
  have N2204 := Fr.snoc X2204 N2203 GA
  have c2206 := c2186.wr W2204 (Or.inl (List.mem_of_getElem? (i := 0) rfl))
  have c2208 := c2196.wr W2204
  have c2210 := c2198.other W2204 (Or.inr (own_sn_554 hw))
  have I2211 := I2184.other W2204 (Ne.symm ne1932)
  obtain ⟨T2212, h2212, X2212, e2212, W2212, st2212⟩ := putF X2204 hx hZ hown (host := "") (Or.inl (own_w hw 184 rfl)) Via.refl e2204 c2210 c2208 (Or.inr ⟨(own_w hw 185 rfl), rfl, hnm⟩) (own_w hw 36 rfl) (ty := (.array .int)) (by decide) rfl rfl (g := (mkF m 300 (Y30 oA oS oR r1900 b1927 6 u2) [(.ref b1927), (.ref oA)])) rfl rfl (hb hby d8_300)
  have Fw2212 := c2210.same W2212
  have N2212 := Fr.snoc X2212 N2204 GA
  have c2214 := c2206.wr W2212 (Or.inl (List.mem_of_getElem? (i := 0) rfl))
  have I2219 := I2211.other W2212 (Ne.symm ne1932)
  have pre2220 : PQ p e below T2212 (mkF m 303 (Y30 oA oS oR r1900 b1927 6 u2) []) bs := fun t kt => pre2184 t (by
    refine XS.iinc X2184.here hx rfl (hb hby d8_286) rfl (l' := (Y30 oA oS oR r1900 b1927 6 u2)) rfl ?_
    refine XS.goto X2184.here hx rfl (pc0 := 289) (pc' := 131) rfl (hb hby d8_289) (by decide) (by decide) ?_
    refine XS.iload X2184.here hx rfl (hb hby d8_131) rfl ?_
    refine XS.aloadN X2184.here hx rfl (hb hby d8_133) rfl rfl ?_
    refine st2203.trans ?_
    refine XS.icmpYes X2203.here hx rfl (pc0 := 137) (pc' := 292) rfl (hb hby d8_137) rfl (flt (by decide : ¬ ((6 : Int32) < (6 : Int32)))).2.1 (by decide) (by decide) ?_
    refine XS.aloadN X2203.here hx rfl (hb hby d8_292) rfl rfl ?_
    refine XS.aloadN X2203.here hx rfl (hb hby d8_293) rfl rfl ?_
    refine st2204 _ ?_
    refine XS.aloadN X2204.here hx rfl (hb hby d8_297) rfl rfl ?_
    refine XS.aload X2204.here hx rfl (hb hby d8_298) rfl rfl ?_
    refine st2212 _ ?_
    exact kt)
  have hQ : QAl3 Z oA x0 x1 x2 u0 u1 u2 h0 n0 none h2212 _ := ⟨b1927, rfl, N2212, c2214, Fw2212, I2219⟩
  exact own_retV X2212 hx hlk hrt (hb hby d8_303) pre2220 (show QAl3 Z oA x0 x1 x2 u0 u1 u2 h0 n0 _ _ _ from (by rw [e2212]; exact hQ)) (by decide) (by decide)
abbrev EL0 : List (String × Nat) := [("java/lang/String", 7)]
theorem own_wS {Z : State} {a0 : Array Value} (hw : ∀ d ∈ tables_1, d.before a0 Z = true) : ∀ a ∈ Bundle.stringAtoms, a.before a0 Z = true := by
  intro d hd
  simp only [Bundle.stringAtoms, List.mem_cons, List.not_mem_nil, or_false] at hd
  rcases hd with rfl | rfl | rfl | rfl | rfl | rfl | rfl
  · exact (own_w hw 8 rfl)
  · exact (own_w hw 7 rfl)
  · exact (own_w hw 24 rfl)
  · exact (own_w hw 34 rfl)
  · exact (own_w hw 32 rfl)
  · exact (own_w hw 192 rfl)
  · exact (own_w hw 193 rfl)
theorem own_ew {Z : State} {a0 : Array Value} (hw : ∀ d ∈ tables_1, d.before a0 Z = true) : EW Z a0 EL0 := EW.cons (own_w hw 191 rfl) (by simp) EW.nil
theorem own_backS {p : Program} {l : Launch} {e : Env} {R : Room} {s : State} {args : Array Value} {below : List Frame} {Z : State} {a0 : Array Value} {h : Heap} {EL : List (String × Nat)} {x : Addr} {y : MethodName} {bytes : ByteArray} {maxL : Nat} {ret : Option FieldType} {rm : Room} {len W : Nat} {as' : Array Value} {Q : Option Value → Heap → List Loc → Prop}
    (hM : MetFree l y (head1 [Cond.code y bytes maxL ret] rm) (fun a U => a = as' ∧ Z.Warmed39 U.vm ∧ U.heap = h ∧ CHv Z EL U.vm h ∧ Safe Z EL U.vm h x) (fun _ _ _ _ _ => True) (fun _ U o U' => ∃ v L, o = .returned v ∧ Q v U'.heap L ∧ ReturnedEndW U o U' L rm.cells rm.slots))
    (hZ : Z.Warmed39 s.vm) (wc : (Cond.code y bytes maxL ret).before a0 Z = true) (wz : (Cond.initialized y.cls).before a0 Z = true) (hf : rm.frames + 1 ≤ R.frames) (hl : W + (maxL + 11) + rm.locals ≤ R.locals) (hEL : EW Z a0 EL) (H : CHv Z EL s.vm h) (hx : x < h.size) (S : Safe Z EL s.vm h x) :
    BackS l R p e below s args y len W (fun A a => a = as' ∧ A.U.heap = h ∧ A.cells + rm.cells ≤ R.cells ∧ A.slots + rm.slots ≤ R.slots)
      (fun A _ v B => ∃ L, Q v B.U.heap L ∧ B.locs = A.locs ++ L ∧ B.cells = A.cells + rm.cells ∧ B.slots = A.slots + rm.slots) :=
  BackS.of_freeW (bytes := bytes) (maxL := maxL) (ret := ret) (E := fun _ _ o t L k n => k = rm.cells ∧ n = rm.slots ∧ ∃ v, o = .returned v ∧ Q v t.heap L) hM hf hl
    (fun m meth c A a Y hp => have hU : Z.Warmed39 A.U.vm := wtrans hZ Y.warmed
      ⟨by show (Cond.and _ .tt).before a A.U = true; rw [Cond.before_and, mv hU wc]; rfl, mv hU wc, mv hU wz, hp.2.2.1, hp.2.2.2⟩)
    (fun m meth c A a g mk Y hp => have q := CHv.at (s := s) (vm0 := s.vm) Y hZ hEL H
      ⟨hp.1, wtrans hZ Y.warmed, hp.2.1, q.1, q.safe hx S⟩) (fun _ _ _ _ _ _ _ _ _ => trivial)
    (fun _ _ _ _ ⟨v, L, h1, h2, h4⟩ => ⟨L, _, _, h4, rfl, rfl, v, h1, h2⟩)
    (fun m meth c A a g mk v t L k n Y hp _ _ ⟨e1, e2, v', e3, e4⟩ => by cases e3; subst e1 e2; exact ⟨L, e4, rfl, rfl, rfl⟩)

theorem d3_8 : decode jdk_42_method_149_code 8 = .ok (.aload_n 0, 1) := by decide +kernel
theorem d3_9 : decode jdk_42_method_149_code 9 = .ok (.ldc 7, 2) := by decide +kernel
theorem d3_11 : decode jdk_42_method_149_code 11 = .ok (.getfield 9, 3) := by decide +kernel
theorem d3_14 : decode jdk_42_method_149_code 14 = .ok (.putfield 9, 3) := by decide +kernel
theorem d3_17 : decode jdk_42_method_149_code 17 = .ok (.aload_n 0, 1) := by decide +kernel
theorem d3_18 : decode jdk_42_method_149_code 18 = .ok (.ldc 7, 2) := by decide +kernel
theorem d3_20 : decode jdk_42_method_149_code 20 = .ok (.getfield 15, 3) := by decide +kernel
theorem d3_23 : decode jdk_42_method_149_code 23 = .ok (.putfield 15, 3) := by decide +kernel
theorem d3_26 : decode jdk_42_method_149_code 26 = .ok (.return_, 1) := by decide +kernel
def QSj0 (Z : State) (oS : Addr) (h0 : Heap) (n0 : Nat) (v : Option Value) (h : Heap) (L : List Loc) : Prop := ∃ (r : Addr) (k : ClassId), v = none ∧ Fr n0 L ∧ Keep h0 h [oS] ∧ Fa Z h oS (.int (0 : Int32)) ∧ Fb Z h oS (.ref r) ∧ Arv Z h r k .byte (0 : Int32) [] (.int (0 : Int32))
set_option maxRecDepth 65536 in
set_option maxHeartbeats 40000000 in
theorem rmSj0 (l : Launch) (Z : State) (a0 : Array Value) (hw : ∀ d ∈ tables_1, d.before a0 Z = true) (ws : List Jvm.Cond) (oS yC : Addr) (kC : ClassId) (cs : Int32) (fv : Value) (h0 : Heap) (n0 : Nat) (Z0 : n0 ≤ h0.size) (Ev : Ev0 Z n0 h0 cs fv) (ES : Exa Z h0 oS "java/lang/String") (FcS : Fa Z h0 oS (.int (0 : Int32))) (FvS : Fb Z h0 oS .null) (GS : n0 ≤ oS) (VC : Arv Z h0 yC kC .char (0 : Int32) [] (.int (0 : Int32))) :
    MetFree l own_y_136 (head1 (Jvm.Cond.code own_y_136 jdk_42_method_149_code 6 none :: ws) (⟨1, 4, 8, 12⟩ : Room)) (fun a U => a = #[(.ref oS), (.ref yC), o0, o0, .null] ∧ Z.Warmed39 U.vm ∧ U.heap = h0 ∧ CHv Z EL0 U.vm h0 ∧ Safe Z EL0 U.vm h0 oS) (fun _ _ _ _ _ => True) (fun _ U o U' => ∃ v L, o = .returned v ∧ QSj0 Z oS h0 n0 v U'.heap L ∧ ReturnedEndW U o U' L (⟨1, 4, 8, 12⟩ : Room).cells (⟨1, 4, 8, 12⟩ : Room).slots) := by
  refine MetFree.of_bodySF (plainFor_of_name pn_2) hisR ?_
  intro p e s m args below meth c s₁ Bd hml0 hP hK
  obtain ⟨rfl, hZ, hh, hCH, hSf⟩ := hP
  have hx := Bd.exec
  have hby := Bd.bytes
  have hml : c.maxLocals = 6 := hml0
  have hown : s.vm.findClass "java/lang/String" = some m.cls := findClass_of_methodNamed Bd.named
  have hnm := (name_of_methodNamed Bd.named Bd.method).1
  have X0 : Stand p l e (⟨1, 4, 8, 12⟩ : Room) s m #[(.ref oS), (.ref yC), o0, o0, .null] below meth c s₁ [] 0 0 := Stand.of_body Bd
  have e0 : s₁.heap = h0 := by rw [← hh, Bd.state]; rfl
  have N0 := Fr.nil n0
  have pre0 : ∀ t, Steps p.tables e below (s₁.setTop (mkF m 0 (Y9 oS yC 0 0) [])) t → Steps p.tables e below (s₁.setTop (entryFrame m #[(.ref oS), (.ref yC), o0, o0, .null] 6)) t := fun t k => castTop (ef_137 m oS yC (0 : Int32) (0 : Int32)) k
  obtain ⟨T2221, X2221, e2221, st2221⟩ := initO X0 hx hZ hown (own_w hw 16 rfl) (own_w hw 17 rfl) (own_w hw 18 rfl) e0 (g := (mkF m 1 (Y9 oS yC 0 0) [(.ref oS)])) rfl (by rw [hml]; rfl) rfl (hb hby d3_1) (by decide) (W := 0) (by show 2 * 0 + _ ≤ _; exact Nat.le_of_eq rfl) (by decide)
  have pre2222 : PQ p e below T2221 (mkF m 9 (Y9 oS yC 0 0) [(.ref oS)]) (s₁.setTop (entryFrame m #[(.ref oS), (.ref yC), o0, o0, .null] 6)) := fun t kt => pre0 t (by
    refine XS.aloadN X0.here hx rfl (hb hby d3_0) rfl rfl ?_
    refine st2221 _ ?_
    refine XS.iloadN X2221.here hx rfl (hb hby d3_4) rfl ?_
    refine XS.ifNo X2221.here hx rfl (hb hby d3_5) rfl ((if0 _ _).trans (teq (by decide : (0 : Int32) = (0 : Int32))).2) ?_
    refine XS.aloadN X2221.here hx rfl (hb hby d3_8) rfl rfl ?_
    exact kt)
  obtain ⟨la2223, T2223, h2223, k12223, lb2223, lk2223, X2223, e2223, E2223, hS2223, hk2223, hZ, hown, Ea2223, Fc2223, Fv2223, V2223, -, -, CR2223, -, sf2223, st2223⟩ := ldcCH (s := s) (vm0 := s.vm) X2221 hx hZ hown (own_w hw 191 rfl) (own_wS hw) e2221 ((State.WarmedH.refl s).since 0) (Nat.zero_le _) (own_ew hw) (List.mem_cons_self ..) hCH (vs := []) (z := (0 : Int32)) ⟨by simp, by simp⟩ (by decide) rfl (g := (mkF m 9 (Y9 oS yC 0 0) [(.ref oS)])) rfl (hb hby d3_9) (n := 0) (by decide) (by decide) (by decide) (by decide)
  have S2223 := CR2223.safe ES.lt hSf
  have nn2223 := sf2223 _ S2223
  have c2224 := (Keep.refl h0 [oS]).ext E2223
  have c2226 := ES.ext E2223
  have c2227 := FcS.ext E2223
  have c2228 := FvS.ext E2223
  obtain ⟨T2230, X2230, e2230, st2230⟩ := getF X2223 hx hZ hown (host := "") (Or.inl (own_w hw 33 rfl)) Via.refl e2223 Fv2223 (g := (mkF m 11 (Y9 oS yC 0 0) [(.ref la2223), (.ref oS)])) rfl rfl (hb hby d3_11)
  obtain ⟨T2231, h2231, X2231, e2231, W2231, st2231⟩ := putF X2230 hx hZ hown (host := "") (Or.inl (own_w hw 33 rfl)) Via.refl e2230 c2228 c2226 (Or.inr ⟨(own_w hw 34 rfl), rfl, hnm⟩) (own_w hw 7 rfl) (ty := (.array .byte)) (by decide) rfl rfl (g := (mkF m 14 (Y9 oS yC 0 0) [(.ref lb2223), (.ref oS)])) rfl rfl (hb hby d3_14)
  have Fw2231 := c2228.same W2231
  have N2231 := Fr.snoc X2231 N0 GS
  have kz2233 := Nat.le_trans hk2223 (Keep.of_wr W2231).1
  have c2234 := c2224.wr W2231 (Or.inl (List.mem_of_getElem? (i := 0) rfl))
  have c2236 := c2226.wr W2231
  have c2237 := c2227.other W2231 (Or.inr (own_sn_162 hw))
  have c2242 := V2223.other W2231 (Ne.symm nn2223.2)
  have CHw := CHv.wr W2231 S2223 (CR2223.1)
  have Sfw := Safe.wr W2231 S2223 (CR2223.1) S2223
  have pre2243 : PQ p e below T2231 (mkF m 18 (Y9 oS yC 0 0) [(.ref oS)]) (s₁.setTop (entryFrame m #[(.ref oS), (.ref yC), o0, o0, .null] 6)) := fun t kt => pre2222 t (by
    refine st2223 _ ?_
    refine st2230 _ ?_
    refine st2231 _ ?_
    refine XS.aloadN X2231.here hx rfl (hb hby d3_17) rfl rfl ?_
    exact kt)
  obtain ⟨la2244, T2244, h2244, k12244, lb2244, lk2244, X2244, e2244, E2244, hS2244, hk2244, hZ, hown, Ea2244, Fc2244, Fv2244, V2244, -, -, CR2244, -, sf2244, st2244⟩ := ldcCH (s := s) (vm0 := T2223.vm) X2231 hx hZ hown (own_w hw 191 rfl) (own_wS hw) e2231 hS2223 kz2233 (own_ew hw) (List.mem_cons_self ..) CHw (vs := []) (z := (0 : Int32)) ⟨by simp, by simp⟩ (by decide) rfl (g := (mkF m 18 (Y9 oS yC 0 0) [(.ref oS)])) rfl (hb hby d3_18) (n := 0) (by decide) (by decide) (by decide) (by decide)
  have S2244 := CR2244.safe c2236.lt Sfw
  have nn2244 := sf2244 _ S2244
  have c2245 := c2234.ext E2244
  have c2247 := c2236.ext E2244
  have c2248 := c2237.ext E2244
  have c2249 := c2242.ext E2244
  have c2250 := Fw2231.ext E2244
  obtain ⟨T2252, X2252, e2252, st2252⟩ := getF X2244 hx hZ hown (host := "") (Or.inl (own_w hw 31 rfl)) Via.refl e2244 Fc2244 (g := (mkF m 20 (Y9 oS yC 0 0) [(.ref la2244), (.ref oS)])) rfl rfl (hb hby d3_20)
  obtain ⟨T2253, h2253, X2253, e2253, W2253, st2253⟩ := putFN X2252 hx hZ hown (own_w hw 31 rfl) Via.refl e2252 c2248 c2247 (Or.inr ⟨(own_w hw 32 rfl), rfl, hnm⟩) (own_w hw 7 rfl) (ty := .byte) (v' := (.int (nar .byte (0 : Int32)))) (by decide) rfl (fits_nar_byte _) (g := (mkF m 23 (Y9 oS yC 0 0) [(.int (0 : Int32)), (.ref oS)])) rfl rfl (hb hby d3_23)
  have Fw2253 := c2248.same W2253
  have N2253 := Fr.snoc X2253 N2231 GS
  have kz2255 := Nat.le_trans hk2244 (Keep.of_wr W2253).1
  have c2256 := c2245.wr W2253 (Or.inl (List.mem_of_getElem? (i := 0) rfl))
  have c2260 := c2249.other W2253 (Ne.symm nn2223.2)
  have c2261 := c2250.other W2253 (Or.inr (own_sn_158 hw))
  have pre2266 : PQ p e below T2253 (mkF m 26 (Y9 oS yC 0 0) []) (s₁.setTop (entryFrame m #[(.ref oS), (.ref yC), o0, o0, .null] 6)) := fun t kt => pre2243 t (by
    refine st2244 _ ?_
    refine st2252 _ ?_
    refine st2253 _ ?_
    exact kt)
  have hQ : QSj0 Z oS h0 n0 none h2253 _ := ⟨lb2223, lk2223, rfl, N2253, c2256, Fw2253, c2261, c2260⟩
  exact own_retVW X2253 hS2244 (by rw [e2253]; exact kz2255) hx Bd.notSynchronized Bd.returns (hb hby d3_26) pre2266 (show QSj0 Z oS h0 n0 _ _ _ from (by rw [e2253]; exact hQ)) (by decide) (by decide)
set_option maxRecDepth 65536 in
set_option maxHeartbeats 40000000 in
theorem rmSi0 (l : Launch) (Z : State) (a0 : Array Value) (hw : ∀ d ∈ tables_1, d.before a0 Z = true) (ws : List Jvm.Cond) (oS yC : Addr) (kC : ClassId) (cs : Int32) (fv : Value) (h0 : Heap) (n0 : Nat) (Z0 : n0 ≤ h0.size) (Ev : Ev0 Z n0 h0 cs fv) (ES : Exa Z h0 oS "java/lang/String") (FcS : Fa Z h0 oS (.int (0 : Int32))) (FvS : Fb Z h0 oS .null) (GS : n0 ≤ oS) (VC : Arv Z h0 yC kC .char (0 : Int32) [] (.int (0 : Int32))) :
    MetFree l own_y_164 (head1 (Jvm.Cond.code own_y_164 jdk_42_method_3_code 2 none :: ws) (⟨2, 4, 8, 29⟩ : Room)) (fun a U => a = #[(.ref oS), (.ref yC)] ∧ Z.Warmed39 U.vm ∧ U.heap = h0 ∧ CHv Z EL0 U.vm h0 ∧ Safe Z EL0 U.vm h0 oS) (fun _ _ _ _ _ => True) (fun _ U o U' => ∃ v L, o = .returned v ∧ QSj0 Z oS h0 n0 v U'.heap L ∧ ReturnedEndW U o U' L (⟨2, 4, 8, 29⟩ : Room).cells (⟨2, 4, 8, 29⟩ : Room).slots) := by
  refine MetFree.of_bodySF (plainFor_of_name pn_2) hisR ?_
  intro p e s m args below meth c s₁ Bd hml0 hP hK
  obtain ⟨rfl, hZ, hh, hCH, hSf⟩ := hP
  have hx := Bd.exec
  have hby := Bd.bytes
  have hml : c.maxLocals = 2 := hml0
  have hown : s.vm.findClass "java/lang/String" = some m.cls := findClass_of_methodNamed Bd.named
  have hnm := (name_of_methodNamed Bd.named Bd.method).1
  have X0 : Stand p l e (⟨2, 4, 8, 29⟩ : Room) s m #[(.ref oS), (.ref yC)] below meth c s₁ [] 0 0 := Stand.of_body Bd
  have e0 : s₁.heap = h0 := by rw [← hh, Bd.state]; rfl
  have N0 := Fr.nil n0
  have pre0 : ∀ t, Steps p.tables e below (s₁.setTop (mkF m 0 (Y11 oS yC) [])) t → Steps p.tables e below (s₁.setTop (entryFrame m #[(.ref oS), (.ref yC)] 2)) t := fun t k => castTop (ef_165 m oS yC) k
  obtain ⟨cl2267, A2267, q2267, S2267, M2267, H2267, J2267⟩ := id VC
  have pre2268 : PQ p e below s₁ (mkF m 6 (Y11 oS yC) [.null, o0, o0, (.ref yC), (.ref oS)]) (s₁.setTop (entryFrame m #[(.ref oS), (.ref yC)] 2)) := fun t kt => pre0 t (by
    refine XS.aloadN X0.here hx rfl (hb hby d2_0) rfl rfl ?_
    refine XS.aloadN X0.here hx rfl (hb hby d2_1) rfl rfl ?_
    refine XS.iconst X0.here hx rfl (hb hby d2_2) ?_
    refine XS.aloadN X0.here hx rfl (hb hby d2_3) rfl rfl ?_
    refine X0.arraylength hx (by rw [e0]; exact A2267.1) (State.isArrayOf_alike hZ.alike A2267.2.1) (g := (mkF m 4 (Y11 oS yC) [(.ref yC), o0, (.ref yC), (.ref oS)])) rfl rfl (hb hby d2_4) _ ?_
    rw [len_of S2267 M2267]
    refine XS.aconstNull X0.here hx rfl (hb hby d2_5) ?_
    exact kt)
  obtain ⟨_, _, ⟨T2269, L2269, k2269, n2269⟩, -, X2269, hS2269, -, ⟨Lc2269, hQ2269, l2269, y2269, z2269⟩, st2269⟩ := X0.specialBackS hx (y := own_y_136) rfl hown (mvT hZ (own_w hw 12 rfl)) (mvT hZ (own_w hw 13 rfl)) (mvT hZ (own_w hw 15 rfl)) (by decide) (own_backS (W := 0) (rmSj0 l Z a0 hw [] oS yC kC cs fv h0 n0 Z0 Ev ES FcS FvS GS VC) hZ (own_w hw 15 rfl) (own_w hw 8 rfl) (by decide) (by decide) (own_ew hw) hCH ES.lt hSf) (g := (mkF m 6 (Y11 oS yC) [.null, o0, o0, (.ref yC), (.ref oS)])) rfl (by rw [hml]; rfl) (Steps.refl _) (a := oS) (argsL := [(.ref yC), o0, o0, .null]) (rest := []) (lenOf pd_174 rfl) rfl (by show 2 * 0 + _ ≤ _; exact Nat.le_of_eq rfl) (hb hby d2_6) (fun _ _ => ⟨rfl, e0, (by decide : 0 + 4 ≤ _), (by decide : 0 + 8 ≤ _)⟩)
  dsimp only [Pt.U, Pt.locs, Pt.cells, Pt.slots] at X2269 l2269 y2269 z2269 st2269 hQ2269 hS2269
  subst y2269 z2269
  obtain ⟨r2269, kc2269, rfl, Nq2269, K2269, Fc2269, Fv2269, V2269⟩ := hQ2269
  have N2269 : Fr n0 L2269 := by rw [l2269]; exact Fr.app N0 Nq2269
  replace X2269 := own_more (k := 4) (n := 8) X2269 (Nat.le_of_ble_eq_true rfl) (Nat.le_of_ble_eq_true rfl)
  have hZ : Z.Warmed39 (s.setVm T2269.vm).vm := State.Warmed39.trans hZ hS2269.1
  have hown : (s.setVm T2269.vm).vm.findClass "java/lang/String" = some m.cls := (hS2269.1.alike.findClass _ _).trans hown
  have pre2270 : PQ p e below T2269 (mkF m 9 (Y11 oS yC) []) (s₁.setTop (entryFrame m #[(.ref oS), (.ref yC)] 2)) := fun t kt => pre2268 t (by
    refine st2269.trans ?_
    exact kt)
  exact own_retVW X2269 hS2269 (Nat.le_refl _) hx Bd.notSynchronized Bd.returns (hb hby d2_9) pre2270 (show QSj0 Z oS h0 n0 _ _ _ from ⟨r2269, kc2269, rfl, N2269, K2269, Fc2269, Fv2269, V2269⟩) (by decide) (by decide)
def own_pk (p : Int32) : Int32 := nar .char ((if p < (12 : Int32) then ((33 : Int32) + p) else ((34 : Int32) + p)).toUInt32.toUInt16.toUInt32.toInt32)
theorem own_pk1 : ∀ j : Fin 93, own_pk (Int32.ofNat j.val) = Int32.ofNat (if j.val < 12 then 33 + j.val else 34 + j.val) := by unfold own_pk; decide +kernel
theorem own_sm {x : Int32} {n : Nat} (h0 : 0 ≤ x.toInt) (h1 : x.toInt < n) : ∃ k : Fin n, x = Int32.ofNat k.val ∧ x.toInt = k.val := by
  refine ⟨⟨x.toInt.toNat, by omega⟩, ?_, by show x.toInt = ((x.toInt.toNat : Nat) : Int); omega⟩
  rw [← Int32.toInt_inj]
  have := Int32.toInt_lt x
  show x.toInt = (Int32.ofNat x.toInt.toNat).toInt
  rw [Int32.toInt_ofNat_of_lt (by omega)]
  omega
theorem own_pr {j : Int32} (h0 : 0 ≤ j.toInt) (h1 : j.toInt < 93) : Pr (own_pk j) := by
  obtain ⟨k, e, -⟩ := own_sm (n := 93) h0 (by omega)
  have := k.isLt
  rw [e, own_pk1]
  split
  · exact own_pr1 ⟨33 + k.val, by omega⟩ (by show 33 ≤ 33 + k.val; omega) (by show 33 + k.val ≤ 126; omega) (by show 33 + k.val ≠ 45; omega)
  · exact own_pr1 ⟨34 + k.val, by omega⟩ (by show 33 ≤ 34 + k.val; omega) (by show 34 + k.val ≤ 126; omega) (by show 34 + k.val ≠ 45; omega)
theorem own_pi {i j : Int32} (h0 : 0 ≤ i.toInt) (h1 : i.toInt < 93) (g0 : 0 ≤ j.toInt) (g1 : j.toInt < 93) (h : i.toInt ≠ j.toInt) : ¬ own_pk i = own_pk j := by
  obtain ⟨k, e, f⟩ := own_sm (n := 93) h0 (by omega)
  obtain ⟨k', e', f'⟩ := own_sm (n := 93) g0 (by omega)
  have := k.isLt
  have := k'.isLt
  rw [e, e', own_pk1, own_pk1, ← Int32.toInt_inj]
  split <;> split <;> rw [Int32.toInt_ofNat_of_lt (by omega), Int32.toInt_ofNat_of_lt (by omega)] <;> omega
theorem own_15 (x : Int32) : 0 ≤ (x &&& (15 : Int32)).toInt ∧ (x &&& (15 : Int32)).toInt < 16 := by
  have e : (x &&& (15 : Int32)).toInt = x.toInt % 2 ^ 4 := Jvm.Kit.i32_mask x _ (k := 4) (by decide) (by decide)
  omega
theorem own_o1 (x : Int32) : 1 ≤ ((1 : Int32) + (x &&& (15 : Int32))).toInt ∧ ((1 : Int32) + (x &&& (15 : Int32))).toInt ≤ 16 := by
  have e1 : (1 : Int32).toInt = 1 := by decide
  have := own_15 x
  rw [Jvm.Kit.i32_add (by omega) (by omega)]; omega
theorem own_o2 {a : Int32} (x : Int32) (h0 : 0 ≤ a.toInt) (h1 : a.toInt ≤ 100) : a.toInt < ((a + (1 : Int32)) + (x &&& (15 : Int32))).toInt ∧ ((a + (1 : Int32)) + (x &&& (15 : Int32))).toInt ≤ a.toInt + 16 := by
  have e1 : (1 : Int32).toInt = 1 := by decide
  have := own_15 x
  have e2 : (a + (1 : Int32)).toInt = a.toInt + 1 := by rw [Jvm.Kit.i32_add (by omega) (by omega), e1]
  rw [Jvm.Kit.i32_add (by omega) (by omega)]; omega
theorem own_bb (x : Int32) : 0 ≤ ((x &&& (2147483647 : Int32)) - (x &&& (2147483647 : Int32)) / (93 : Int32) * (93 : Int32)).toInt ∧ ((x &&& (2147483647 : Int32)) - (x &&& (2147483647 : Int32)) / (93 : Int32) * (93 : Int32)).toInt < 93 := by
  have e : (x &&& (2147483647 : Int32)).toInt = x.toInt % 2 ^ 31 := Jvm.Kit.i32_mask x _ (k := 31) (by decide) (by decide)
  have e93 : (93 : Int32).toInt = 93 := by decide
  rw [own_rem (by omega) (by omega), e93]; omega
theorem own_jj {b k : Int32} (h0 : 0 ≤ b.toInt) (h1 : b.toInt < 93) (g0 : 0 ≤ k.toInt) (g1 : k.toInt ≤ 100) : ((b + k) - (b + k) / (93 : Int32) * (93 : Int32)).toInt = (b.toInt + k.toInt) % 93 := by
  have e93 : (93 : Int32).toInt = 93 := by decide
  have e : (b + k).toInt = b.toInt + k.toInt := Jvm.Kit.i32_add (by omega) (by omega)
  rw [own_rem (by omega) (by omega), e93, e]
theorem own_4 (x : Int32) : (x &&& (3 : Int32)) = (0 : Int32) ∨ (x &&& (3 : Int32)) = (1 : Int32) ∨ (x &&& (3 : Int32)) = (2 : Int32) ∨ (x &&& (3 : Int32)) = (3 : Int32) := by
  have e1 : (x &&& (3 : Int32)).toInt = x.toInt % 2 ^ 2 := Jvm.Kit.i32_mask x _ (k := 2) (by decide) (by decide)
  have e3 : (x &&& (3 : Int32)).toInt = 0 ∨ (x &&& (3 : Int32)).toInt = 1 ∨ (x &&& (3 : Int32)).toInt = 2 ∨ (x &&& (3 : Int32)).toInt = 3 := by omega
  rcases e3 with h | h | h | h <;> simp only [← Int32.toInt_inj, h] <;> decide
theorem own_ch (x : Int32) : ¬ (x.toUInt32.toUInt16.toUInt32.toInt32) < 0 := by
  have h : (x.toUInt32.toUInt16.toUInt32.toInt32).toBitVec.toNat < 65536 := by
    show (x.toUInt32.toUInt16.toUInt32).toBitVec.toNat < 65536
    first | exact x.toUInt32.toUInt16.toNat_lt | (simp; omega)
  rw [Int32.lt_iff_toInt_lt]
  have e0 : (0 : Int32).toInt = 0 := rfl
  have e : (x.toUInt32.toUInt16.toUInt32.toInt32).toInt = (x.toUInt32.toUInt16.toUInt32.toInt32).toBitVec.toInt := rfl
  rw [e, e0, BitVec.toInt_eq_toNat_cond, if_pos (by omega)]
  omega
theorem own_at6 {cl : Cell} {c0 c1 c2 c3 c4 c5 j : Int32} {d : Value} (H : Has cl [.int c0, .int c1, .int c2, .int c3, .int c4, .int c5] d) (S : cl.slots.size = (6 : Int32).toNatClampNeg) (h0 : ¬ j < 0) (h1 : j < (6 : Int32)) (g : ∀ z, z = c0 ∨ z = c1 ∨ z = c2 ∨ z = c3 ∨ z = c4 ∨ z = c5 → ¬ z < 0) : ∃ z : Int32, cl.slots[j.toNatClampNeg]? = some (.int z) ∧ ¬ z < 0 := by
  have e6 : (6 : Int32).toInt = 6 := by decide
  have e0 : (0 : Int32).toInt = 0 := rfl
  have e1 : j.toNatClampNeg = j.toInt.toNat := rfl
  rw [Int32.lt_iff_toInt_lt] at h0 h1
  have hn : j.toNatClampNeg < 6 := by omega
  have hS : cl.slots.size = 6 := S
  have q := H j.toNatClampNeg (by omega)
  generalize j.toNatClampNeg = n at q hn ⊢
  obtain rfl | rfl | rfl | rfl | rfl | rfl : n = 0 ∨ n = 1 ∨ n = 2 ∨ n = 3 ∨ n = 4 ∨ n = 5 := by omega
  · exact ⟨c0, q, g _ (by simp)⟩
  · exact ⟨c1, q, g _ (by simp)⟩
  · exact ⟨c2, q, g _ (by simp)⟩
  · exact ⟨c3, q, g _ (by simp)⟩
  · exact ⟨c4, q, g _ (by simp)⟩
  · exact ⟨c5, q, g _ (by simp)⟩
theorem own_s6 {x : Int32} (h0 : ¬ x < (6 : Int32)) (h1 : x < (12 : Int32)) : ¬ (x - (6 : Int32)) < 0 ∧ (x - (6 : Int32)) < (6 : Int32) := by
  have e6 : (6 : Int32).toInt = 6 := by decide
  have e12 : (12 : Int32).toInt = 12 := by decide
  have e0 : (0 : Int32).toInt = 0 := rfl
  rw [Int32.lt_iff_toInt_lt] at h0 h1
  have e : (x - (6 : Int32)).toInt = x.toInt - 6 := by rw [Jvm.Kit.i32_sub (by omega) (by omega), e6]
  rw [Int32.lt_iff_toInt_lt, Int32.lt_iff_toInt_lt]
  omega
theorem own_n15 (x : Int32) : ¬ (x &&& (15 : Int32)) < 0 := by
  have := own_15 x
  have e0 : (0 : Int32).toInt = 0 := rfl
  rw [Int32.lt_iff_toInt_lt]; omega

abbrev own_y_578 : MethodName := (⟨"com/example/digitwarden/digitwarden/model/AlphabetValueOfPinLaw", "pick", "(I)C"⟩ : MethodName)
theorem ef_579 (m : MethodId) (x0 : Int32) : entryFrame m #[(.int x0)] 1 = mkF m 0 #[.val (.int x0)] [] := by first | (simp [entryFrame, mkF, argsToLocals, Value.category]; done) | rfl
theorem pn_580 : plainName "com/example/digitwarden/digitwarden/model/AlphabetValueOfPinLaw" = true := by first | (simp [plainName, overriddenIn]; done) | decide +kernel
theorem d1_0 : decode method_2_code 0 = .ok (.iload_n 0, 1) := by decide +kernel
theorem d1_1 : decode method_2_code 1 = .ok (.bipush 12, 2) := by decide +kernel
theorem d1_3 : decode method_2_code 3 = .ok (.if_icmp .ge 10, 3) := by decide +kernel
theorem d1_6 : decode method_2_code 6 = .ok (.bipush 33, 2) := by decide +kernel
theorem d1_8 : decode method_2_code 8 = .ok (.iload_n 0, 1) := by decide +kernel
theorem d1_9 : decode method_2_code 9 = .ok (.iadd, 1) := by decide +kernel
theorem d1_10 : decode method_2_code 10 = .ok (.goto 7, 3) := by decide +kernel
theorem d1_13 : decode method_2_code 13 = .ok (.bipush 34, 2) := by decide +kernel
theorem d1_15 : decode method_2_code 15 = .ok (.iload_n 0, 1) := by decide +kernel
theorem d1_16 : decode method_2_code 16 = .ok (.iadd, 1) := by decide +kernel
theorem d1_17 : decode method_2_code 17 = .ok (.i2c, 1) := by decide +kernel
theorem d1_18 : decode method_2_code 18 = .ok (.ireturn, 1) := by decide +kernel
set_option maxRecDepth 65536 in
set_option maxHeartbeats 40000000 in
theorem rmPick {l : Launch} {Z : State} {a0 : Array Value} (hw : Hw a0 Z) {ws : List Jvm.Cond} (pp : Int32) {h0 : Heap} {n0 : Nat} (Z0 : n0 ≤ h0.size) : MF l Z own_y_578 method_2_code 1 (some .char) ws (⟨0, 0, 0, 0⟩ : Room) #[(.int pp)] h0 (QI (own_pk pp) h0 n0) := by
  refine own_en (plainFor_of_name pn_580) (fun m => ef_579 m pp) fun p e s m below meth c s₁ bs hx hby hml hZ hown hnm X0 e0 hlk hrt pre0 => ?_
  have N0 := Fr.nil n0
  have pre2271 : PQ p e below s₁ (mkF m 3 #[.val (.int pp)] [(.int (12 : Int32)), (.int pp)]) bs := fun t kt => pre0 t (by
    refine XS.iloadN X0.here hx rfl (hb hby d1_0) rfl ?_
    refine XS.bipush X0.here hx rfl (hb hby d1_1) ?_
    exact kt)
  obtain ⟨vv, hvv⟩ : ∃ z : Int32, z = (if pp < (12 : Int32) then ((33 : Int32) + pp) else ((34 : Int32) + pp)) := ⟨_, rfl⟩
  have pre2273 : PQ p e below s₁ (mkF m 17 #[.val (.int pp)] [(.int vv)]) bs := fun t kt => pre2271 t (by
    by_cases hc2272 : pp < (12 : Int32)
    case pos =>
      refine XS.icmpNo X0.here hx rfl (hb hby d1_3) rfl (tlt hc2272).2.1 ?_
      refine XS.bipush X0.here hx rfl (hb hby d1_6) ?_
      refine XS.iloadN X0.here hx rfl (hb hby d1_8) rfl ?_
      refine XS.iadd X0.here hx rfl (hb hby d1_9) rfl ?_
      refine XS.goto X0.here hx rfl (pc0 := 10) (pc' := 17) rfl (hb hby d1_10) (by decide) (by decide) ?_
      rw [show vv = ((33 : Int32) + pp) from (hvv.trans (if_pos hc2272))] at kt
      exact kt
    case neg =>
      refine XS.icmpYes X0.here hx rfl (pc0 := 3) (pc' := 13) rfl (hb hby d1_3) rfl (flt hc2272).2.1 (by decide) (by decide) ?_
      refine XS.bipush X0.here hx rfl (hb hby d1_13) ?_
      refine XS.iloadN X0.here hx rfl (hb hby d1_15) rfl ?_
      refine XS.iadd X0.here hx rfl (hb hby d1_16) rfl ?_
      rw [show vv = ((34 : Int32) + pp) from (hvv.trans (if_neg hc2272))] at kt
      exact kt)
  have pre2274 : PQ p e below s₁ (mkF m 18 #[.val (.int pp)] [(.int (vv.toUInt32.toUInt16.toUInt32.toInt32))]) bs := fun t kt => pre2273 t (by
    refine XS.i2c X0.here hx rfl (hb hby d1_17) rfl ?_
    exact kt)
  exact own_retN X0 hx hlk (t := .char) hrt (by simp) (hb hby d1_18) pre2274 (show QI (own_pk pp) h0 n0 _ _ _ from ⟨by rw [hvv]; rfl, N0, e0⟩) (by decide) (by decide)
theorem own_lt128 {c : Int32} (h : Pr c) : c < (128 : Int32) := by
  have h1 := h.2.2.2.2.2.1
  rw [Int32.lt_iff_toInt_lt] at h1 ⊢
  have e1 : (126 : Int32).toInt = 126 := by decide
  have e2 : (128 : Int32).toInt = 128 := by decide
  omega
theorem own_fin0 (c0 c1 c2 q ex : Int32) (hex : ex = (if q = c0 then (0 : Int32) else (if q = c1 then (1 : Int32) else (if q = c2 then (2 : Int32) else (-1 : Int32))))) (hpc0 : Pr c0) (hpc1 : Pr c1) (hpc2 : Pr c2) (hx01 : ¬ c1 = c0) (hx02 : ¬ c2 = c0) (hx12 : ¬ c2 = c1) : (if q < (128 : Int32) then (own_sy c0 c1 c2) q else (-1 : Int32)) = ex := by
  rw [hex]
  by_cases h128 : q < (128 : Int32)
  · rw [if_pos h128]
    simp only [own_sy, own_st, own_al]
    by_cases b0 : q = c0 <;> by_cases b1 : q = c1 <;> by_cases b2 : q = c2 <;> simp_all
  · rw [if_neg h128]
    have n0 : ¬ q = c0 := fun z => h128 (by rw [z]; exact own_lt128 hpc0)
    have n1 : ¬ q = c1 := fun z => h128 (by rw [z]; exact own_lt128 hpc1)
    have n2 : ¬ q = c2 := fun z => h128 (by rw [z]; exact own_lt128 hpc2)
    simp [n0, n1, n2]
theorem own_fin1 (c0 c1 c2 u0 q ex : Int32) (hex : ex = (if q = c0 then (0 : Int32) else (if q = c1 then (1 : Int32) else (if q = c2 then (2 : Int32) else (if q = u0 then (0 : Int32) else (-1 : Int32)))))) (hpc0 : Pr c0) (hpc1 : Pr c1) (hpc2 : Pr c2) (hpu0 : Pr u0) (hx01 : ¬ c1 = c0) (hx02 : ¬ c2 = c0) (hx12 : ¬ c2 = c1) (hm01 : ¬ u0 = c1) (hm02 : ¬ u0 = c2) : (if q < (128 : Int32) then (own_al (own_sy c0 c1 c2) u0 c0 (0 : Int32)) q else (-1 : Int32)) = ex := by
  rw [hex]
  by_cases h128 : q < (128 : Int32)
  · rw [if_pos h128]
    simp only [own_sy, own_st, own_al]
    by_cases b0 : q = c0 <;> by_cases b1 : q = c1 <;> by_cases b2 : q = c2 <;> by_cases b3 : q = u0 <;> by_cases g0 : u0 = c0 <;> simp_all
  · rw [if_neg h128]
    have n0 : ¬ q = c0 := fun z => h128 (by rw [z]; exact own_lt128 hpc0)
    have n1 : ¬ q = c1 := fun z => h128 (by rw [z]; exact own_lt128 hpc1)
    have n2 : ¬ q = c2 := fun z => h128 (by rw [z]; exact own_lt128 hpc2)
    have n3 : ¬ q = u0 := fun z => h128 (by rw [z]; exact own_lt128 hpu0)
    simp [n0, n1, n2, n3]
theorem own_fin2 (c0 c1 c2 u0 u1 q ex : Int32) (hex : ex = (if q = c0 then (0 : Int32) else (if q = c1 then (1 : Int32) else (if q = c2 then (2 : Int32) else (if q = u0 then (0 : Int32) else (if q = u1 then (1 : Int32) else (-1 : Int32))))))) (hpc0 : Pr c0) (hpc1 : Pr c1) (hpc2 : Pr c2) (hpu0 : Pr u0) (hpu1 : Pr u1) (hx01 : ¬ c1 = c0) (hx02 : ¬ c2 = c0) (hx12 : ¬ c2 = c1) (hu01 : ¬ u1 = u0) (hm01 : ¬ u0 = c1) (hm02 : ¬ u0 = c2) (hm10 : ¬ u1 = c0) (hm12 : ¬ u1 = c2) : (if q < (128 : Int32) then (own_al (own_al (own_sy c0 c1 c2) u0 c0 (0 : Int32)) u1 c1 (1 : Int32)) q else (-1 : Int32)) = ex := by
  rw [hex]
  by_cases h128 : q < (128 : Int32)
  · rw [if_pos h128]
    simp only [own_sy, own_st, own_al]
    by_cases b0 : q = c0 <;> by_cases b1 : q = c1 <;> by_cases b2 : q = c2 <;> by_cases b3 : q = u0 <;> by_cases b4 : q = u1 <;> by_cases g0 : u0 = c0 <;> by_cases g1 : u1 = c1 <;> simp_all
  · rw [if_neg h128]
    have n0 : ¬ q = c0 := fun z => h128 (by rw [z]; exact own_lt128 hpc0)
    have n1 : ¬ q = c1 := fun z => h128 (by rw [z]; exact own_lt128 hpc1)
    have n2 : ¬ q = c2 := fun z => h128 (by rw [z]; exact own_lt128 hpc2)
    have n3 : ¬ q = u0 := fun z => h128 (by rw [z]; exact own_lt128 hpu0)
    have n4 : ¬ q = u1 := fun z => h128 (by rw [z]; exact own_lt128 hpu1)
    simp [n0, n1, n2, n3, n4]
theorem own_fin3 (c0 c1 c2 u0 u1 u2 q ex : Int32) (hex : ex = (if q = c0 then (0 : Int32) else (if q = c1 then (1 : Int32) else (if q = c2 then (2 : Int32) else (if q = u0 then (0 : Int32) else (if q = u1 then (1 : Int32) else (if q = u2 then (2 : Int32) else (-1 : Int32)))))))) (hpc0 : Pr c0) (hpc1 : Pr c1) (hpc2 : Pr c2) (hpu0 : Pr u0) (hpu1 : Pr u1) (hpu2 : Pr u2) (hx01 : ¬ c1 = c0) (hx02 : ¬ c2 = c0) (hx12 : ¬ c2 = c1) (hu01 : ¬ u1 = u0) (hu02 : ¬ u2 = u0) (hu12 : ¬ u2 = u1) (hm01 : ¬ u0 = c1) (hm02 : ¬ u0 = c2) (hm10 : ¬ u1 = c0) (hm12 : ¬ u1 = c2) (hm20 : ¬ u2 = c0) (hm21 : ¬ u2 = c1) : (if q < (128 : Int32) then (own_al (own_al (own_al (own_sy c0 c1 c2) u0 c0 (0 : Int32)) u1 c1 (1 : Int32)) u2 c2 (2 : Int32)) q else (-1 : Int32)) = ex := by
  rw [hex]
  by_cases h128 : q < (128 : Int32)
  · rw [if_pos h128]
    simp only [own_sy, own_st, own_al]
    by_cases b0 : q = c0 <;> by_cases b1 : q = c1 <;> by_cases b2 : q = c2 <;> by_cases b3 : q = u0 <;> by_cases b4 : q = u1 <;> by_cases b5 : q = u2 <;> by_cases g0 : u0 = c0 <;> by_cases g1 : u1 = c1 <;> by_cases g2 : u2 = c2 <;> simp_all
  · rw [if_neg h128]
    have n0 : ¬ q = c0 := fun z => h128 (by rw [z]; exact own_lt128 hpc0)
    have n1 : ¬ q = c1 := fun z => h128 (by rw [z]; exact own_lt128 hpc1)
    have n2 : ¬ q = c2 := fun z => h128 (by rw [z]; exact own_lt128 hpc2)
    have n3 : ¬ q = u0 := fun z => h128 (by rw [z]; exact own_lt128 hpu0)
    have n4 : ¬ q = u1 := fun z => h128 (by rw [z]; exact own_lt128 hpu1)
    have n5 : ¬ q = u2 := fun z => h128 (by rw [z]; exact own_lt128 hpu2)
    simp [n0, n1, n2, n3, n4, n5]
theorem ef_593 (m : MethodId) (x0 : Int32) (x1 : Int32) (x2 : Int32) (x3 : Int32) : entryFrame m #[(.int x0), (.int x1), (.int x2), (.int x3)] maxLocals = mkF m 0 #[.val (.int x0), .val (.int x1), .val (.int x2), .val (.int x3), .unset, .unset, .unset, .unset, .unset, .unset, .unset, .unset, .unset, .unset, .unset, .unset, .unset, .unset, .unset, .unset, .unset] [] := by first | (simp [entryFrame, mkF, argsToLocals, Value.category, maxLocals]; done) | rfl
theorem own_k_594 {Z : State} {a0 : Array Value} (hw : Hw a0 Z) : KS Z a0 "com/example/digitwarden/digitwarden/model/AlphabetValueOfPinLaw" 8 own_y_578 method_2_code 1 (some .char) := ⟨(own_w hw 2 rfl), (own_w hw 3 rfl), (own_w hw 5 rfl), (own_w hw 4 rfl), by decide⟩
theorem own_k_595 {Z : State} {a0 : Array Value} (hw : Hw a0 Z) : KI Z a0 "com/example/digitwarden/digitwarden/model/AlphabetValueOfPinLaw" 16 own_y_164 jdk_42_method_3_code 2 none := ⟨(own_w hw 9 rfl), (own_w hw 10 rfl), (own_w hw 11 rfl), (own_w hw 8 rfl), rfl, rfl, by decide⟩
theorem pd_596 : parseMethodDescriptor "([C)V" = some ⟨[(.array .char)], none⟩ := by decide +kernel
theorem own_k_597 {Z : State} {a0 : Array Value} (hw : Hw a0 Z) : KI Z a0 "com/example/digitwarden/digitwarden/model/AlphabetValueOfPinLaw" 21 own_y_473 prog_8_method_2_code 7 none := ⟨(own_w hw 38 rfl), (own_w hw 39 rfl), (own_w hw 40 rfl), (own_w hw 37 rfl), rfl, rfl, by decide⟩
theorem pd_598 : parseMethodDescriptor "(Ljava/lang/String;Ljava/lang/String;)V" = some ⟨[(.object "java/lang/String"), (.object "java/lang/String")], none⟩ := by decide +kernel
theorem own_k_599 {Z : State} {a0 : Array Value} (hw : Hw a0 Z) : KV Z a0 "com/example/digitwarden/digitwarden/model/AlphabetValueOfPinLaw" "com/example/digitwarden/digitwarden/model/Alphabet" 25 own_y_461 prog_8_method_5_code 2 (some .int) := ⟨(own_w hw 186 rfl), (own_w hw 187 rfl), (own_w hw 189 rfl), (own_w hw 188 rfl), (own_w hw 190 rfl), (own_w hw 37 rfl), by decide⟩
theorem pd_600 : parseMethodDescriptor "(C)I" = some ⟨[.char], some .int⟩ := by decide +kernel
def Q0 (h0 : Heap) (n0 : Nat) (v : Option Value) (h : Heap) (L : List Loc) : Prop := v = some (.int (1 : Int32)) ∧ Fr n0 L
set_option maxRecDepth 65536 in
set_option maxHeartbeats 40000000 in
theorem rm0 (l : Launch) (Z : State) (a0 : Array Value) (hw : ∀ d ∈ tables_1, d.before a0 Z = true) (ws : List Jvm.Cond) (p1 p2 p3 p4 : Int32) (cs : Int32) (fv : Value) (h0 : Heap) (n0 : Nat) (Z0 : n0 ≤ h0.size) (Ev : Ev0 Z n0 h0 cs fv) :
    MetFree l x (head1 (Jvm.Cond.code x code maxLocals ret :: ws) room_1) (fun a U => a = #[(.int p1), (.int p2), (.int p3), (.int p4)] ∧ Z.Warmed39 U.vm ∧ U.heap = h0 ∧ CHv Z EL0 U.vm h0) (fun _ _ _ _ _ => True) (fun _ U o U' => ∃ v L, o = .returned v ∧ Q0 h0 n0 v U'.heap L ∧ ReturnedEndW U o U' L room_1.cells room_1.slots) := by
  refine MetFree.of_bodySF (plainFor_of_name pn_580) hisR ?_
  intro p e s m args below meth c s₁ Bd hml0 hP hK
  obtain ⟨rfl, hZ, hh, hCH⟩ := hP
  have hx := Bd.exec
  have hby := Bd.bytes
  have hml : c.maxLocals = 21 := hml0
  have hown : s.vm.findClass "com/example/digitwarden/digitwarden/model/AlphabetValueOfPinLaw" = some m.cls := findClass_of_methodNamed Bd.named
  have hnm := (name_of_methodNamed Bd.named Bd.method).1
  have X0 : Stand p l e room_1 s m #[(.int p1), (.int p2), (.int p3), (.int p4)] below meth c s₁ [] 0 0 := Stand.of_body Bd
  have e0 : s₁.heap = h0 := by rw [← hh, Bd.state]; rfl
  have N0 := Fr.nil n0
  have pre0 : ∀ t, Steps p.tables e below (s₁.setTop (mkF m 0 (Y31 p1 p2 p3 p4) [])) t → Steps p.tables e below (s₁.setTop (entryFrame m #[(.int p1), (.int p2), (.int p3), (.int p4)] maxLocals)) t := fun t k => castTop (ef_593 m p1 p2 p3 p4) k
  have pre2275 : PQ p e below s₁ (mkF m 7 (Y31 p1 p2 p3 p4) [(.int ((p1 &&& (2147483647 : Int32)) - (p1 &&& (2147483647 : Int32)) / (93 : Int32) * (93 : Int32)))]) (s₁.setTop (entryFrame m #[(.int p1), (.int p2), (.int p3), (.int p4)] maxLocals)) := fun t kt => pre0 t (by
    refine XS.iloadN X0.here hx rfl (hb hby at_0) rfl ?_
    refine X0.ldcInt hx hown (mvT hZ (own_w hw 0 rfl)) (g := (mkF m 1 (Y31 p1 p2 p3 p4) [(.int p1)])) rfl (hb hby at_1) _ ?_
    refine XS.iand X0.here hx rfl (hb hby at_3) rfl ?_
    refine XS.bipush X0.here hx rfl (hb hby at_4) ?_
    refine XS.irem X0.here hx rfl (hb hby at_6) rfl (by decide) ?_
    exact kt)
  obtain ⟨bb, hbb⟩ : ∃ z : Int32, z = ((p1 &&& (2147483647 : Int32)) - (p1 &&& (2147483647 : Int32)) / (93 : Int32) * (93 : Int32)) := ⟨_, rfl⟩
  have pre2276 : PQ p e below s₁ (mkF m 7 (Y31 p1 p2 p3 p4) [(.int bb)]) (s₁.setTop (entryFrame m #[(.int p1), (.int p2), (.int p3), (.int p4)] maxLocals)) := by rw [hbb]; exact pre2275
  have rb : 0 ≤ bb.toInt ∧ bb.toInt < 93 := by rw [hbb]; exact own_bb _
  have pre2277 : PQ p e below s₁ (mkF m 15 (Y32 p1 p2 p3 p4 bb) [(.int ((1 : Int32) + (p2 &&& (15 : Int32))))]) (s₁.setTop (entryFrame m #[(.int p1), (.int p2), (.int p3), (.int p4)] maxLocals)) := fun t kt => pre2276 t (by
    refine XS.istore X0.here hx rfl (hb hby at_7) rfl (l' := (Y32 p1 p2 p3 p4 bb)) rfl ?_
    refine XS.iconst X0.here hx rfl (hb hby at_9) ?_
    refine XS.iloadN X0.here hx rfl (hb hby at_10) rfl ?_
    refine XS.bipush X0.here hx rfl (hb hby at_11) ?_
    refine XS.iand X0.here hx rfl (hb hby at_13) rfl ?_
    refine XS.iadd X0.here hx rfl (hb hby at_14) rfl ?_
    exact kt)
  obtain ⟨o1, ho1⟩ : ∃ z : Int32, z = ((1 : Int32) + (p2 &&& (15 : Int32))) := ⟨_, rfl⟩
  have pre2278 : PQ p e below s₁ (mkF m 15 (Y32 p1 p2 p3 p4 bb) [(.int o1)]) (s₁.setTop (entryFrame m #[(.int p1), (.int p2), (.int p3), (.int p4)] maxLocals)) := by rw [ho1]; exact pre2277
  have ro1 : 1 ≤ o1.toInt ∧ o1.toInt ≤ 16 := by rw [ho1]; exact own_o1 _
  have pre2279 : PQ p e below s₁ (mkF m 28 (Y33 p1 p2 p3 p4 bb o1) [(.int ((o1 + (1 : Int32)) + (((p2.toUInt32 >>> ((4 : Int32) &&& 31).toUInt32).toInt32) &&& (15 : Int32))))]) (s₁.setTop (entryFrame m #[(.int p1), (.int p2), (.int p3), (.int p4)] maxLocals)) := fun t kt => pre2278 t (by
    refine XS.istore X0.here hx rfl (hb hby at_15) rfl (l' := (Y33 p1 p2 p3 p4 bb o1)) rfl ?_
    refine XS.iload X0.here hx rfl (hb hby at_17) rfl ?_
    refine XS.iconst X0.here hx rfl (hb hby at_19) ?_
    refine XS.iadd X0.here hx rfl (hb hby at_20) rfl ?_
    refine XS.iloadN X0.here hx rfl (hb hby at_21) rfl ?_
    refine XS.iconst X0.here hx rfl (hb hby at_22) ?_
    refine XS.iushr X0.here hx rfl (hb hby at_23) rfl ?_
    refine XS.bipush X0.here hx rfl (hb hby at_24) ?_
    refine XS.iand X0.here hx rfl (hb hby at_26) rfl ?_
    refine XS.iadd X0.here hx rfl (hb hby at_27) rfl ?_
    exact kt)
  obtain ⟨o2, ho2⟩ : ∃ z : Int32, z = ((o1 + (1 : Int32)) + (((p2.toUInt32 >>> ((4 : Int32) &&& 31).toUInt32).toInt32) &&& (15 : Int32))) := ⟨_, rfl⟩
  have pre2280 : PQ p e below s₁ (mkF m 28 (Y33 p1 p2 p3 p4 bb o1) [(.int o2)]) (s₁.setTop (entryFrame m #[(.int p1), (.int p2), (.int p3), (.int p4)] maxLocals)) := by rw [ho2]; exact pre2279
  have ro2 : o1.toInt < o2.toInt ∧ o2.toInt ≤ o1.toInt + 16 := by rw [ho2]; exact own_o2 _ (by omega) (by omega)
  have pre2281 : PQ p e below s₁ (mkF m 42 (Y34 p1 p2 p3 p4 bb o1 o2) [(.int ((o2 + (1 : Int32)) + (((p2.toUInt32 >>> ((8 : Int32) &&& 31).toUInt32).toInt32) &&& (15 : Int32))))]) (s₁.setTop (entryFrame m #[(.int p1), (.int p2), (.int p3), (.int p4)] maxLocals)) := fun t kt => pre2280 t (by
    refine XS.istore X0.here hx rfl (hb hby at_28) rfl (l' := (Y34 p1 p2 p3 p4 bb o1 o2)) rfl ?_
    refine XS.iload X0.here hx rfl (hb hby at_30) rfl ?_
    refine XS.iconst X0.here hx rfl (hb hby at_32) ?_
    refine XS.iadd X0.here hx rfl (hb hby at_33) rfl ?_
    refine XS.iloadN X0.here hx rfl (hb hby at_34) rfl ?_
    refine XS.bipush X0.here hx rfl (hb hby at_35) ?_
    refine XS.iushr X0.here hx rfl (hb hby at_37) rfl ?_
    refine XS.bipush X0.here hx rfl (hb hby at_38) ?_
    refine XS.iand X0.here hx rfl (hb hby at_40) rfl ?_
    refine XS.iadd X0.here hx rfl (hb hby at_41) rfl ?_
    exact kt)
  obtain ⟨o3, ho3⟩ : ∃ z : Int32, z = ((o2 + (1 : Int32)) + (((p2.toUInt32 >>> ((8 : Int32) &&& 31).toUInt32).toInt32) &&& (15 : Int32))) := ⟨_, rfl⟩
  have pre2282 : PQ p e below s₁ (mkF m 42 (Y34 p1 p2 p3 p4 bb o1 o2) [(.int o3)]) (s₁.setTop (entryFrame m #[(.int p1), (.int p2), (.int p3), (.int p4)] maxLocals)) := by rw [ho3]; exact pre2281
  have ro3 : o2.toInt < o3.toInt ∧ o3.toInt ≤ o2.toInt + 16 := by rw [ho3]; exact own_o2 _ (by omega) (by omega)
  have pre2283 : PQ p e below s₁ (mkF m 56 (Y35 p1 p2 p3 p4 bb o1 o2 o3) [(.int ((o3 + (1 : Int32)) + (((p2.toUInt32 >>> ((12 : Int32) &&& 31).toUInt32).toInt32) &&& (15 : Int32))))]) (s₁.setTop (entryFrame m #[(.int p1), (.int p2), (.int p3), (.int p4)] maxLocals)) := fun t kt => pre2282 t (by
    refine XS.istore X0.here hx rfl (hb hby at_42) rfl (l' := (Y35 p1 p2 p3 p4 bb o1 o2 o3)) rfl ?_
    refine XS.iload X0.here hx rfl (hb hby at_44) rfl ?_
    refine XS.iconst X0.here hx rfl (hb hby at_46) ?_
    refine XS.iadd X0.here hx rfl (hb hby at_47) rfl ?_
    refine XS.iloadN X0.here hx rfl (hb hby at_48) rfl ?_
    refine XS.bipush X0.here hx rfl (hb hby at_49) ?_
    refine XS.iushr X0.here hx rfl (hb hby at_51) rfl ?_
    refine XS.bipush X0.here hx rfl (hb hby at_52) ?_
    refine XS.iand X0.here hx rfl (hb hby at_54) rfl ?_
    refine XS.iadd X0.here hx rfl (hb hby at_55) rfl ?_
    exact kt)
  obtain ⟨o4, ho4⟩ : ∃ z : Int32, z = ((o3 + (1 : Int32)) + (((p2.toUInt32 >>> ((12 : Int32) &&& 31).toUInt32).toInt32) &&& (15 : Int32))) := ⟨_, rfl⟩
  have pre2284 : PQ p e below s₁ (mkF m 56 (Y35 p1 p2 p3 p4 bb o1 o2 o3) [(.int o4)]) (s₁.setTop (entryFrame m #[(.int p1), (.int p2), (.int p3), (.int p4)] maxLocals)) := by rw [ho4]; exact pre2283
  have ro4 : o3.toInt < o4.toInt ∧ o4.toInt ≤ o3.toInt + 16 := by rw [ho4]; exact own_o2 _ (by omega) (by omega)
  have pre2285 : PQ p e below s₁ (mkF m 70 (Y36 p1 p2 p3 p4 bb o1 o2 o3 o4) [(.int ((o4 + (1 : Int32)) + (((p2.toUInt32 >>> ((16 : Int32) &&& 31).toUInt32).toInt32) &&& (15 : Int32))))]) (s₁.setTop (entryFrame m #[(.int p1), (.int p2), (.int p3), (.int p4)] maxLocals)) := fun t kt => pre2284 t (by
    refine XS.istore X0.here hx rfl (hb hby at_56) rfl (l' := (Y36 p1 p2 p3 p4 bb o1 o2 o3 o4)) rfl ?_
    refine XS.iload X0.here hx rfl (hb hby at_58) rfl ?_
    refine XS.iconst X0.here hx rfl (hb hby at_60) ?_
    refine XS.iadd X0.here hx rfl (hb hby at_61) rfl ?_
    refine XS.iloadN X0.here hx rfl (hb hby at_62) rfl ?_
    refine XS.bipush X0.here hx rfl (hb hby at_63) ?_
    refine XS.iushr X0.here hx rfl (hb hby at_65) rfl ?_
    refine XS.bipush X0.here hx rfl (hb hby at_66) ?_
    refine XS.iand X0.here hx rfl (hb hby at_68) rfl ?_
    refine XS.iadd X0.here hx rfl (hb hby at_69) rfl ?_
    exact kt)
  obtain ⟨o5, ho5⟩ : ∃ z : Int32, z = ((o4 + (1 : Int32)) + (((p2.toUInt32 >>> ((16 : Int32) &&& 31).toUInt32).toInt32) &&& (15 : Int32))) := ⟨_, rfl⟩
  have pre2286 : PQ p e below s₁ (mkF m 70 (Y36 p1 p2 p3 p4 bb o1 o2 o3 o4) [(.int o5)]) (s₁.setTop (entryFrame m #[(.int p1), (.int p2), (.int p3), (.int p4)] maxLocals)) := by rw [ho5]; exact pre2285
  have ro5 : o4.toInt < o5.toInt ∧ o5.toInt ≤ o4.toInt + 16 := by rw [ho5]; exact own_o2 _ (by omega) (by omega)
  obtain ⟨T2287, h2287, k2287, X2287, e2287, E2287, A2287, st2287⟩ := newP X0 hx hZ (own_w hw 1 rfl) e0 (g := (mkF m 74 (Y37 p1 p2 p3 p4 bb o1 o2 o3 o4 o5) [(.int (6 : Int32))])) rfl (hb hby at_74) rfl (by decide) (cap := 6) (by decide) (by decide) (by decide) (by decide)
  obtain ⟨b2287, g2287⟩ : ∃ z, z = h0.size := ⟨_, rfl⟩
  rw [← g2287] at A2287 st2287
  have G2287 : n0 ≤ b2287 := Nat.le_trans Z0 (Nat.le_of_eq g2287.symm)
  have sz2287 : h0.size ≤ b2287 := Nat.le_trans (Keep.refl h0 []).1 (Nat.le_of_eq g2287.symm)
  have c2288 := (Keep.refl h0 []).ext E2287
  have c2289 := Ev.ext E2287
  have z2290 : n0 ≤ h2287.size := Nat.le_trans Z0 E2287.1
  have V2287 : Arv Z h2287 b2287 k2287 .char (6 : Int32) [(.int (0 : Int32)), o0, o0, o0, o0, o0] (.int (0 : Int32)) := (Arv.new A2287 (by decide)).pad (pad_rep [] (.int (0 : Int32)) 6)
  obtain ⟨_, T2291, L2291, X2291, N2291, ⟨_, rfl, -, e2291⟩, st2291⟩ := own_cS X2287 hx hZ hown (own_k_594 hw) (rmPick hw bb z2290 ) (W := 2) (k := 1) (n := 6) (by decide) e2287 N0 (fun _ _ _ h => h.2.1) (Ls := (Y38 p1 p2 p3 p4 bb o1 o2 o3 o4 o5 b2287)) (rest := [(.int (0 : Int32)), (.ref b2287)]) hml.symm (lenOf pd_520 rfl) (Nat.le_of_eq rfl) (hb hby at_83)
  have pre2292 : PQ p e below T2291 (mkF m 86 (Y38 p1 p2 p3 p4 bb o1 o2 o3 o4 o5 b2287) [(.int (own_pk bb)), o0, (.ref b2287)]) (s₁.setTop (entryFrame m #[(.int p1), (.int p2), (.int p3), (.int p4)] maxLocals)) := fun t kt => pre2286 t (by
    refine XS.istore X0.here hx rfl (hb hby at_70) rfl (l' := (Y37 p1 p2 p3 p4 bb o1 o2 o3 o4 o5)) rfl ?_
    refine XS.bipush X0.here hx rfl (hb hby at_72) ?_
    refine st2287 _ ?_
    refine XS.astore X2287.here hx rfl (hb hby at_76) rfl rfl (l' := (Y38 p1 p2 p3 p4 bb o1 o2 o3 o4 o5 b2287)) rfl ?_
    refine XS.aload X2287.here hx rfl (hb hby at_78) rfl rfl ?_
    refine XS.iconst X2287.here hx rfl (hb hby at_80) ?_
    refine XS.iload X2287.here hx rfl (hb hby at_81) rfl ?_
    refine st2291.trans ?_
    exact kt)
  obtain ⟨c0, hc0⟩ : ∃ z : Int32, z = (own_pk bb) := ⟨_, rfl⟩
  have pre2293 : PQ p e below T2291 (mkF m 86 (Y38 p1 p2 p3 p4 bb o1 o2 o3 o4 o5 b2287) [(.int c0), o0, (.ref b2287)]) (s₁.setTop (entryFrame m #[(.int p1), (.int p2), (.int p3), (.int p4)] maxLocals)) := by rw [hc0]; exact pre2292
  have hpc0 : Pr c0 := by rw [hc0]; exact own_pr (by omega) (by omega)
  obtain ⟨cl2294, Ar2294, q2294, S2294, M2294, H2294, J2294⟩ := id V2287
  have hin2294 : ¬ ((0 : Int32) < 0 ∨ cl2294.slots.size ≤ ((0 : Int32)).toNatClampNeg) := inb_of S2294 ⟨by decide, by decide⟩
  obtain ⟨T2295, h2295, X2295, e2295, W2295, st2295⟩ := stC X2291 hx hZ e2291 Ar2294 (j := (0 : Int32)) hin2294 (g := (mkF m 86 (Y38 p1 p2 p3 p4 bb o1 o2 o3 o4 o5 b2287) [(.int c0), o0, (.ref b2287)])) rfl rfl (hb hby at_86)
  have V2295 : Arv Z h2295 b2287 k2287 .char (6 : Int32) [(.int (nar .char c0)), o0, o0, o0, o0, o0] (.int (0 : Int32)) := Arv.set Ar2294 q2294 S2294 M2294 H2294 J2294 (fits_nar_char _) W2295 0 rfl (Nat.le_of_ble_eq_true rfl)
  have N2295 := Fr.snoc X2295 N2291 G2287
  have z2296 : n0 ≤ h2295.size := Nat.le_trans z2290 (Keep.of_wr W2295).1
  have c2297 := c2288.wr W2295 (Or.inr sz2287)
  have c2298 := c2289.wr W2295 G2287
  have pre2300 : PQ p e below T2295 (mkF m 98 (Y38 p1 p2 p3 p4 bb o1 o2 o3 o4 o5 b2287) [(.int ((bb + o1) - (bb + o1) / (93 : Int32) * (93 : Int32))), (.int (1 : Int32)), (.ref b2287)]) (s₁.setTop (entryFrame m #[(.int p1), (.int p2), (.int p3), (.int p4)] maxLocals)) := fun t kt => pre2293 t (by
    refine st2295 _ ?_
    refine XS.aload X2295.here hx rfl (hb hby at_87) rfl rfl ?_
    refine XS.iconst X2295.here hx rfl (hb hby at_89) ?_
    refine XS.iload X2295.here hx rfl (hb hby at_90) rfl ?_
    refine XS.iload X2295.here hx rfl (hb hby at_92) rfl ?_
    refine XS.iadd X2295.here hx rfl (hb hby at_94) rfl ?_
    refine XS.bipush X2295.here hx rfl (hb hby at_95) ?_
    refine XS.irem X2295.here hx rfl (hb hby at_97) rfl (by decide) ?_
    exact kt)
  obtain ⟨j1, hj1⟩ : ∃ z : Int32, z = ((bb + o1) - (bb + o1) / (93 : Int32) * (93 : Int32)) := ⟨_, rfl⟩
  have pre2301 : PQ p e below T2295 (mkF m 98 (Y38 p1 p2 p3 p4 bb o1 o2 o3 o4 o5 b2287) [(.int j1), (.int (1 : Int32)), (.ref b2287)]) (s₁.setTop (entryFrame m #[(.int p1), (.int p2), (.int p3), (.int p4)] maxLocals)) := by rw [hj1]; exact pre2300
  have rj1 : j1.toInt = (bb.toInt + o1.toInt) % 93 := by rw [hj1]; exact own_jj rb.1 rb.2 (by omega) (by omega)
  obtain ⟨_, T2302, L2302, X2302, N2302, ⟨_, rfl, -, e2302⟩, st2302⟩ := own_cS X2295 hx hZ hown (own_k_594 hw) (rmPick hw j1 z2296 ) (W := 2) (k := 1) (n := 6) (by decide) e2295 N2295 (fun _ _ _ h => h.2.1) (Ls := (Y38 p1 p2 p3 p4 bb o1 o2 o3 o4 o5 b2287)) (rest := [(.int (1 : Int32)), (.ref b2287)]) hml.symm (lenOf pd_520 rfl) (Nat.le_of_eq rfl) (hb hby at_98)
  have pre2303 : PQ p e below T2302 (mkF m 101 (Y38 p1 p2 p3 p4 bb o1 o2 o3 o4 o5 b2287) [(.int (own_pk j1)), (.int (1 : Int32)), (.ref b2287)]) (s₁.setTop (entryFrame m #[(.int p1), (.int p2), (.int p3), (.int p4)] maxLocals)) := fun t kt => pre2301 t (by
    refine st2302.trans ?_
    exact kt)
  obtain ⟨c1, hc1⟩ : ∃ z : Int32, z = (own_pk j1) := ⟨_, rfl⟩
  have pre2304 : PQ p e below T2302 (mkF m 101 (Y38 p1 p2 p3 p4 bb o1 o2 o3 o4 o5 b2287) [(.int c1), (.int (1 : Int32)), (.ref b2287)]) (s₁.setTop (entryFrame m #[(.int p1), (.int p2), (.int p3), (.int p4)] maxLocals)) := by rw [hc1]; exact pre2303
  have hpc1 : Pr c1 := by rw [hc1]; exact own_pr (by omega) (by omega)
  obtain ⟨cl2305, Ar2305, q2305, S2305, M2305, H2305, J2305⟩ := id V2295
  have hin2305 : ¬ ((1 : Int32) < 0 ∨ cl2305.slots.size ≤ ((1 : Int32)).toNatClampNeg) := inb_of S2305 ⟨by decide, by decide⟩
  obtain ⟨T2306, h2306, X2306, e2306, W2306, st2306⟩ := stC X2302 hx hZ e2302 Ar2305 (j := (1 : Int32)) hin2305 (g := (mkF m 101 (Y38 p1 p2 p3 p4 bb o1 o2 o3 o4 o5 b2287) [(.int c1), (.int (1 : Int32)), (.ref b2287)])) rfl rfl (hb hby at_101)
  have V2306 : Arv Z h2306 b2287 k2287 .char (6 : Int32) [(.int (nar .char c0)), (.int (nar .char c1)), o0, o0, o0, o0] (.int (0 : Int32)) := Arv.set Ar2305 q2305 S2305 M2305 H2305 J2305 (fits_nar_char _) W2306 1 rfl (Nat.le_of_ble_eq_true rfl)
  have N2306 := Fr.snoc X2306 N2302 G2287
  have z2307 : n0 ≤ h2306.size := Nat.le_trans z2296 (Keep.of_wr W2306).1
  have c2308 := c2297.wr W2306 (Or.inr sz2287)
  have c2309 := c2298.wr W2306 G2287
  have pre2311 : PQ p e below T2306 (mkF m 113 (Y38 p1 p2 p3 p4 bb o1 o2 o3 o4 o5 b2287) [(.int ((bb + o2) - (bb + o2) / (93 : Int32) * (93 : Int32))), (.int (2 : Int32)), (.ref b2287)]) (s₁.setTop (entryFrame m #[(.int p1), (.int p2), (.int p3), (.int p4)] maxLocals)) := fun t kt => pre2304 t (by
    refine st2306 _ ?_
    refine XS.aload X2306.here hx rfl (hb hby at_102) rfl rfl ?_
    refine XS.iconst X2306.here hx rfl (hb hby at_104) ?_
    refine XS.iload X2306.here hx rfl (hb hby at_105) rfl ?_
    refine XS.iload X2306.here hx rfl (hb hby at_107) rfl ?_
    refine XS.iadd X2306.here hx rfl (hb hby at_109) rfl ?_
    refine XS.bipush X2306.here hx rfl (hb hby at_110) ?_
    refine XS.irem X2306.here hx rfl (hb hby at_112) rfl (by decide) ?_
    exact kt)
  obtain ⟨j2, hj2⟩ : ∃ z : Int32, z = ((bb + o2) - (bb + o2) / (93 : Int32) * (93 : Int32)) := ⟨_, rfl⟩
  have pre2312 : PQ p e below T2306 (mkF m 113 (Y38 p1 p2 p3 p4 bb o1 o2 o3 o4 o5 b2287) [(.int j2), (.int (2 : Int32)), (.ref b2287)]) (s₁.setTop (entryFrame m #[(.int p1), (.int p2), (.int p3), (.int p4)] maxLocals)) := by rw [hj2]; exact pre2311
  have rj2 : j2.toInt = (bb.toInt + o2.toInt) % 93 := by rw [hj2]; exact own_jj rb.1 rb.2 (by omega) (by omega)
  obtain ⟨_, T2313, L2313, X2313, N2313, ⟨_, rfl, -, e2313⟩, st2313⟩ := own_cS X2306 hx hZ hown (own_k_594 hw) (rmPick hw j2 z2307 ) (W := 2) (k := 1) (n := 6) (by decide) e2306 N2306 (fun _ _ _ h => h.2.1) (Ls := (Y38 p1 p2 p3 p4 bb o1 o2 o3 o4 o5 b2287)) (rest := [(.int (2 : Int32)), (.ref b2287)]) hml.symm (lenOf pd_520 rfl) (Nat.le_of_eq rfl) (hb hby at_113)
  have pre2314 : PQ p e below T2313 (mkF m 116 (Y38 p1 p2 p3 p4 bb o1 o2 o3 o4 o5 b2287) [(.int (own_pk j2)), (.int (2 : Int32)), (.ref b2287)]) (s₁.setTop (entryFrame m #[(.int p1), (.int p2), (.int p3), (.int p4)] maxLocals)) := fun t kt => pre2312 t (by
    refine st2313.trans ?_
    exact kt)
  obtain ⟨c2, hc2⟩ : ∃ z : Int32, z = (own_pk j2) := ⟨_, rfl⟩
  have pre2315 : PQ p e below T2313 (mkF m 116 (Y38 p1 p2 p3 p4 bb o1 o2 o3 o4 o5 b2287) [(.int c2), (.int (2 : Int32)), (.ref b2287)]) (s₁.setTop (entryFrame m #[(.int p1), (.int p2), (.int p3), (.int p4)] maxLocals)) := by rw [hc2]; exact pre2314
  have hpc2 : Pr c2 := by rw [hc2]; exact own_pr (by omega) (by omega)
  obtain ⟨cl2316, Ar2316, q2316, S2316, M2316, H2316, J2316⟩ := id V2306
  have hin2316 : ¬ ((2 : Int32) < 0 ∨ cl2316.slots.size ≤ ((2 : Int32)).toNatClampNeg) := inb_of S2316 ⟨by decide, by decide⟩
  obtain ⟨T2317, h2317, X2317, e2317, W2317, st2317⟩ := stC X2313 hx hZ e2313 Ar2316 (j := (2 : Int32)) hin2316 (g := (mkF m 116 (Y38 p1 p2 p3 p4 bb o1 o2 o3 o4 o5 b2287) [(.int c2), (.int (2 : Int32)), (.ref b2287)])) rfl rfl (hb hby at_116)
  have V2317 : Arv Z h2317 b2287 k2287 .char (6 : Int32) [(.int (nar .char c0)), (.int (nar .char c1)), (.int (nar .char c2)), o0, o0, o0] (.int (0 : Int32)) := Arv.set Ar2316 q2316 S2316 M2316 H2316 J2316 (fits_nar_char _) W2317 2 rfl (Nat.le_of_ble_eq_true rfl)
  have N2317 := Fr.snoc X2317 N2313 G2287
  have z2318 : n0 ≤ h2317.size := Nat.le_trans z2307 (Keep.of_wr W2317).1
  have c2319 := c2308.wr W2317 (Or.inr sz2287)
  have c2320 := c2309.wr W2317 G2287
  have pre2322 : PQ p e below T2317 (mkF m 128 (Y38 p1 p2 p3 p4 bb o1 o2 o3 o4 o5 b2287) [(.int ((bb + o3) - (bb + o3) / (93 : Int32) * (93 : Int32))), (.int (3 : Int32)), (.ref b2287)]) (s₁.setTop (entryFrame m #[(.int p1), (.int p2), (.int p3), (.int p4)] maxLocals)) := fun t kt => pre2315 t (by
    refine st2317 _ ?_
    refine XS.aload X2317.here hx rfl (hb hby at_117) rfl rfl ?_
    refine XS.iconst X2317.here hx rfl (hb hby at_119) ?_
    refine XS.iload X2317.here hx rfl (hb hby at_120) rfl ?_
    refine XS.iload X2317.here hx rfl (hb hby at_122) rfl ?_
    refine XS.iadd X2317.here hx rfl (hb hby at_124) rfl ?_
    refine XS.bipush X2317.here hx rfl (hb hby at_125) ?_
    refine XS.irem X2317.here hx rfl (hb hby at_127) rfl (by decide) ?_
    exact kt)
  obtain ⟨j3, hj3⟩ : ∃ z : Int32, z = ((bb + o3) - (bb + o3) / (93 : Int32) * (93 : Int32)) := ⟨_, rfl⟩
  have pre2323 : PQ p e below T2317 (mkF m 128 (Y38 p1 p2 p3 p4 bb o1 o2 o3 o4 o5 b2287) [(.int j3), (.int (3 : Int32)), (.ref b2287)]) (s₁.setTop (entryFrame m #[(.int p1), (.int p2), (.int p3), (.int p4)] maxLocals)) := by rw [hj3]; exact pre2322
  have rj3 : j3.toInt = (bb.toInt + o3.toInt) % 93 := by rw [hj3]; exact own_jj rb.1 rb.2 (by omega) (by omega)
  obtain ⟨_, T2324, L2324, X2324, N2324, ⟨_, rfl, -, e2324⟩, st2324⟩ := own_cS X2317 hx hZ hown (own_k_594 hw) (rmPick hw j3 z2318 ) (W := 2) (k := 1) (n := 6) (by decide) e2317 N2317 (fun _ _ _ h => h.2.1) (Ls := (Y38 p1 p2 p3 p4 bb o1 o2 o3 o4 o5 b2287)) (rest := [(.int (3 : Int32)), (.ref b2287)]) hml.symm (lenOf pd_520 rfl) (Nat.le_of_eq rfl) (hb hby at_128)
  have pre2325 : PQ p e below T2324 (mkF m 131 (Y38 p1 p2 p3 p4 bb o1 o2 o3 o4 o5 b2287) [(.int (own_pk j3)), (.int (3 : Int32)), (.ref b2287)]) (s₁.setTop (entryFrame m #[(.int p1), (.int p2), (.int p3), (.int p4)] maxLocals)) := fun t kt => pre2323 t (by
    refine st2324.trans ?_
    exact kt)
  obtain ⟨c3, hc3⟩ : ∃ z : Int32, z = (own_pk j3) := ⟨_, rfl⟩
  have pre2326 : PQ p e below T2324 (mkF m 131 (Y38 p1 p2 p3 p4 bb o1 o2 o3 o4 o5 b2287) [(.int c3), (.int (3 : Int32)), (.ref b2287)]) (s₁.setTop (entryFrame m #[(.int p1), (.int p2), (.int p3), (.int p4)] maxLocals)) := by rw [hc3]; exact pre2325
  have hpc3 : Pr c3 := by rw [hc3]; exact own_pr (by omega) (by omega)
  obtain ⟨cl2327, Ar2327, q2327, S2327, M2327, H2327, J2327⟩ := id V2317
  have hin2327 : ¬ ((3 : Int32) < 0 ∨ cl2327.slots.size ≤ ((3 : Int32)).toNatClampNeg) := inb_of S2327 ⟨by decide, by decide⟩
  obtain ⟨T2328, h2328, X2328, e2328, W2328, st2328⟩ := stC X2324 hx hZ e2324 Ar2327 (j := (3 : Int32)) hin2327 (g := (mkF m 131 (Y38 p1 p2 p3 p4 bb o1 o2 o3 o4 o5 b2287) [(.int c3), (.int (3 : Int32)), (.ref b2287)])) rfl rfl (hb hby at_131)
  have V2328 : Arv Z h2328 b2287 k2287 .char (6 : Int32) [(.int (nar .char c0)), (.int (nar .char c1)), (.int (nar .char c2)), (.int (nar .char c3)), o0, o0] (.int (0 : Int32)) := Arv.set Ar2327 q2327 S2327 M2327 H2327 J2327 (fits_nar_char _) W2328 3 rfl (Nat.le_of_ble_eq_true rfl)
  have N2328 := Fr.snoc X2328 N2324 G2287
  have z2329 : n0 ≤ h2328.size := Nat.le_trans z2318 (Keep.of_wr W2328).1
  have c2330 := c2319.wr W2328 (Or.inr sz2287)
  have c2331 := c2320.wr W2328 G2287
  have pre2333 : PQ p e below T2328 (mkF m 143 (Y38 p1 p2 p3 p4 bb o1 o2 o3 o4 o5 b2287) [(.int ((bb + o4) - (bb + o4) / (93 : Int32) * (93 : Int32))), (.int (4 : Int32)), (.ref b2287)]) (s₁.setTop (entryFrame m #[(.int p1), (.int p2), (.int p3), (.int p4)] maxLocals)) := fun t kt => pre2326 t (by
    refine st2328 _ ?_
    refine XS.aload X2328.here hx rfl (hb hby at_132) rfl rfl ?_
    refine XS.iconst X2328.here hx rfl (hb hby at_134) ?_
    refine XS.iload X2328.here hx rfl (hb hby at_135) rfl ?_
    refine XS.iload X2328.here hx rfl (hb hby at_137) rfl ?_
    refine XS.iadd X2328.here hx rfl (hb hby at_139) rfl ?_
    refine XS.bipush X2328.here hx rfl (hb hby at_140) ?_
    refine XS.irem X2328.here hx rfl (hb hby at_142) rfl (by decide) ?_
    exact kt)
  obtain ⟨j4, hj4⟩ : ∃ z : Int32, z = ((bb + o4) - (bb + o4) / (93 : Int32) * (93 : Int32)) := ⟨_, rfl⟩
  have pre2334 : PQ p e below T2328 (mkF m 143 (Y38 p1 p2 p3 p4 bb o1 o2 o3 o4 o5 b2287) [(.int j4), (.int (4 : Int32)), (.ref b2287)]) (s₁.setTop (entryFrame m #[(.int p1), (.int p2), (.int p3), (.int p4)] maxLocals)) := by rw [hj4]; exact pre2333
  have rj4 : j4.toInt = (bb.toInt + o4.toInt) % 93 := by rw [hj4]; exact own_jj rb.1 rb.2 (by omega) (by omega)
  obtain ⟨_, T2335, L2335, X2335, N2335, ⟨_, rfl, -, e2335⟩, st2335⟩ := own_cS X2328 hx hZ hown (own_k_594 hw) (rmPick hw j4 z2329 ) (W := 2) (k := 1) (n := 6) (by decide) e2328 N2328 (fun _ _ _ h => h.2.1) (Ls := (Y38 p1 p2 p3 p4 bb o1 o2 o3 o4 o5 b2287)) (rest := [(.int (4 : Int32)), (.ref b2287)]) hml.symm (lenOf pd_520 rfl) (Nat.le_of_eq rfl) (hb hby at_143)
  have pre2336 : PQ p e below T2335 (mkF m 146 (Y38 p1 p2 p3 p4 bb o1 o2 o3 o4 o5 b2287) [(.int (own_pk j4)), (.int (4 : Int32)), (.ref b2287)]) (s₁.setTop (entryFrame m #[(.int p1), (.int p2), (.int p3), (.int p4)] maxLocals)) := fun t kt => pre2334 t (by
    refine st2335.trans ?_
    exact kt)
  obtain ⟨c4, hc4⟩ : ∃ z : Int32, z = (own_pk j4) := ⟨_, rfl⟩
  have pre2337 : PQ p e below T2335 (mkF m 146 (Y38 p1 p2 p3 p4 bb o1 o2 o3 o4 o5 b2287) [(.int c4), (.int (4 : Int32)), (.ref b2287)]) (s₁.setTop (entryFrame m #[(.int p1), (.int p2), (.int p3), (.int p4)] maxLocals)) := by rw [hc4]; exact pre2336
  have hpc4 : Pr c4 := by rw [hc4]; exact own_pr (by omega) (by omega)
  obtain ⟨cl2338, Ar2338, q2338, S2338, M2338, H2338, J2338⟩ := id V2328
  have hin2338 : ¬ ((4 : Int32) < 0 ∨ cl2338.slots.size ≤ ((4 : Int32)).toNatClampNeg) := inb_of S2338 ⟨by decide, by decide⟩
  obtain ⟨T2339, h2339, X2339, e2339, W2339, st2339⟩ := stC X2335 hx hZ e2335 Ar2338 (j := (4 : Int32)) hin2338 (g := (mkF m 146 (Y38 p1 p2 p3 p4 bb o1 o2 o3 o4 o5 b2287) [(.int c4), (.int (4 : Int32)), (.ref b2287)])) rfl rfl (hb hby at_146)
  have V2339 : Arv Z h2339 b2287 k2287 .char (6 : Int32) [(.int (nar .char c0)), (.int (nar .char c1)), (.int (nar .char c2)), (.int (nar .char c3)), (.int (nar .char c4)), o0] (.int (0 : Int32)) := Arv.set Ar2338 q2338 S2338 M2338 H2338 J2338 (fits_nar_char _) W2339 4 rfl (Nat.le_of_ble_eq_true rfl)
  have N2339 := Fr.snoc X2339 N2335 G2287
  have z2340 : n0 ≤ h2339.size := Nat.le_trans z2329 (Keep.of_wr W2339).1
  have c2341 := c2330.wr W2339 (Or.inr sz2287)
  have c2342 := c2331.wr W2339 G2287
  have pre2344 : PQ p e below T2339 (mkF m 158 (Y38 p1 p2 p3 p4 bb o1 o2 o3 o4 o5 b2287) [(.int ((bb + o5) - (bb + o5) / (93 : Int32) * (93 : Int32))), (.int (5 : Int32)), (.ref b2287)]) (s₁.setTop (entryFrame m #[(.int p1), (.int p2), (.int p3), (.int p4)] maxLocals)) := fun t kt => pre2337 t (by
    refine st2339 _ ?_
    refine XS.aload X2339.here hx rfl (hb hby at_147) rfl rfl ?_
    refine XS.iconst X2339.here hx rfl (hb hby at_149) ?_
    refine XS.iload X2339.here hx rfl (hb hby at_150) rfl ?_
    refine XS.iload X2339.here hx rfl (hb hby at_152) rfl ?_
    refine XS.iadd X2339.here hx rfl (hb hby at_154) rfl ?_
    refine XS.bipush X2339.here hx rfl (hb hby at_155) ?_
    refine XS.irem X2339.here hx rfl (hb hby at_157) rfl (by decide) ?_
    exact kt)
  obtain ⟨j5, hj5⟩ : ∃ z : Int32, z = ((bb + o5) - (bb + o5) / (93 : Int32) * (93 : Int32)) := ⟨_, rfl⟩
  have pre2345 : PQ p e below T2339 (mkF m 158 (Y38 p1 p2 p3 p4 bb o1 o2 o3 o4 o5 b2287) [(.int j5), (.int (5 : Int32)), (.ref b2287)]) (s₁.setTop (entryFrame m #[(.int p1), (.int p2), (.int p3), (.int p4)] maxLocals)) := by rw [hj5]; exact pre2344
  have rj5 : j5.toInt = (bb.toInt + o5.toInt) % 93 := by rw [hj5]; exact own_jj rb.1 rb.2 (by omega) (by omega)
  obtain ⟨_, T2346, L2346, X2346, N2346, ⟨_, rfl, -, e2346⟩, st2346⟩ := own_cS X2339 hx hZ hown (own_k_594 hw) (rmPick hw j5 z2340 ) (W := 2) (k := 1) (n := 6) (by decide) e2339 N2339 (fun _ _ _ h => h.2.1) (Ls := (Y38 p1 p2 p3 p4 bb o1 o2 o3 o4 o5 b2287)) (rest := [(.int (5 : Int32)), (.ref b2287)]) hml.symm (lenOf pd_520 rfl) (Nat.le_of_eq rfl) (hb hby at_158)
  have pre2347 : PQ p e below T2346 (mkF m 161 (Y38 p1 p2 p3 p4 bb o1 o2 o3 o4 o5 b2287) [(.int (own_pk j5)), (.int (5 : Int32)), (.ref b2287)]) (s₁.setTop (entryFrame m #[(.int p1), (.int p2), (.int p3), (.int p4)] maxLocals)) := fun t kt => pre2345 t (by
    refine st2346.trans ?_
    exact kt)
  obtain ⟨c5, hc5⟩ : ∃ z : Int32, z = (own_pk j5) := ⟨_, rfl⟩
  have pre2348 : PQ p e below T2346 (mkF m 161 (Y38 p1 p2 p3 p4 bb o1 o2 o3 o4 o5 b2287) [(.int c5), (.int (5 : Int32)), (.ref b2287)]) (s₁.setTop (entryFrame m #[(.int p1), (.int p2), (.int p3), (.int p4)] maxLocals)) := by rw [hc5]; exact pre2347
  have hpc5 : Pr c5 := by rw [hc5]; exact own_pr (by omega) (by omega)
  have d01 : ¬ c0 = c1 := by rw [hc0, hc1]; exact own_pi (by omega) (by omega) (by omega) (by omega) (by omega)
  have d02 : ¬ c0 = c2 := by rw [hc0, hc2]; exact own_pi (by omega) (by omega) (by omega) (by omega) (by omega)
  have d03 : ¬ c0 = c3 := by rw [hc0, hc3]; exact own_pi (by omega) (by omega) (by omega) (by omega) (by omega)
  have d04 : ¬ c0 = c4 := by rw [hc0, hc4]; exact own_pi (by omega) (by omega) (by omega) (by omega) (by omega)
  have d05 : ¬ c0 = c5 := by rw [hc0, hc5]; exact own_pi (by omega) (by omega) (by omega) (by omega) (by omega)
  have d10 : ¬ c1 = c0 := by rw [hc1, hc0]; exact own_pi (by omega) (by omega) (by omega) (by omega) (by omega)
  have d12 : ¬ c1 = c2 := by rw [hc1, hc2]; exact own_pi (by omega) (by omega) (by omega) (by omega) (by omega)
  have d13 : ¬ c1 = c3 := by rw [hc1, hc3]; exact own_pi (by omega) (by omega) (by omega) (by omega) (by omega)
  have d14 : ¬ c1 = c4 := by rw [hc1, hc4]; exact own_pi (by omega) (by omega) (by omega) (by omega) (by omega)
  have d15 : ¬ c1 = c5 := by rw [hc1, hc5]; exact own_pi (by omega) (by omega) (by omega) (by omega) (by omega)
  have d20 : ¬ c2 = c0 := by rw [hc2, hc0]; exact own_pi (by omega) (by omega) (by omega) (by omega) (by omega)
  have d21 : ¬ c2 = c1 := by rw [hc2, hc1]; exact own_pi (by omega) (by omega) (by omega) (by omega) (by omega)
  have d23 : ¬ c2 = c3 := by rw [hc2, hc3]; exact own_pi (by omega) (by omega) (by omega) (by omega) (by omega)
  have d24 : ¬ c2 = c4 := by rw [hc2, hc4]; exact own_pi (by omega) (by omega) (by omega) (by omega) (by omega)
  have d25 : ¬ c2 = c5 := by rw [hc2, hc5]; exact own_pi (by omega) (by omega) (by omega) (by omega) (by omega)
  have d30 : ¬ c3 = c0 := by rw [hc3, hc0]; exact own_pi (by omega) (by omega) (by omega) (by omega) (by omega)
  have d31 : ¬ c3 = c1 := by rw [hc3, hc1]; exact own_pi (by omega) (by omega) (by omega) (by omega) (by omega)
  have d32 : ¬ c3 = c2 := by rw [hc3, hc2]; exact own_pi (by omega) (by omega) (by omega) (by omega) (by omega)
  have d34 : ¬ c3 = c4 := by rw [hc3, hc4]; exact own_pi (by omega) (by omega) (by omega) (by omega) (by omega)
  have d35 : ¬ c3 = c5 := by rw [hc3, hc5]; exact own_pi (by omega) (by omega) (by omega) (by omega) (by omega)
  have d40 : ¬ c4 = c0 := by rw [hc4, hc0]; exact own_pi (by omega) (by omega) (by omega) (by omega) (by omega)
  have d41 : ¬ c4 = c1 := by rw [hc4, hc1]; exact own_pi (by omega) (by omega) (by omega) (by omega) (by omega)
  have d42 : ¬ c4 = c2 := by rw [hc4, hc2]; exact own_pi (by omega) (by omega) (by omega) (by omega) (by omega)
  have d43 : ¬ c4 = c3 := by rw [hc4, hc3]; exact own_pi (by omega) (by omega) (by omega) (by omega) (by omega)
  have d45 : ¬ c4 = c5 := by rw [hc4, hc5]; exact own_pi (by omega) (by omega) (by omega) (by omega) (by omega)
  have d50 : ¬ c5 = c0 := by rw [hc5, hc0]; exact own_pi (by omega) (by omega) (by omega) (by omega) (by omega)
  have d51 : ¬ c5 = c1 := by rw [hc5, hc1]; exact own_pi (by omega) (by omega) (by omega) (by omega) (by omega)
  have d52 : ¬ c5 = c2 := by rw [hc5, hc2]; exact own_pi (by omega) (by omega) (by omega) (by omega) (by omega)
  have d53 : ¬ c5 = c3 := by rw [hc5, hc3]; exact own_pi (by omega) (by omega) (by omega) (by omega) (by omega)
  have d54 : ¬ c5 = c4 := by rw [hc5, hc4]; exact own_pi (by omega) (by omega) (by omega) (by omega) (by omega)
  obtain ⟨cl2349, Ar2349, q2349, S2349, M2349, H2349, J2349⟩ := id V2339
  have hin2349 : ¬ ((5 : Int32) < 0 ∨ cl2349.slots.size ≤ ((5 : Int32)).toNatClampNeg) := inb_of S2349 ⟨by decide, by decide⟩
  obtain ⟨T2350, h2350, X2350, e2350, W2350, st2350⟩ := stC X2346 hx hZ e2346 Ar2349 (j := (5 : Int32)) hin2349 (g := (mkF m 161 (Y38 p1 p2 p3 p4 bb o1 o2 o3 o4 o5 b2287) [(.int c5), (.int (5 : Int32)), (.ref b2287)])) rfl rfl (hb hby at_161)
  have V2350 : Arv Z h2350 b2287 k2287 .char (6 : Int32) [(.int (nar .char c0)), (.int (nar .char c1)), (.int (nar .char c2)), (.int (nar .char c3)), (.int (nar .char c4)), (.int (nar .char c5))] (.int (0 : Int32)) := Arv.set Ar2349 q2349 S2349 M2349 H2349 J2349 (fits_nar_char _) W2350 5 rfl (Nat.le_of_ble_eq_true rfl)
  have N2350 := Fr.snoc X2350 N2346 G2287
  have z2351 : n0 ≤ h2350.size := Nat.le_trans z2340 (Keep.of_wr W2350).1
  have c2352 := c2341.wr W2350 (Or.inr sz2287)
  have c2353 := c2342.wr W2350 G2287
  have V2355 : Arv Z h2350 b2287 k2287 .char (6 : Int32) [(.int c0), (.int c1), (.int c2), (.int c3), (.int c4), (.int c5)] (.int (0 : Int32)) := by
    have q := V2350
    rw [hpc0.2.2.1, hpc1.2.2.1, hpc2.2.2.1, hpc3.2.2.1, hpc4.2.2.1, hpc5.2.2.1] at q
    exact q
  have pre2356 : PQ p e below T2350 (mkF m 165 (Y38 p1 p2 p3 p4 bb o1 o2 o3 o4 o5 b2287) [(.int (p3 &&& (3 : Int32)))]) (s₁.setTop (entryFrame m #[(.int p1), (.int p2), (.int p3), (.int p4)] maxLocals)) := fun t kt => pre2348 t (by
    refine st2350 _ ?_
    refine XS.iloadN X2350.here hx rfl (hb hby at_162) rfl ?_
    refine XS.iconst X2350.here hx rfl (hb hby at_163) ?_
    refine XS.iand X2350.here hx rfl (hb hby at_164) rfl ?_
    exact kt)
  obtain ⟨al, hal⟩ : ∃ z : Int32, z = (p3 &&& (3 : Int32)) := ⟨_, rfl⟩
  have pre2357 : PQ p e below T2350 (mkF m 165 (Y38 p1 p2 p3 p4 bb o1 o2 o3 o4 o5 b2287) [(.int al)]) (s₁.setTop (entryFrame m #[(.int p1), (.int p2), (.int p3), (.int p4)] maxLocals)) := by rw [hal]; exact pre2356
  have hal4 : al = (0 : Int32) ∨ al = (1 : Int32) ∨ al = (2 : Int32) ∨ al = (3 : Int32) := by rw [hal]; exact own_4 _
  obtain ⟨cl2358, A2358, q2358, S2358, M2358, H2358, J2358⟩ := id V2355
  have hat2358_0 : cl2358.slots[((0 : Int32)).toNatClampNeg]? = some (.int c0) := H2358.at (inb_of S2358 ⟨by decide, by decide⟩) rfl
  have hat2358_1 : cl2358.slots[((1 : Int32)).toNatClampNeg]? = some (.int c1) := H2358.at (inb_of S2358 ⟨by decide, by decide⟩) rfl
  have hat2358_2 : cl2358.slots[((2 : Int32)).toNatClampNeg]? = some (.int c2) := H2358.at (inb_of S2358 ⟨by decide, by decide⟩) rfl
  have hat2358_3 : cl2358.slots[((3 : Int32)).toNatClampNeg]? = some (.int c3) := H2358.at (inb_of S2358 ⟨by decide, by decide⟩) rfl
  have hat2358_4 : cl2358.slots[((4 : Int32)).toNatClampNeg]? = some (.int c4) := H2358.at (inb_of S2358 ⟨by decide, by decide⟩) rfl
  have hat2358_5 : cl2358.slots[((5 : Int32)).toNatClampNeg]? = some (.int c5) := H2358.at (inb_of S2358 ⟨by decide, by decide⟩) rfl
  have pre2359 : PQ p e below T2350 (mkF m 170 (Y39 p1 p2 p3 p4 bb o1 o2 o3 o4 o5 b2287 al) [(.int (p3 &&& (4 : Int32)))]) (s₁.setTop (entryFrame m #[(.int p1), (.int p2), (.int p3), (.int p4)] maxLocals)) := fun t kt => pre2357 t (by
    refine XS.istore X2350.here hx rfl (hb hby at_165) rfl (l' := (Y39 p1 p2 p3 p4 bb o1 o2 o3 o4 o5 b2287 al)) rfl ?_
    refine XS.iloadN X2350.here hx rfl (hb hby at_167) rfl ?_
    refine XS.iconst X2350.here hx rfl (hb hby at_168) ?_
    refine XS.iand X2350.here hx rfl (hb hby at_169) rfl ?_
    exact kt)
  obtain ⟨u0, hu0⟩ : ∃ z : Int32, z = (if (p3 &&& (4 : Int32)) = (0 : Int32) then c3 else c0) := ⟨_, rfl⟩
  have pre2361 : PQ p e below T2350 (mkF m 184 (Y39 p1 p2 p3 p4 bb o1 o2 o3 o4 o5 b2287 al) [(.int u0)]) (s₁.setTop (entryFrame m #[(.int p1), (.int p2), (.int p3), (.int p4)] maxLocals)) := fun t kt => pre2359 t (by
    by_cases hc2360 : (p3 &&& (4 : Int32)) = (0 : Int32)
    case pos =>
      refine XS.ifYes X2350.here hx rfl (pc0 := 170) (pc' := 180) rfl (hb hby at_170) rfl ((if0 _ _).trans (teq hc2360).1) (by decide) (by decide) ?_
      refine XS.aload X2350.here hx rfl (hb hby at_180) rfl rfl ?_
      refine XS.iconst X2350.here hx rfl (hb hby at_182) ?_
      refine X2350.caload hx (j := (3 : Int32)) (v := (.int c3)) (by rw [e2350]; exact A2358.1) (State.isArrayOf_alike hZ.alike A2358.2.1) A2358.2.2 (inb_of S2358 ⟨by decide, by decide⟩) hat2358_3 (g := (mkF m 183 (Y39 p1 p2 p3 p4 bb o1 o2 o3 o4 o5 b2287 al) [(.int (3 : Int32)), (.ref b2287)])) rfl rfl (hb hby at_183) _ ?_
      rw [show u0 = c3 from (hu0.trans (if_pos hc2360))] at kt
      exact kt
    case neg =>
      refine XS.ifNo X2350.here hx rfl (hb hby at_170) rfl ((if0 _ _).trans (feq hc2360).1) ?_
      refine XS.aload X2350.here hx rfl (hb hby at_173) rfl rfl ?_
      refine XS.iconst X2350.here hx rfl (hb hby at_175) ?_
      refine X2350.caload hx (j := (0 : Int32)) (v := (.int c0)) (by rw [e2350]; exact A2358.1) (State.isArrayOf_alike hZ.alike A2358.2.1) A2358.2.2 (inb_of S2358 ⟨by decide, by decide⟩) hat2358_0 (g := (mkF m 176 (Y39 p1 p2 p3 p4 bb o1 o2 o3 o4 o5 b2287 al) [(.int (0 : Int32)), (.ref b2287)])) rfl rfl (hb hby at_176) _ ?_
      refine XS.goto X2350.here hx rfl (pc0 := 177) (pc' := 184) rfl (hb hby at_177) (by decide) (by decide) ?_
      rw [show u0 = c0 from (hu0.trans (if_neg hc2360))] at kt
      exact kt)
  have hpu0 : Pr u0 := by rw [hu0]; split <;> assumption
  have pre2362 : PQ p e below T2350 (mkF m 190 (Y40 p1 p2 p3 p4 bb o1 o2 o3 o4 o5 b2287 al u0) [(.int (p3 &&& (8 : Int32)))]) (s₁.setTop (entryFrame m #[(.int p1), (.int p2), (.int p3), (.int p4)] maxLocals)) := fun t kt => pre2361 t (by
    refine XS.istore X2350.here hx rfl (hb hby at_184) rfl (l' := (Y40 p1 p2 p3 p4 bb o1 o2 o3 o4 o5 b2287 al u0)) rfl ?_
    refine XS.iloadN X2350.here hx rfl (hb hby at_186) rfl ?_
    refine XS.bipush X2350.here hx rfl (hb hby at_187) ?_
    refine XS.iand X2350.here hx rfl (hb hby at_189) rfl ?_
    exact kt)
  obtain ⟨u1, hu1⟩ : ∃ z : Int32, z = (if (p3 &&& (8 : Int32)) = (0 : Int32) then c4 else c1) := ⟨_, rfl⟩
  have pre2364 : PQ p e below T2350 (mkF m 204 (Y40 p1 p2 p3 p4 bb o1 o2 o3 o4 o5 b2287 al u0) [(.int u1)]) (s₁.setTop (entryFrame m #[(.int p1), (.int p2), (.int p3), (.int p4)] maxLocals)) := fun t kt => pre2362 t (by
    by_cases hc2363 : (p3 &&& (8 : Int32)) = (0 : Int32)
    case pos =>
      refine XS.ifYes X2350.here hx rfl (pc0 := 190) (pc' := 200) rfl (hb hby at_190) rfl ((if0 _ _).trans (teq hc2363).1) (by decide) (by decide) ?_
      refine XS.aload X2350.here hx rfl (hb hby at_200) rfl rfl ?_
      refine XS.iconst X2350.here hx rfl (hb hby at_202) ?_
      refine X2350.caload hx (j := (4 : Int32)) (v := (.int c4)) (by rw [e2350]; exact A2358.1) (State.isArrayOf_alike hZ.alike A2358.2.1) A2358.2.2 (inb_of S2358 ⟨by decide, by decide⟩) hat2358_4 (g := (mkF m 203 (Y40 p1 p2 p3 p4 bb o1 o2 o3 o4 o5 b2287 al u0) [(.int (4 : Int32)), (.ref b2287)])) rfl rfl (hb hby at_203) _ ?_
      rw [show u1 = c4 from (hu1.trans (if_pos hc2363))] at kt
      exact kt
    case neg =>
      refine XS.ifNo X2350.here hx rfl (hb hby at_190) rfl ((if0 _ _).trans (feq hc2363).1) ?_
      refine XS.aload X2350.here hx rfl (hb hby at_193) rfl rfl ?_
      refine XS.iconst X2350.here hx rfl (hb hby at_195) ?_
      refine X2350.caload hx (j := (1 : Int32)) (v := (.int c1)) (by rw [e2350]; exact A2358.1) (State.isArrayOf_alike hZ.alike A2358.2.1) A2358.2.2 (inb_of S2358 ⟨by decide, by decide⟩) hat2358_1 (g := (mkF m 196 (Y40 p1 p2 p3 p4 bb o1 o2 o3 o4 o5 b2287 al u0) [(.int (1 : Int32)), (.ref b2287)])) rfl rfl (hb hby at_196) _ ?_
      refine XS.goto X2350.here hx rfl (pc0 := 197) (pc' := 204) rfl (hb hby at_197) (by decide) (by decide) ?_
      rw [show u1 = c1 from (hu1.trans (if_neg hc2363))] at kt
      exact kt)
  have hpu1 : Pr u1 := by rw [hu1]; split <;> assumption
  have pre2365 : PQ p e below T2350 (mkF m 210 (Y41 p1 p2 p3 p4 bb o1 o2 o3 o4 o5 b2287 al u0 u1) [(.int (p3 &&& (16 : Int32)))]) (s₁.setTop (entryFrame m #[(.int p1), (.int p2), (.int p3), (.int p4)] maxLocals)) := fun t kt => pre2364 t (by
    refine XS.istore X2350.here hx rfl (hb hby at_204) rfl (l' := (Y41 p1 p2 p3 p4 bb o1 o2 o3 o4 o5 b2287 al u0 u1)) rfl ?_
    refine XS.iloadN X2350.here hx rfl (hb hby at_206) rfl ?_
    refine XS.bipush X2350.here hx rfl (hb hby at_207) ?_
    refine XS.iand X2350.here hx rfl (hb hby at_209) rfl ?_
    exact kt)
  obtain ⟨u2, hu2⟩ : ∃ z : Int32, z = (if (p3 &&& (16 : Int32)) = (0 : Int32) then c5 else c2) := ⟨_, rfl⟩
  have pre2367 : PQ p e below T2350 (mkF m 224 (Y41 p1 p2 p3 p4 bb o1 o2 o3 o4 o5 b2287 al u0 u1) [(.int u2)]) (s₁.setTop (entryFrame m #[(.int p1), (.int p2), (.int p3), (.int p4)] maxLocals)) := fun t kt => pre2365 t (by
    by_cases hc2366 : (p3 &&& (16 : Int32)) = (0 : Int32)
    case pos =>
      refine XS.ifYes X2350.here hx rfl (pc0 := 210) (pc' := 220) rfl (hb hby at_210) rfl ((if0 _ _).trans (teq hc2366).1) (by decide) (by decide) ?_
      refine XS.aload X2350.here hx rfl (hb hby at_220) rfl rfl ?_
      refine XS.iconst X2350.here hx rfl (hb hby at_222) ?_
      refine X2350.caload hx (j := (5 : Int32)) (v := (.int c5)) (by rw [e2350]; exact A2358.1) (State.isArrayOf_alike hZ.alike A2358.2.1) A2358.2.2 (inb_of S2358 ⟨by decide, by decide⟩) hat2358_5 (g := (mkF m 223 (Y41 p1 p2 p3 p4 bb o1 o2 o3 o4 o5 b2287 al u0 u1) [(.int (5 : Int32)), (.ref b2287)])) rfl rfl (hb hby at_223) _ ?_
      rw [show u2 = c5 from (hu2.trans (if_pos hc2366))] at kt
      exact kt
    case neg =>
      refine XS.ifNo X2350.here hx rfl (hb hby at_210) rfl ((if0 _ _).trans (feq hc2366).1) ?_
      refine XS.aload X2350.here hx rfl (hb hby at_213) rfl rfl ?_
      refine XS.iconst X2350.here hx rfl (hb hby at_215) ?_
      refine X2350.caload hx (j := (2 : Int32)) (v := (.int c2)) (by rw [e2350]; exact A2358.1) (State.isArrayOf_alike hZ.alike A2358.2.1) A2358.2.2 (inb_of S2358 ⟨by decide, by decide⟩) hat2358_2 (g := (mkF m 216 (Y41 p1 p2 p3 p4 bb o1 o2 o3 o4 o5 b2287 al u0 u1) [(.int (2 : Int32)), (.ref b2287)])) rfl rfl (hb hby at_216) _ ?_
      refine XS.goto X2350.here hx rfl (pc0 := 217) (pc' := 224) rfl (hb hby at_217) (by decide) (by decide) ?_
      rw [show u2 = c2 from (hu2.trans (if_neg hc2366))] at kt
      exact kt)
  have hpu2 : Pr u2 := by rw [hu2]; split <;> assumption
  have e01 : ¬ u0 = u1 := by rw [hu0, hu1]; split <;> split <;> assumption
  have f01 : ¬ u0 = c1 := by rw [hu0]; split <;> assumption
  have e02 : ¬ u0 = u2 := by rw [hu0, hu2]; split <;> split <;> assumption
  have f02 : ¬ u0 = c2 := by rw [hu0]; split <;> assumption
  have e10 : ¬ u1 = u0 := by rw [hu1, hu0]; split <;> split <;> assumption
  have f10 : ¬ u1 = c0 := by rw [hu1]; split <;> assumption
  have e12 : ¬ u1 = u2 := by rw [hu1, hu2]; split <;> split <;> assumption
  have f12 : ¬ u1 = c2 := by rw [hu1]; split <;> assumption
  have e20 : ¬ u2 = u0 := by rw [hu2, hu0]; split <;> split <;> assumption
  have f20 : ¬ u2 = c0 := by rw [hu2]; split <;> assumption
  have e21 : ¬ u2 = u1 := by rw [hu2, hu1]; split <;> split <;> assumption
  have f21 : ¬ u2 = c1 := by rw [hu2]; split <;> assumption
  obtain ⟨T2368, h2368, X2368, e2368, E2368, A2368, D2368, -, st2368⟩ := newO X2350 hx hZ hown (own_w hw 6 rfl) (own_w hw 7 rfl) (own_w hw 8 rfl) e2350 (g := (mkF m 226 (Y42 p1 p2 p3 p4 bb o1 o2 o3 o4 o5 b2287 al u0 u1 u2) [])) rfl (hb hby at_226) (by decide) (by decide)
  obtain ⟨b2368, g2368⟩ : ∃ z, z = h2350.size := ⟨_, rfl⟩
  rw [← g2368] at A2368 D2368 st2368
  have G2368 : n0 ≤ b2368 := Nat.le_trans z2351 (Nat.le_of_eq g2368.symm)
  have sz2368 : h0.size ≤ b2368 := Nat.le_trans c2352.1 (Nat.le_of_eq g2368.symm)
  have ne2369 : b2287 ≠ b2368 := Nat.ne_of_lt (Nat.lt_of_lt_of_le V2355.lt (Nat.le_of_eq g2368.symm))
  have c2370 := c2352.ext E2368
  have c2371 := c2353.ext E2368
  have c2372 := V2355.ext E2368
  have F2373 : Fa Z h2368 b2368 (.int (0 : Int32)) := D2368 (Or.inr (own_w hw 32 rfl)) (ty := .byte) (by decide)
  have F2374 : Fb Z h2368 b2368 .null := D2368 (Or.inr (own_w hw 34 rfl)) (ty := (.array .byte)) (by decide)
  have z2375 : n0 ≤ h2368.size := Nat.le_trans z2351 E2368.1
  obtain ⟨T2376, h2376, k2376, X2376, e2376, E2376, A2376, st2376⟩ := newP X2368 hx hZ (own_w hw 1 rfl) e2368 (g := (mkF m 231 (Y42 p1 p2 p3 p4 bb o1 o2 o3 o4 o5 b2287 al u0 u1 u2) [(.int (3 : Int32)), (.ref b2368), (.ref b2368)])) rfl (hb hby at_231) rfl (by decide) (cap := 3) (by decide) (by decide) (by decide) (by decide)
  obtain ⟨b2376, g2376⟩ : ∃ z, z = h2368.size := ⟨_, rfl⟩
  rw [← g2376] at A2376 st2376
  have G2376 : n0 ≤ b2376 := Nat.le_trans z2375 (Nat.le_of_eq g2376.symm)
  have sz2376 : h0.size ≤ b2376 := Nat.le_trans c2370.1 (Nat.le_of_eq g2376.symm)
  have ne2377 : b2287 ≠ b2376 := Nat.ne_of_lt (Nat.lt_of_lt_of_le c2372.lt (Nat.le_of_eq g2376.symm))
  have ne2378 : b2368 ≠ b2376 := Nat.ne_of_lt (Nat.lt_of_lt_of_le A2368.lt (Nat.le_of_eq g2376.symm))
  have c2379 := c2370.ext E2376
  have c2380 := c2371.ext E2376
  have c2381 := c2372.ext E2376
  have c2382 := A2368.ext E2376
  have c2383 := F2373.ext E2376
  have c2384 := F2374.ext E2376
  have z2385 : n0 ≤ h2376.size := Nat.le_trans z2375 E2376.1
  have V2376 : Arv Z h2376 b2376 k2376 .char (3 : Int32) [(.int (0 : Int32)), o0, o0] (.int (0 : Int32)) := (Arv.new A2376 (by decide)).pad (pad_rep [] (.int (0 : Int32)) 3)
  obtain ⟨cl2386, A2386, q2386, S2386, M2386, H2386, J2386⟩ := id c2381
  have hin2386 : ¬ ((0 : Int32) < 0 ∨ cl2386.slots.size ≤ ((0 : Int32)).toNatClampNeg) := inb_of S2386 ⟨by decide, by decide⟩
  have hat2386 : cl2386.slots[((0 : Int32)).toNatClampNeg]? = some (.int c0) := H2386.at hin2386 rfl
  obtain ⟨cl2387, Ar2387, q2387, S2387, M2387, H2387, J2387⟩ := id V2376
  have hin2387 : ¬ ((0 : Int32) < 0 ∨ cl2387.slots.size ≤ ((0 : Int32)).toNatClampNeg) := inb_of S2387 ⟨by decide, by decide⟩
  obtain ⟨T2388, h2388, X2388, e2388, W2388, st2388⟩ := stC X2376 hx hZ e2376 Ar2387 (j := (0 : Int32)) hin2387 (g := (mkF m 239 (Y42 p1 p2 p3 p4 bb o1 o2 o3 o4 o5 b2287 al u0 u1 u2) [(.int c0), o0, (.ref b2376), (.ref b2376), (.ref b2368), (.ref b2368)])) rfl rfl (hb hby at_239)
  have V2388 : Arv Z h2388 b2376 k2376 .char (3 : Int32) [(.int (nar .char c0)), o0, o0] (.int (0 : Int32)) := Arv.set Ar2387 q2387 S2387 M2387 H2387 J2387 (fits_nar_char _) W2388 0 rfl (Nat.le_of_ble_eq_true rfl)
  have N2388 := Fr.snoc X2388 N2350 G2376
  have z2389 : n0 ≤ h2388.size := Nat.le_trans z2385 (Keep.of_wr W2388).1
  have c2390 := c2379.wr W2388 (Or.inr sz2376)
  have c2391 := c2380.wr W2388 G2376
  have c2392 := c2381.other W2388 ne2377
  have c2393 := c2382.wr W2388
  have c2394 := c2383.other W2388 (Or.inl ne2378)
  have c2395 := c2384.other W2388 (Or.inl ne2378)
  obtain ⟨cl2397, A2397, q2397, S2397, M2397, H2397, J2397⟩ := id c2392
  have hin2397 : ¬ ((1 : Int32) < 0 ∨ cl2397.slots.size ≤ ((1 : Int32)).toNatClampNeg) := inb_of S2397 ⟨by decide, by decide⟩
  have hat2397 : cl2397.slots[((1 : Int32)).toNatClampNeg]? = some (.int c1) := H2397.at hin2397 rfl
  obtain ⟨cl2398, Ar2398, q2398, S2398, M2398, H2398, J2398⟩ := id V2388
  have hin2398 : ¬ ((1 : Int32) < 0 ∨ cl2398.slots.size ≤ ((1 : Int32)).toNatClampNeg) := inb_of S2398 ⟨by decide, by decide⟩
  obtain ⟨T2399, h2399, X2399, e2399, W2399, st2399⟩ := stC X2388 hx hZ e2388 Ar2398 (j := (1 : Int32)) hin2398 (g := (mkF m 246 (Y42 p1 p2 p3 p4 bb o1 o2 o3 o4 o5 b2287 al u0 u1 u2) [(.int c1), (.int (1 : Int32)), (.ref b2376), (.ref b2376), (.ref b2368), (.ref b2368)])) rfl rfl (hb hby at_246)
  have V2399 : Arv Z h2399 b2376 k2376 .char (3 : Int32) [(.int (nar .char c0)), (.int (nar .char c1)), o0] (.int (0 : Int32)) := Arv.set Ar2398 q2398 S2398 M2398 H2398 J2398 (fits_nar_char _) W2399 1 rfl (Nat.le_of_ble_eq_true rfl)
  have N2399 := Fr.snoc X2399 N2388 G2376
  have z2400 : n0 ≤ h2399.size := Nat.le_trans z2389 (Keep.of_wr W2399).1
  have c2401 := c2390.wr W2399 (Or.inr sz2376)
  have c2402 := c2391.wr W2399 G2376
  have c2403 := c2392.other W2399 ne2377
  have c2404 := c2393.wr W2399
  have c2405 := c2394.other W2399 (Or.inl ne2378)
  have c2406 := c2395.other W2399 (Or.inl ne2378)
  obtain ⟨cl2408, A2408, q2408, S2408, M2408, H2408, J2408⟩ := id c2403
  have hin2408 : ¬ ((2 : Int32) < 0 ∨ cl2408.slots.size ≤ ((2 : Int32)).toNatClampNeg) := inb_of S2408 ⟨by decide, by decide⟩
  have hat2408 : cl2408.slots[((2 : Int32)).toNatClampNeg]? = some (.int c2) := H2408.at hin2408 rfl
  obtain ⟨cl2409, Ar2409, q2409, S2409, M2409, H2409, J2409⟩ := id V2399
  have hin2409 : ¬ ((2 : Int32) < 0 ∨ cl2409.slots.size ≤ ((2 : Int32)).toNatClampNeg) := inb_of S2409 ⟨by decide, by decide⟩
  obtain ⟨T2410, h2410, X2410, e2410, W2410, st2410⟩ := stC X2399 hx hZ e2399 Ar2409 (j := (2 : Int32)) hin2409 (g := (mkF m 253 (Y42 p1 p2 p3 p4 bb o1 o2 o3 o4 o5 b2287 al u0 u1 u2) [(.int c2), (.int (2 : Int32)), (.ref b2376), (.ref b2376), (.ref b2368), (.ref b2368)])) rfl rfl (hb hby at_253)
  have V2410 : Arv Z h2410 b2376 k2376 .char (3 : Int32) [(.int (nar .char c0)), (.int (nar .char c1)), (.int (nar .char c2))] (.int (0 : Int32)) := Arv.set Ar2409 q2409 S2409 M2409 H2409 J2409 (fits_nar_char _) W2410 2 rfl (Nat.le_of_ble_eq_true rfl)
  have N2410 := Fr.snoc X2410 N2399 G2376
  have z2411 : n0 ≤ h2410.size := Nat.le_trans z2400 (Keep.of_wr W2410).1
  have c2412 := c2401.wr W2410 (Or.inr sz2376)
  have c2413 := c2402.wr W2410 G2376
  have c2414 := c2403.other W2410 ne2377
  have c2415 := c2404.wr W2410
  have c2416 := c2405.other W2410 (Or.inl ne2378)
  have c2417 := c2406.other W2410 (Or.inl ne2378)
  have V2419 : Arv Z h2410 b2376 k2376 .char (3 : Int32) [(.int c0), (.int c1), (.int c2)] (.int (0 : Int32)) := by
    have q := V2410
    rw [hpc0.2.2.1, hpc1.2.2.1, hpc2.2.2.1] at q
    exact q
  obtain ⟨_, T2420, L2420, X2420, N2420, ⟨_, r2420, kc2420, rfl, -, K2420, Fc2420, Fv2420, V2420⟩, st2420⟩ := own_cI X2410 hx hZ hown (own_k_595 hw) (rmSi3 hw b2368 b2376 k2376 c0 c1 c2 z2411 c2413 c2415 c2416 c2417 G2368 V2419 hpc0 hpc1 hpc2) (W := 1) (k := 4) (n := 16) (by decide) e2410 N2410 (fun _ _ _ ⟨_, _, _, h, _⟩ => h) (Ls := (Y42 p1 p2 p3 p4 bb o1 o2 o3 o4 o5 b2287 al u0 u1 u2)) (rest := [(.ref b2368)]) hml.symm (lenOf pd_596 rfl) (Nat.le_of_eq rfl) (hb hby at_254)
  have z2421 : n0 ≤ T2420.heap.size := Nat.le_trans z2411 K2420.1
  have c2422 := c2412.trans K2420 (allS (Or.inr sz2368) all0)
  have c2423 := c2413.keep K2420 (allS G2368 all0)
  have c2424 := c2414.keep K2420 (ninS ne2369 nin0)
  have c2425 := c2415.keep K2420
  have pre2429 : PQ p e below T2420 (mkF m 261 (Y43 p1 p2 p3 p4 bb o1 o2 o3 o4 o5 b2287 al u0 u1 u2 b2368) [(.int al)]) (s₁.setTop (entryFrame m #[(.int p1), (.int p2), (.int p3), (.int p4)] maxLocals)) := fun t kt => pre2367 t (by
    refine XS.istore X2350.here hx rfl (hb hby at_224) rfl (l' := (Y42 p1 p2 p3 p4 bb o1 o2 o3 o4 o5 b2287 al u0 u1 u2)) rfl ?_
    refine st2368 _ ?_
    refine XS.dup X2368.here hx rfl (hb hby at_229) rfl rfl ?_
    refine XS.iconst X2368.here hx rfl (hb hby at_230) ?_
    refine st2376 _ ?_
    refine XS.dup X2376.here hx rfl (hb hby at_233) rfl rfl ?_
    refine XS.iconst X2376.here hx rfl (hb hby at_234) ?_
    refine XS.aload X2376.here hx rfl (hb hby at_235) rfl rfl ?_
    refine XS.iconst X2376.here hx rfl (hb hby at_237) ?_
    refine X2376.caload hx (j := (0 : Int32)) (v := (.int c0)) (by rw [e2376]; exact A2386.1) (State.isArrayOf_alike hZ.alike A2386.2.1) A2386.2.2 hin2386 hat2386 (g := (mkF m 238 (Y42 p1 p2 p3 p4 bb o1 o2 o3 o4 o5 b2287 al u0 u1 u2) [(.int (0 : Int32)), (.ref b2287), o0, (.ref b2376), (.ref b2376), (.ref b2368), (.ref b2368)])) rfl rfl (hb hby at_238) _ ?_
    refine st2388 _ ?_
    refine XS.dup X2388.here hx rfl (hb hby at_240) rfl rfl ?_
    refine XS.iconst X2388.here hx rfl (hb hby at_241) ?_
    refine XS.aload X2388.here hx rfl (hb hby at_242) rfl rfl ?_
    refine XS.iconst X2388.here hx rfl (hb hby at_244) ?_
    refine X2388.caload hx (j := (1 : Int32)) (v := (.int c1)) (by rw [e2388]; exact A2397.1) (State.isArrayOf_alike hZ.alike A2397.2.1) A2397.2.2 hin2397 hat2397 (g := (mkF m 245 (Y42 p1 p2 p3 p4 bb o1 o2 o3 o4 o5 b2287 al u0 u1 u2) [(.int (1 : Int32)), (.ref b2287), (.int (1 : Int32)), (.ref b2376), (.ref b2376), (.ref b2368), (.ref b2368)])) rfl rfl (hb hby at_245) _ ?_
    refine st2399 _ ?_
    refine XS.dup X2399.here hx rfl (hb hby at_247) rfl rfl ?_
    refine XS.iconst X2399.here hx rfl (hb hby at_248) ?_
    refine XS.aload X2399.here hx rfl (hb hby at_249) rfl rfl ?_
    refine XS.iconst X2399.here hx rfl (hb hby at_251) ?_
    refine X2399.caload hx (j := (2 : Int32)) (v := (.int c2)) (by rw [e2399]; exact A2408.1) (State.isArrayOf_alike hZ.alike A2408.2.1) A2408.2.2 hin2408 hat2408 (g := (mkF m 252 (Y42 p1 p2 p3 p4 bb o1 o2 o3 o4 o5 b2287 al u0 u1 u2) [(.int (2 : Int32)), (.ref b2287), (.int (2 : Int32)), (.ref b2376), (.ref b2376), (.ref b2368), (.ref b2368)])) rfl rfl (hb hby at_252) _ ?_
    refine st2410 _ ?_
    refine st2420.trans ?_
    refine XS.astore X2420.here hx rfl (hb hby at_257) rfl rfl (l' := (Y43 p1 p2 p3 p4 bb o1 o2 o3 o4 o5 b2287 al u0 u1 u2 b2368)) rfl ?_
    refine XS.iload X2420.here hx rfl (hb hby at_259) rfl ?_
    exact kt)
  by_cases hc2430 : al = (0 : Int32)
  case pos =>
    have hk : al = (0 : Int32) := hc2430
    have CH0 := CHv.keep c2422 (by simp) hCH
    obtain ⟨T2431, h2431, X2431, e2431, E2431, A2431, D2431, -, st2431⟩ := newO X2420 hx hZ hown (own_w hw 6 rfl) (own_w hw 7 rfl) (own_w hw 8 rfl) rfl (g := (mkF m 264 (Y43 p1 p2 p3 p4 bb o1 o2 o3 o4 o5 b2287 al u0 u1 u2 b2368) [])) rfl (hb hby at_264) (by decide) (by decide)
    obtain ⟨b2431, g2431⟩ : ∃ z, z = T2420.heap.size := ⟨_, rfl⟩
    rw [← g2431] at A2431 D2431 st2431
    have G2431 : n0 ≤ b2431 := Nat.le_trans z2421 (Nat.le_of_eq g2431.symm)
    have ne2432 : b2287 ≠ b2431 := Nat.ne_of_lt (Nat.lt_of_lt_of_le c2424.lt (Nat.le_of_eq g2431.symm))
    have ne2433 : b2368 ≠ b2431 := Nat.ne_of_lt (Nat.lt_of_lt_of_le c2425.lt (Nat.le_of_eq g2431.symm))
    have ne2434 : r2420 ≠ b2431 := Nat.ne_of_lt (Nat.lt_of_lt_of_le V2420.lt (Nat.le_of_eq g2431.symm))
    have c2436 := c2423.ext E2431
    have c2437 := c2424.ext E2431
    have c2438 := c2425.ext E2431
    have c2439 := Fc2420.ext E2431
    have c2440 := Fv2420.ext E2431
    have c2441 := V2420.ext E2431
    have F2442 : Fa Z h2431 b2431 (.int (0 : Int32)) := D2431 (Or.inr (own_w hw 32 rfl)) (ty := .byte) (by decide)
    have F2443 : Fb Z h2431 b2431 .null := D2431 (Or.inr (own_w hw 34 rfl)) (ty := (.array .byte)) (by decide)
    have z2444 : n0 ≤ h2431.size := Nat.le_trans z2421 E2431.1
    obtain ⟨T2445, h2445, k2445, X2445, e2445, E2445, A2445, st2445⟩ := newP X2431 hx hZ (own_w hw 1 rfl) e2431 (g := (mkF m 269 (Y43 p1 p2 p3 p4 bb o1 o2 o3 o4 o5 b2287 al u0 u1 u2 b2368) [(.int (0 : Int32)), (.ref b2431), (.ref b2431)])) rfl (hb hby at_269) rfl (by decide) (cap := 0) (by decide) (by decide) (by decide) (by decide)
    obtain ⟨b2445, g2445⟩ : ∃ z, z = h2431.size := ⟨_, rfl⟩
    rw [← g2445] at A2445 st2445
    have c2451 := c2436.ext E2445
    have c2452 := c2437.ext E2445
    have c2453 := c2438.ext E2445
    have c2454 := c2439.ext E2445
    have c2455 := c2440.ext E2445
    have c2456 := c2441.ext E2445
    have c2457 := A2431.ext E2445
    have c2458 := F2442.ext E2445
    have c2459 := F2443.ext E2445
    have z2460 : n0 ≤ h2445.size := Nat.le_trans z2444 E2445.1
    have V2445 : Arv Z h2445 b2445 k2445 .char (0 : Int32) [] (.int (0 : Int32)) := (Arv.new A2445 (by decide)).pad (pad_rep [] (.int (0 : Int32)) 0)
    have SF0 : Safe Z EL0 s.vm T2420.heap b2431 := Safe.new (Nat.le_of_eq g2431.symm)
    have SF1 := Safe.ext E2431 CH0 SF0
    have CH1 := CHv.ext E2431 CH0
    have SF2 := Safe.ext E2445 CH1 SF1
    have CH2 := CHv.ext E2445 CH1
    have pre2461 : PQ p e below T2445 (mkF m 271 (Y43 p1 p2 p3 p4 bb o1 o2 o3 o4 o5 b2287 al u0 u1 u2 b2368) [(.ref b2445), (.ref b2431), (.ref b2431)]) (s₁.setTop (entryFrame m #[(.int p1), (.int p2), (.int p3), (.int p4)] maxLocals)) := fun t kt => pre2429 t (by
      refine XS.ifNo X2420.here hx rfl (hb hby at_261) rfl ((if0 _ _).trans (teq hc2430).2) ?_
      refine st2431 _ ?_
      refine XS.dup X2431.here hx rfl (hb hby at_267) rfl rfl ?_
      refine XS.iconst X2431.here hx rfl (hb hby at_268) ?_
      refine st2445 _ ?_
      exact kt)
    obtain ⟨_, _, ⟨T2462, L2462, k2462, n2462⟩, -, X2462, hS2462, -, ⟨Lc2462, hQ2462, l2462, y2462, z2462⟩, st2462⟩ := X2445.specialBackS hx (y := own_y_164) rfl hown (mvT hZ (own_w hw 9 rfl)) (mvT hZ (own_w hw 10 rfl)) (mvT hZ (own_w hw 11 rfl)) (by decide) (own_backS (W := 1) (rmSi0 l Z a0 hw [] b2431 b2445 k2445 cs fv h2445 n0 z2460 c2451 c2457 c2458 c2459 G2431 V2445) hZ (own_w hw 11 rfl) (own_w hw 8 rfl) (by decide) (by decide) (own_ew hw) CH2 c2457.lt SF2) (g := (mkF m 271 (Y43 p1 p2 p3 p4 bb o1 o2 o3 o4 o5 b2287 al u0 u1 u2 b2368) [(.ref b2445), (.ref b2431), (.ref b2431)])) rfl (by rw [hml]; rfl) (Steps.refl _) (a := b2431) (argsL := [(.ref b2445)]) (rest := [(.ref b2431)]) (lenOf pd_596 rfl) rfl (by show 2 * 0 + _ ≤ _; exact Nat.le_of_eq rfl) (hb hby at_271) (fun _ _ => ⟨rfl, e2445, (by decide : 6 + 4 ≤ _), (by decide : 20 + 8 ≤ _)⟩)
    dsimp only [Pt.U, Pt.locs, Pt.cells, Pt.slots] at X2462 l2462 y2462 z2462 st2462 hQ2462 hS2462
    subst y2462 z2462
    obtain ⟨r2462, kc2462, rfl, Nq2462, K2462, Fc2462, Fv2462, V2462⟩ := hQ2462
    have N2462 : Fr n0 L2462 := by rw [l2462]; exact Fr.app N2420 Nq2462
    replace X2462 := own_more (k := 10) (n := 28) X2462 (Nat.le_of_ble_eq_true rfl) (Nat.le_of_ble_eq_true rfl)
    have hZ : Z.Warmed39 (s.setVm T2462.vm).vm := State.Warmed39.trans hZ hS2462.1
    have hown : (s.setVm T2462.vm).vm.findClass "com/example/digitwarden/digitwarden/model/AlphabetValueOfPinLaw" = some m.cls := (hS2462.1.alike.findClass _ _).trans hown
    have z2463 : n0 ≤ T2462.heap.size := Nat.le_trans z2460 K2462.1
    have kz0 : T2462.heap.size ≤ T2462.heap.size := Nat.le_refl _
    have c2465 := c2451.keep K2462 (allS G2431 all0)
    have c2466 := c2452.keep K2462 (ninS ne2432 nin0)
    have c2467 := c2453.keep K2462
    have c2468 := c2454.keep K2462 (ninS ne2433 nin0)
    have c2469 := c2455.keep K2462 (ninS ne2433 nin0)
    have c2470 := c2456.keep K2462 (ninS ne2434 nin0)
    have c2471 := c2457.keep K2462
    have la1 : al < (1 : Int32) := by rw [hk]; decide
    have la2 : al < (2 : Int32) := by rw [hk]; decide
    have la3 : al < (3 : Int32) := by rw [hk]; decide
    obtain ⟨T2475, h2475, X2475, e2475, E2475, A2475, D2475, -, st2475⟩ := newO X2462 hx hZ hown (own_w hw 35 rfl) (own_w hw 36 rfl) (own_w hw 37 rfl) rfl (g := (mkF m 363 (Y44 p1 p2 p3 p4 bb o1 o2 o3 o4 o5 b2287 al u0 u1 u2 b2368 b2431) [])) rfl (hb hby at_363) (by decide) (by decide)
    obtain ⟨b2475, g2475⟩ : ∃ z, z = T2462.heap.size := ⟨_, rfl⟩
    rw [← g2475] at A2475 D2475 st2475
    have G2475 : n0 ≤ b2475 := Nat.le_trans z2463 (Nat.le_of_eq g2475.symm)
    have ne2476 : b2287 ≠ b2475 := Nat.ne_of_lt (Nat.lt_of_lt_of_le c2466.lt (Nat.le_of_eq g2475.symm))
    have ne2477 : b2368 ≠ b2475 := Nat.ne_of_lt (Nat.lt_of_lt_of_le c2467.lt (Nat.le_of_eq g2475.symm))
    have ne2478 : r2420 ≠ b2475 := Nat.ne_of_lt (Nat.lt_of_lt_of_le c2470.lt (Nat.le_of_eq g2475.symm))
    have ne2479 : b2431 ≠ b2475 := Nat.ne_of_lt (Nat.lt_of_lt_of_le c2471.lt (Nat.le_of_eq g2475.symm))
    have ne2480 : r2462 ≠ b2475 := Nat.ne_of_lt (Nat.lt_of_lt_of_le V2462.lt (Nat.le_of_eq g2475.symm))
    have c2482 := c2465.ext E2475
    have c2483 := c2466.ext E2475
    have c2484 := c2467.ext E2475
    have c2485 := c2468.ext E2475
    have c2486 := c2469.ext E2475
    have c2487 := c2470.ext E2475
    have c2488 := c2471.ext E2475
    have c2489 := Fc2462.ext E2475
    have c2490 := Fv2462.ext E2475
    have c2491 := V2462.ext E2475
    have F2492 : Fg Z h2475 b2475 .null := D2475 (Or.inr (own_w hw 183 rfl)) (ty := (.object "java/lang/String")) (by decide)
    have F2493 : Ff Z h2475 b2475 .null := D2475 (Or.inr (own_w hw 185 rfl)) (ty := (.array .int)) (by decide)
    have z2494 : n0 ≤ h2475.size := Nat.le_trans z2463 E2475.1
    have kz2495 := Nat.le_trans kz0 E2475.1
    obtain ⟨_, T2496, L2496, X2496, N2496, ⟨_, r2496, rfl, -, K2496, Fv2496, I2496⟩, st2496⟩ := own_cI X2475 hx hZ hown (own_k_597 hw) (rmAl0 hw b2475 b2368 r2420 kc2420 b2431 r2462 kc2462 c0 c1 c2 z2494 c2482 A2475 F2492 F2493 G2475 c2484 c2485 c2486 c2487 c2488 c2489 c2490 c2491 hpc0 hpc1 hpc2 d10 d20 d21   ne2477 ne2478 ne2479 ne2480) (W := 1) (k := 16) (n := 185) (by decide) e2475 N2462 (fun _ _ _ ⟨_, _, h, _⟩ => h) (Ls := (Y44 p1 p2 p3 p4 bb o1 o2 o3 o4 o5 b2287 al u0 u1 u2 b2368 b2431)) (rest := [(.ref b2475)]) hml.symm (lenOf pd_598 rfl) (Nat.le_of_eq rfl) (hb hby at_371)
    have z2497 : n0 ≤ T2496.heap.size := Nat.le_trans z2494 K2496.1
    have kz2498 := Nat.le_trans kz2495 K2496.1
    have c2501 := c2483.keep K2496 (ninS ne2476 nin0)
    have c2510 := A2475.keep K2496
    have pre2513 : PQ p e below T2496 (mkF m 380 (Y45 p1 p2 p3 p4 bb o1 o2 o3 o4 o5 b2287 al u0 u1 u2 b2368 b2431 b2475) [(.int (p4 &&& (15 : Int32)))]) (s₁.setTop (entryFrame m #[(.int p1), (.int p2), (.int p3), (.int p4)] maxLocals)) := fun t kt => pre2461 t (by
      refine st2462.trans ?_
      refine XS.astore X2462.here hx rfl (hb hby at_274) rfl rfl (l' := (Y44 p1 p2 p3 p4 bb o1 o2 o3 o4 o5 b2287 al u0 u1 u2 b2368 b2431)) rfl ?_
      refine XS.goto X2462.here hx rfl (pc0 := 276) (pc' := 363) rfl (hb hby at_276) (by decide) (by decide) ?_
      refine st2475 _ ?_
      refine XS.dup X2475.here hx rfl (hb hby at_366) rfl rfl ?_
      refine XS.aload X2475.here hx rfl (hb hby at_367) rfl rfl ?_
      refine XS.aload X2475.here hx rfl (hb hby at_369) rfl rfl ?_
      refine st2496.trans ?_
      refine XS.astore X2496.here hx rfl (hb hby at_374) rfl rfl (l' := (Y45 p1 p2 p3 p4 bb o1 o2 o3 o4 o5 b2287 al u0 u1 u2 b2368 b2431 b2475)) rfl ?_
      refine XS.iloadN X2496.here hx rfl (hb hby at_376) rfl ?_
      refine XS.bipush X2496.here hx rfl (hb hby at_377) ?_
      refine XS.iand X2496.here hx rfl (hb hby at_379) rfl ?_
      exact kt)
    obtain ⟨sel, hsel⟩ : ∃ z : Int32, z = (p4 &&& (15 : Int32)) := ⟨_, rfl⟩
    have pre2514 : PQ p e below T2496 (mkF m 380 (Y45 p1 p2 p3 p4 bb o1 o2 o3 o4 o5 b2287 al u0 u1 u2 b2368 b2431 b2475) [(.int sel)]) (s₁.setTop (entryFrame m #[(.int p1), (.int p2), (.int p3), (.int p4)] maxLocals)) := by rw [hsel]; exact pre2513
    have hsel0 : ¬ sel < 0 := by rw [hsel]; exact own_n15 _
    obtain ⟨cl2515, A2515, q2515, S2515, M2515, H2515, J2515⟩ := id c2501
    have hat2515_0 : cl2515.slots[((0 : Int32)).toNatClampNeg]? = some (.int c0) := H2515.at (inb_of S2515 ⟨by decide, by decide⟩) rfl
    have hat2515_1 : cl2515.slots[((1 : Int32)).toNatClampNeg]? = some (.int c1) := H2515.at (inb_of S2515 ⟨by decide, by decide⟩) rfl
    have hat2515_2 : cl2515.slots[((2 : Int32)).toNatClampNeg]? = some (.int c2) := H2515.at (inb_of S2515 ⟨by decide, by decide⟩) rfl
    have gg : ∀ z, z = c0 ∨ z = c1 ∨ z = c2 ∨ z = c3 ∨ z = c4 ∨ z = c5 → ¬ z < 0 := by
      rintro z (rfl | rfl | rfl | rfl | rfl | rfl)
      · exact hpc0.2.2.2.2.2.2.2.2.1
      · exact hpc1.2.2.2.2.2.2.2.2.1
      · exact hpc2.2.2.2.2.2.2.2.2.1
      · exact hpc3.2.2.2.2.2.2.2.2.1
      · exact hpc4.2.2.2.2.2.2.2.2.1
      · exact hpc5.2.2.2.2.2.2.2.2.1
    obtain ⟨qa, hqa⟩ : ∃ z : Int32, sel < (6 : Int32) → (cl2515.slots[(sel).toNatClampNeg]? = some (.int z) ∧ ¬ z < 0) := by
      by_cases q : sel < (6 : Int32)
      · obtain ⟨z, hz⟩ := own_at6 H2515 S2515 hsel0 q gg; exact ⟨z, fun _ => hz⟩
      · exact ⟨0, fun z => absurd z q⟩
    obtain ⟨qb, hqb⟩ : ∃ z : Int32, ¬ sel < (6 : Int32) → sel < (12 : Int32) → (cl2515.slots[(sel - (6 : Int32)).toNatClampNeg]? = some (.int z) ∧ ¬ z < 0) := by
      by_cases q : ¬ sel < (6 : Int32) ∧ sel < (12 : Int32)
      · obtain ⟨z, hz⟩ := own_at6 H2515 S2515 (own_s6 q.1 q.2).1 (own_s6 q.1 q.2).2 gg; exact ⟨z, fun _ _ => hz⟩
      · exact ⟨0, fun z y => absurd ⟨z, y⟩ q⟩
    have pre2516 : PQ p e below T2496 (mkF m 386 (Y46 p1 p2 p3 p4 bb o1 o2 o3 o4 o5 b2287 al u0 u1 u2 b2368 b2431 b2475 sel) [(.int (6 : Int32)), (.int sel)]) (s₁.setTop (entryFrame m #[(.int p1), (.int p2), (.int p3), (.int p4)] maxLocals)) := fun t kt => pre2514 t (by
      refine XS.istore X2496.here hx rfl (hb hby at_380) rfl (l' := (Y46 p1 p2 p3 p4 bb o1 o2 o3 o4 o5 b2287 al u0 u1 u2 b2368 b2431 b2475 sel)) rfl ?_
      refine XS.iload X2496.here hx rfl (hb hby at_382) rfl ?_
      refine XS.bipush X2496.here hx rfl (hb hby at_384) ?_
      exact kt)
    obtain ⟨q, hq⟩ : ∃ z : Int32, z = (if sel < (6 : Int32) then qa else (if sel < (12 : Int32) then ((((((p4.toUInt32 >>> ((8 : Int32) &&& 31).toUInt32).toInt32) &&& (65280 : Int32)) ||| (128 : Int32)) ||| qb).toUInt32.toUInt16.toUInt32.toInt32) else (((p4.toUInt32 >>> ((16 : Int32) &&& 31).toUInt32).toInt32).toUInt32.toUInt16.toUInt32.toInt32))) := ⟨_, rfl⟩
    have pre2519 : PQ p e below T2496 (mkF m 439 (Y47 p1 p2 p3 p4 bb o1 o2 o3 o4 o5 b2287 al u0 u1 u2 b2368 b2431 b2475 sel q) []) (s₁.setTop (entryFrame m #[(.int p1), (.int p2), (.int p3), (.int p4)] maxLocals)) := fun t kt => pre2516 t (by
      by_cases hc2517 : sel < (6 : Int32)
      case pos =>
        refine XS.icmpNo X2496.here hx rfl (hb hby at_386) rfl (tlt hc2517).2.1 ?_
        refine XS.aload X2496.here hx rfl (hb hby at_389) rfl rfl ?_
        refine XS.iload X2496.here hx rfl (hb hby at_391) rfl ?_
        refine X2496.caload hx (j := sel) (v := (.int qa)) A2515.1 (State.isArrayOf_alike hZ.alike A2515.2.1) A2515.2.2 (inb_of S2515 ⟨hsel0, hc2517⟩) (hqa hc2517).1 (g := (mkF m 393 (Y46 p1 p2 p3 p4 bb o1 o2 o3 o4 o5 b2287 al u0 u1 u2 b2368 b2431 b2475 sel) [(.int sel), (.ref b2287)])) rfl rfl (hb hby at_393) _ ?_
        refine XS.istore X2496.here hx rfl (hb hby at_394) rfl (l' := (Y47 p1 p2 p3 p4 bb o1 o2 o3 o4 o5 b2287 al u0 u1 u2 b2368 b2431 b2475 sel qa)) rfl ?_
        refine XS.goto X2496.here hx rfl (pc0 := 396) (pc' := 439) rfl (hb hby at_396) (by decide) (by decide) ?_
        rw [show q = qa from (hq.trans (if_pos hc2517))] at kt
        exact kt
      case neg =>
        refine XS.icmpYes X2496.here hx rfl (pc0 := 386) (pc' := 399) rfl (hb hby at_386) rfl (flt hc2517).2.1 (by decide) (by decide) ?_
        refine XS.iload X2496.here hx rfl (hb hby at_399) rfl ?_
        refine XS.bipush X2496.here hx rfl (hb hby at_401) ?_
        by_cases hc2518 : sel < (12 : Int32)
        case pos =>
          refine XS.icmpNo X2496.here hx rfl (hb hby at_403) rfl (tlt hc2518).2.1 ?_
          refine XS.iloadN X2496.here hx rfl (hb hby at_406) rfl ?_
          refine XS.bipush X2496.here hx rfl (hb hby at_407) ?_
          refine XS.iushr X2496.here hx rfl (hb hby at_409) rfl ?_
          refine X2496.ldcInt hx hown (mvT hZ (own_w hw 194 rfl)) (g := (mkF m 410 (Y46 p1 p2 p3 p4 bb o1 o2 o3 o4 o5 b2287 al u0 u1 u2 b2368 b2431 b2475 sel) [(.int ((p4.toUInt32 >>> ((8 : Int32) &&& 31).toUInt32).toInt32))])) rfl (hb hby at_410) _ ?_
          refine XS.iand X2496.here hx rfl (hb hby at_412) rfl ?_
          refine XS.sipush X2496.here hx rfl (hb hby at_413) ?_
          refine XS.ior X2496.here hx rfl (hb hby at_416) rfl ?_
          refine XS.aload X2496.here hx rfl (hb hby at_417) rfl rfl ?_
          refine XS.iload X2496.here hx rfl (hb hby at_419) rfl ?_
          refine XS.bipush X2496.here hx rfl (hb hby at_421) ?_
          refine XS.isub X2496.here hx rfl (hb hby at_423) rfl ?_
          refine X2496.caload hx (j := (sel - (6 : Int32))) (v := (.int qb)) A2515.1 (State.isArrayOf_alike hZ.alike A2515.2.1) A2515.2.2 (inb_of S2515 (own_s6 hc2517 hc2518)) (hqb hc2517 hc2518).1 (g := (mkF m 424 (Y46 p1 p2 p3 p4 bb o1 o2 o3 o4 o5 b2287 al u0 u1 u2 b2368 b2431 b2475 sel) [(.int (sel - (6 : Int32))), (.ref b2287), (.int ((((p4.toUInt32 >>> ((8 : Int32) &&& 31).toUInt32).toInt32) &&& (65280 : Int32)) ||| (128 : Int32)))])) rfl rfl (hb hby at_424) _ ?_
          refine XS.ior X2496.here hx rfl (hb hby at_425) rfl ?_
          refine XS.i2c X2496.here hx rfl (hb hby at_426) rfl ?_
          refine XS.istore X2496.here hx rfl (hb hby at_427) rfl (l' := (Y47 p1 p2 p3 p4 bb o1 o2 o3 o4 o5 b2287 al u0 u1 u2 b2368 b2431 b2475 sel ((((((p4.toUInt32 >>> ((8 : Int32) &&& 31).toUInt32).toInt32) &&& (65280 : Int32)) ||| (128 : Int32)) ||| qb).toUInt32.toUInt16.toUInt32.toInt32))) rfl ?_
          refine XS.goto X2496.here hx rfl (pc0 := 429) (pc' := 439) rfl (hb hby at_429) (by decide) (by decide) ?_
          rw [show q = ((((((p4.toUInt32 >>> ((8 : Int32) &&& 31).toUInt32).toInt32) &&& (65280 : Int32)) ||| (128 : Int32)) ||| qb).toUInt32.toUInt16.toUInt32.toInt32) from ((hq.trans (if_neg hc2517)).trans (if_pos hc2518))] at kt
          exact kt
        case neg =>
          refine XS.icmpYes X2496.here hx rfl (pc0 := 403) (pc' := 432) rfl (hb hby at_403) rfl (flt hc2518).2.1 (by decide) (by decide) ?_
          refine XS.iloadN X2496.here hx rfl (hb hby at_432) rfl ?_
          refine XS.bipush X2496.here hx rfl (hb hby at_433) ?_
          refine XS.iushr X2496.here hx rfl (hb hby at_435) rfl ?_
          refine XS.i2c X2496.here hx rfl (hb hby at_436) rfl ?_
          refine XS.istore X2496.here hx rfl (hb hby at_437) rfl (l' := (Y47 p1 p2 p3 p4 bb o1 o2 o3 o4 o5 b2287 al u0 u1 u2 b2368 b2431 b2475 sel (((p4.toUInt32 >>> ((16 : Int32) &&& 31).toUInt32).toInt32).toUInt32.toUInt16.toUInt32.toInt32))) rfl ?_
          rw [show q = (((p4.toUInt32 >>> ((16 : Int32) &&& 31).toUInt32).toInt32).toUInt32.toUInt16.toUInt32.toInt32) from ((hq.trans (if_neg hc2517)).trans (if_neg hc2518))] at kt
          exact kt)
    have hq0 : ¬ q < 0 := by
      rw [hq]; split
      · rename_i z; exact (hqa z).2
      · split <;> exact own_ch _
    have pre2520 : PQ p e below T2496 (mkF m 445 (Y47 p1 p2 p3 p4 bb o1 o2 o3 o4 o5 b2287 al u0 u1 u2 b2368 b2431 b2475 sel q) [(.int c0), (.int q)]) (s₁.setTop (entryFrame m #[(.int p1), (.int p2), (.int p3), (.int p4)] maxLocals)) := fun t kt => pre2519 t (by
      refine XS.iload X2496.here hx rfl (hb hby at_439) rfl ?_
      refine XS.aload X2496.here hx rfl (hb hby at_441) rfl rfl ?_
      refine XS.iconst X2496.here hx rfl (hb hby at_443) ?_
      refine X2496.caload hx (j := (0 : Int32)) (v := (.int c0)) A2515.1 (State.isArrayOf_alike hZ.alike A2515.2.1) A2515.2.2 (inb_of S2515 ⟨by decide, by decide⟩) hat2515_0 (g := (mkF m 444 (Y47 p1 p2 p3 p4 bb o1 o2 o3 o4 o5 b2287 al u0 u1 u2 b2368 b2431 b2475 sel q) [(.int (0 : Int32)), (.ref b2287), (.int q)])) rfl rfl (hb hby at_444) _ ?_
      exact kt)
    obtain ⟨ex, hex⟩ : ∃ z : Int32, z = (if q = c0 then (0 : Int32) else (if q = c1 then (1 : Int32) else (if q = c2 then (2 : Int32) else (-1 : Int32)))) := ⟨_, rfl⟩
    have pre2524 : PQ p e below T2496 (mkF m 544 (Y48 p1 p2 p3 p4 bb o1 o2 o3 o4 o5 b2287 al u0 u1 u2 b2368 b2431 b2475 sel q ex) []) (s₁.setTop (entryFrame m #[(.int p1), (.int p2), (.int p3), (.int p4)] maxLocals)) := fun t kt => pre2520 t (by
      by_cases hc2521 : q = c0
      case pos =>
        refine XS.icmpNo X2496.here hx rfl (hb hby at_445) rfl (teq hc2521).2 ?_
        refine XS.iconst X2496.here hx rfl (hb hby at_448) ?_
        refine XS.istore X2496.here hx rfl (hb hby at_449) rfl (l' := (Y48 p1 p2 p3 p4 bb o1 o2 o3 o4 o5 b2287 al u0 u1 u2 b2368 b2431 b2475 sel q 0)) rfl ?_
        refine XS.goto X2496.here hx rfl (pc0 := 451) (pc' := 544) rfl (hb hby at_451) (by decide) (by decide) ?_
        rw [show ex = (0 : Int32) from (hex.trans (if_pos hc2521))] at kt
        exact kt
      case neg =>
        refine XS.icmpYes X2496.here hx rfl (pc0 := 445) (pc' := 454) rfl (hb hby at_445) rfl (feq hc2521).2 (by decide) (by decide) ?_
        refine XS.iload X2496.here hx rfl (hb hby at_454) rfl ?_
        refine XS.aload X2496.here hx rfl (hb hby at_456) rfl rfl ?_
        refine XS.iconst X2496.here hx rfl (hb hby at_458) ?_
        refine X2496.caload hx (j := (1 : Int32)) (v := (.int c1)) A2515.1 (State.isArrayOf_alike hZ.alike A2515.2.1) A2515.2.2 (inb_of S2515 ⟨by decide, by decide⟩) hat2515_1 (g := (mkF m 459 (Y47 p1 p2 p3 p4 bb o1 o2 o3 o4 o5 b2287 al u0 u1 u2 b2368 b2431 b2475 sel q) [(.int (1 : Int32)), (.ref b2287), (.int q)])) rfl rfl (hb hby at_459) _ ?_
        by_cases hc2522 : q = c1
        case pos =>
          refine XS.icmpNo X2496.here hx rfl (hb hby at_460) rfl (teq hc2522).2 ?_
          refine XS.iconst X2496.here hx rfl (hb hby at_463) ?_
          refine XS.istore X2496.here hx rfl (hb hby at_464) rfl (l' := (Y48 p1 p2 p3 p4 bb o1 o2 o3 o4 o5 b2287 al u0 u1 u2 b2368 b2431 b2475 sel q 1)) rfl ?_
          refine XS.goto X2496.here hx rfl (pc0 := 466) (pc' := 544) rfl (hb hby at_466) (by decide) (by decide) ?_
          rw [show ex = (1 : Int32) from ((hex.trans (if_neg hc2521)).trans (if_pos hc2522))] at kt
          exact kt
        case neg =>
          refine XS.icmpYes X2496.here hx rfl (pc0 := 460) (pc' := 469) rfl (hb hby at_460) rfl (feq hc2522).2 (by decide) (by decide) ?_
          refine XS.iload X2496.here hx rfl (hb hby at_469) rfl ?_
          refine XS.aload X2496.here hx rfl (hb hby at_471) rfl rfl ?_
          refine XS.iconst X2496.here hx rfl (hb hby at_473) ?_
          refine X2496.caload hx (j := (2 : Int32)) (v := (.int c2)) A2515.1 (State.isArrayOf_alike hZ.alike A2515.2.1) A2515.2.2 (inb_of S2515 ⟨by decide, by decide⟩) hat2515_2 (g := (mkF m 474 (Y47 p1 p2 p3 p4 bb o1 o2 o3 o4 o5 b2287 al u0 u1 u2 b2368 b2431 b2475 sel q) [(.int (2 : Int32)), (.ref b2287), (.int q)])) rfl rfl (hb hby at_474) _ ?_
          by_cases hc2523 : q = c2
          case pos =>
            refine XS.icmpNo X2496.here hx rfl (hb hby at_475) rfl (teq hc2523).2 ?_
            refine XS.iconst X2496.here hx rfl (hb hby at_478) ?_
            refine XS.istore X2496.here hx rfl (hb hby at_479) rfl (l' := (Y48 p1 p2 p3 p4 bb o1 o2 o3 o4 o5 b2287 al u0 u1 u2 b2368 b2431 b2475 sel q 2)) rfl ?_
            refine XS.goto X2496.here hx rfl (pc0 := 481) (pc' := 544) rfl (hb hby at_481) (by decide) (by decide) ?_
            rw [show ex = (2 : Int32) from (((hex.trans (if_neg hc2521)).trans (if_neg hc2522)).trans (if_pos hc2523))] at kt
            exact kt
          case neg =>
            refine XS.icmpYes X2496.here hx rfl (pc0 := 475) (pc' := 484) rfl (hb hby at_475) rfl (feq hc2523).2 (by decide) (by decide) ?_
            refine XS.iload X2496.here hx rfl (hb hby at_484) rfl ?_
            refine XS.iconst X2496.here hx rfl (hb hby at_486) ?_
            refine XS.icmpYes X2496.here hx rfl (pc0 := 487) (pc' := 503) rfl (hb hby at_487) rfl (tlt la1).1 (by decide) (by decide) ?_
            refine XS.iload X2496.here hx rfl (hb hby at_503) rfl ?_
            refine XS.iconst X2496.here hx rfl (hb hby at_505) ?_
            refine XS.icmpYes X2496.here hx rfl (pc0 := 506) (pc' := 522) rfl (hb hby at_506) rfl (tlt la2).1 (by decide) (by decide) ?_
            refine XS.iload X2496.here hx rfl (hb hby at_522) rfl ?_
            refine XS.iconst X2496.here hx rfl (hb hby at_524) ?_
            refine XS.icmpYes X2496.here hx rfl (pc0 := 525) (pc' := 541) rfl (hb hby at_525) rfl (tlt la3).1 (by decide) (by decide) ?_
            refine XS.iconst X2496.here hx rfl (hb hby at_541) ?_
            refine XS.istore X2496.here hx rfl (hb hby at_542) rfl (l' := (Y48 p1 p2 p3 p4 bb o1 o2 o3 o4 o5 b2287 al u0 u1 u2 b2368 b2431 b2475 sel q (-1))) rfl ?_
            rw [show ex = (-1 : Int32) from (((hex.trans (if_neg hc2521)).trans (if_neg hc2522)).trans (if_neg hc2523))] at kt
            exact kt)
    obtain ⟨_, T2525, L2525, X2525, N2525, ⟨_, rfl, -, e2525⟩, st2525⟩ := own_cV X2496 hx hZ hown (own_k_599 hw) (rmVo hw b2475 r2496 q (own_sy c0 c1 c2) z2497 Fv2496 I2496 hq0) (W := 0) (k := 16) (n := 185) (by decide) rfl N2496 (fun _ _ _ h => h.2.1) c2510 (Ls := (Y48 p1 p2 p3 p4 bb o1 o2 o3 o4 o5 b2287 al u0 u1 u2 b2368 b2431 b2475 sel q ex)) (rest := []) hml.symm (lenOf pd_600 rfl) (Nat.le_of_eq rfl) (hb hby at_548)
    have hfin : (if q < (128 : Int32) then (own_sy c0 c1 c2) q else (-1 : Int32)) = ex := own_fin0 c0 c1 c2 q ex hex hpc0 hpc1 hpc2 d10 d20 d21  
    have pre2526 : PQ p e below T2525 (mkF m 561 (Y48 p1 p2 p3 p4 bb o1 o2 o3 o4 o5 b2287 al u0 u1 u2 b2368 b2431 b2475 sel q ex) [(.int (1 : Int32))]) (s₁.setTop (entryFrame m #[(.int p1), (.int p2), (.int p3), (.int p4)] maxLocals)) := fun t kt => pre2524 t (by
      refine XS.aload X2496.here hx rfl (hb hby at_544) rfl rfl ?_
      refine XS.iload X2496.here hx rfl (hb hby at_546) rfl ?_
      refine st2525.trans ?_
      refine XS.iload X2525.here hx rfl (hb hby at_551) rfl ?_
      refine XS.icmpNo X2525.here hx rfl (hb hby at_553) rfl (teq hfin).2 ?_
      refine XS.iconst X2525.here hx rfl (hb hby at_556) ?_
      refine XS.goto X2525.here hx rfl (pc0 := 557) (pc' := 561) rfl (hb hby at_557) (by decide) (by decide) ?_
      exact kt)
    exact own_retNW X2525 hS2462 (by rw [e2525]; exact kz2498) hx Bd.notSynchronized (t := .boolean) Bd.returns (by simp) (hb hby at_561) pre2526 (show Q0 h0 n0 _ _ _ from ⟨rfl, N2525⟩) (by decide) (by decide)
  case neg =>
    have pre2527 : PQ p e below T2420 (mkF m 282 (Y43 p1 p2 p3 p4 bb o1 o2 o3 o4 o5 b2287 al u0 u1 u2 b2368) [(.int (1 : Int32)), (.int al)]) (s₁.setTop (entryFrame m #[(.int p1), (.int p2), (.int p3), (.int p4)] maxLocals)) := fun t kt => pre2429 t (by
      refine XS.ifYes X2420.here hx rfl (pc0 := 261) (pc' := 279) rfl (hb hby at_261) rfl ((if0 _ _).trans (feq hc2430).2) (by decide) (by decide) ?_
      refine XS.iload X2420.here hx rfl (hb hby at_279) rfl ?_
      refine XS.iconst X2420.here hx rfl (hb hby at_281) ?_
      exact kt)
    by_cases hc2528 : al = (1 : Int32)
    case pos =>
      have hk : al = (1 : Int32) := hc2528
      obtain ⟨T2529, h2529, X2529, e2529, E2529, A2529, D2529, -, st2529⟩ := newO X2420 hx hZ hown (own_w hw 6 rfl) (own_w hw 7 rfl) (own_w hw 8 rfl) rfl (g := (mkF m 285 (Y43 p1 p2 p3 p4 bb o1 o2 o3 o4 o5 b2287 al u0 u1 u2 b2368) [])) rfl (hb hby at_285) (by decide) (by decide)
      obtain ⟨b2529, g2529⟩ : ∃ z, z = T2420.heap.size := ⟨_, rfl⟩
      rw [← g2529] at A2529 D2529 st2529
      have G2529 : n0 ≤ b2529 := Nat.le_trans z2421 (Nat.le_of_eq g2529.symm)
      have ne2530 : b2287 ≠ b2529 := Nat.ne_of_lt (Nat.lt_of_lt_of_le c2424.lt (Nat.le_of_eq g2529.symm))
      have ne2531 : b2368 ≠ b2529 := Nat.ne_of_lt (Nat.lt_of_lt_of_le c2425.lt (Nat.le_of_eq g2529.symm))
      have ne2532 : r2420 ≠ b2529 := Nat.ne_of_lt (Nat.lt_of_lt_of_le V2420.lt (Nat.le_of_eq g2529.symm))
      have c2534 := c2423.ext E2529
      have c2535 := c2424.ext E2529
      have c2536 := c2425.ext E2529
      have c2537 := Fc2420.ext E2529
      have c2538 := Fv2420.ext E2529
      have c2539 := V2420.ext E2529
      have F2540 : Fa Z h2529 b2529 (.int (0 : Int32)) := D2529 (Or.inr (own_w hw 32 rfl)) (ty := .byte) (by decide)
      have F2541 : Fb Z h2529 b2529 .null := D2529 (Or.inr (own_w hw 34 rfl)) (ty := (.array .byte)) (by decide)
      have z2542 : n0 ≤ h2529.size := Nat.le_trans z2421 E2529.1
      obtain ⟨T2543, h2543, k2543, X2543, e2543, E2543, A2543, st2543⟩ := newP X2529 hx hZ (own_w hw 1 rfl) e2529 (g := (mkF m 290 (Y43 p1 p2 p3 p4 bb o1 o2 o3 o4 o5 b2287 al u0 u1 u2 b2368) [(.int (1 : Int32)), (.ref b2529), (.ref b2529)])) rfl (hb hby at_290) rfl (by decide) (cap := 1) (by decide) (by decide) (by decide) (by decide)
      obtain ⟨b2543, g2543⟩ : ∃ z, z = h2529.size := ⟨_, rfl⟩
      rw [← g2543] at A2543 st2543
      have G2543 : n0 ≤ b2543 := Nat.le_trans z2542 (Nat.le_of_eq g2543.symm)
      have ne2544 : b2287 ≠ b2543 := Nat.ne_of_lt (Nat.lt_of_lt_of_le c2535.lt (Nat.le_of_eq g2543.symm))
      have ne2545 : b2368 ≠ b2543 := Nat.ne_of_lt (Nat.lt_of_lt_of_le c2536.lt (Nat.le_of_eq g2543.symm))
      have ne2546 : r2420 ≠ b2543 := Nat.ne_of_lt (Nat.lt_of_lt_of_le c2539.lt (Nat.le_of_eq g2543.symm))
      have ne2547 : b2529 ≠ b2543 := Nat.ne_of_lt (Nat.lt_of_lt_of_le A2529.lt (Nat.le_of_eq g2543.symm))
      have c2549 := c2534.ext E2543
      have c2550 := c2535.ext E2543
      have c2551 := c2536.ext E2543
      have c2552 := c2537.ext E2543
      have c2553 := c2538.ext E2543
      have c2554 := c2539.ext E2543
      have c2555 := A2529.ext E2543
      have c2556 := F2540.ext E2543
      have c2557 := F2541.ext E2543
      have z2558 : n0 ≤ h2543.size := Nat.le_trans z2542 E2543.1
      have V2543 : Arv Z h2543 b2543 k2543 .char (1 : Int32) [(.int (0 : Int32))] (.int (0 : Int32)) := (Arv.new A2543 (by decide)).pad (pad_rep [] (.int (0 : Int32)) 1)
      obtain ⟨cl2559, Ar2559, q2559, S2559, M2559, H2559, J2559⟩ := id V2543
      have hin2559 : ¬ ((0 : Int32) < 0 ∨ cl2559.slots.size ≤ ((0 : Int32)).toNatClampNeg) := inb_of S2559 ⟨by decide, by decide⟩
      obtain ⟨T2560, h2560, X2560, e2560, W2560, st2560⟩ := stC X2543 hx hZ e2543 Ar2559 (j := (0 : Int32)) hin2559 (g := (mkF m 296 (Y43 p1 p2 p3 p4 bb o1 o2 o3 o4 o5 b2287 al u0 u1 u2 b2368) [(.int u0), o0, (.ref b2543), (.ref b2543), (.ref b2529), (.ref b2529)])) rfl rfl (hb hby at_296)
      have V2560 : Arv Z h2560 b2543 k2543 .char (1 : Int32) [(.int (nar .char u0))] (.int (0 : Int32)) := Arv.set Ar2559 q2559 S2559 M2559 H2559 J2559 (fits_nar_char _) W2560 0 rfl (Nat.le_of_ble_eq_true rfl)
      have N2560 := Fr.snoc X2560 N2420 G2543
      have z2561 : n0 ≤ h2560.size := Nat.le_trans z2558 (Keep.of_wr W2560).1
      have c2563 := c2549.wr W2560 G2543
      have c2564 := c2550.other W2560 ne2544
      have c2565 := c2551.wr W2560
      have c2566 := c2552.other W2560 (Or.inl ne2545)
      have c2567 := c2553.other W2560 (Or.inl ne2545)
      have c2568 := c2554.other W2560 ne2546
      have c2569 := c2555.wr W2560
      have c2570 := c2556.other W2560 (Or.inl ne2547)
      have c2571 := c2557.other W2560 (Or.inl ne2547)
      have V2573 : Arv Z h2560 b2543 k2543 .char (1 : Int32) [(.int u0)] (.int (0 : Int32)) := by
        have q := V2560
        rw [hpu0.2.2.1] at q
        exact q
      obtain ⟨_, T2574, L2574, X2574, N2574, ⟨_, r2574, kc2574, rfl, -, K2574, Fc2574, Fv2574, V2574⟩, st2574⟩ := own_cI X2560 hx hZ hown (own_k_595 hw) (rmSi1 hw b2529 b2543 k2543 u0 z2561 c2563 c2569 c2570 c2571 G2529 V2573 hpu0) (W := 1) (k := 7) (n := 22) (by decide) e2560 N2560 (fun _ _ _ ⟨_, _, _, h, _⟩ => h) (Ls := (Y43 p1 p2 p3 p4 bb o1 o2 o3 o4 o5 b2287 al u0 u1 u2 b2368)) (rest := [(.ref b2529)]) hml.symm (lenOf pd_596 rfl) (Nat.le_of_eq rfl) (hb hby at_297)
      have z2575 : n0 ≤ T2574.heap.size := Nat.le_trans z2561 K2574.1
      have c2577 := c2563.keep K2574 (allS G2529 all0)
      have c2578 := c2564.keep K2574 (ninS ne2530 nin0)
      have c2579 := c2565.keep K2574
      have c2580 := c2566.keep K2574 (ninS ne2531 nin0)
      have c2581 := c2567.keep K2574 (ninS ne2531 nin0)
      have c2582 := c2568.keep K2574 (ninS ne2532 nin0)
      have c2583 := c2569.keep K2574
      have la1 : ¬ (al < (1 : Int32)) := by rw [hk]; decide
      have la2 : al < (2 : Int32) := by rw [hk]; decide
      have la3 : al < (3 : Int32) := by rw [hk]; decide
      obtain ⟨T2587, h2587, X2587, e2587, E2587, A2587, D2587, -, st2587⟩ := newO X2574 hx hZ hown (own_w hw 35 rfl) (own_w hw 36 rfl) (own_w hw 37 rfl) rfl (g := (mkF m 363 (Y44 p1 p2 p3 p4 bb o1 o2 o3 o4 o5 b2287 al u0 u1 u2 b2368 b2529) [])) rfl (hb hby at_363) (by decide) (by decide)
      obtain ⟨b2587, g2587⟩ : ∃ z, z = T2574.heap.size := ⟨_, rfl⟩
      rw [← g2587] at A2587 D2587 st2587
      have G2587 : n0 ≤ b2587 := Nat.le_trans z2575 (Nat.le_of_eq g2587.symm)
      have ne2588 : b2287 ≠ b2587 := Nat.ne_of_lt (Nat.lt_of_lt_of_le c2578.lt (Nat.le_of_eq g2587.symm))
      have ne2589 : b2368 ≠ b2587 := Nat.ne_of_lt (Nat.lt_of_lt_of_le c2579.lt (Nat.le_of_eq g2587.symm))
      have ne2590 : r2420 ≠ b2587 := Nat.ne_of_lt (Nat.lt_of_lt_of_le c2582.lt (Nat.le_of_eq g2587.symm))
      have ne2591 : b2529 ≠ b2587 := Nat.ne_of_lt (Nat.lt_of_lt_of_le c2583.lt (Nat.le_of_eq g2587.symm))
      have ne2592 : r2574 ≠ b2587 := Nat.ne_of_lt (Nat.lt_of_lt_of_le V2574.lt (Nat.le_of_eq g2587.symm))
      have c2594 := c2577.ext E2587
      have c2595 := c2578.ext E2587
      have c2596 := c2579.ext E2587
      have c2597 := c2580.ext E2587
      have c2598 := c2581.ext E2587
      have c2599 := c2582.ext E2587
      have c2600 := c2583.ext E2587
      have c2601 := Fc2574.ext E2587
      have c2602 := Fv2574.ext E2587
      have c2603 := V2574.ext E2587
      have F2604 : Fg Z h2587 b2587 .null := D2587 (Or.inr (own_w hw 183 rfl)) (ty := (.object "java/lang/String")) (by decide)
      have F2605 : Ff Z h2587 b2587 .null := D2587 (Or.inr (own_w hw 185 rfl)) (ty := (.array .int)) (by decide)
      have z2606 : n0 ≤ h2587.size := Nat.le_trans z2575 E2587.1
      obtain ⟨_, T2607, L2607, X2607, N2607, ⟨_, r2607, rfl, -, K2607, Fv2607, I2607⟩, st2607⟩ := own_cI X2587 hx hZ hown (own_k_597 hw) (rmAl1 hw b2587 b2368 r2420 kc2420 b2529 r2574 kc2574 c0 c1 c2 u0 z2606 c2594 A2587 F2604 F2605 G2587 c2596 c2597 c2598 c2599 c2600 c2601 c2602 c2603 hpc0 hpc1 hpc2 hpu0 d10 d20 d21  f01 f02 ne2589 ne2590 ne2591 ne2592) (W := 1) (k := 13) (n := 180) (by decide) e2587 N2574 (fun _ _ _ ⟨_, _, h, _⟩ => h) (Ls := (Y44 p1 p2 p3 p4 bb o1 o2 o3 o4 o5 b2287 al u0 u1 u2 b2368 b2529)) (rest := [(.ref b2587)]) hml.symm (lenOf pd_598 rfl) (Nat.le_of_eq rfl) (hb hby at_371)
      have z2608 : n0 ≤ T2607.heap.size := Nat.le_trans z2606 K2607.1
      have c2611 := c2595.keep K2607 (ninS ne2588 nin0)
      have c2620 := A2587.keep K2607
      have pre2623 : PQ p e below T2607 (mkF m 380 (Y45 p1 p2 p3 p4 bb o1 o2 o3 o4 o5 b2287 al u0 u1 u2 b2368 b2529 b2587) [(.int (p4 &&& (15 : Int32)))]) (s₁.setTop (entryFrame m #[(.int p1), (.int p2), (.int p3), (.int p4)] maxLocals)) := fun t kt => pre2527 t (by
        refine XS.icmpNo X2420.here hx rfl (hb hby at_282) rfl (teq hc2528).2 ?_
        refine st2529 _ ?_
        refine XS.dup X2529.here hx rfl (hb hby at_288) rfl rfl ?_
        refine XS.iconst X2529.here hx rfl (hb hby at_289) ?_
        refine st2543 _ ?_
        refine XS.dup X2543.here hx rfl (hb hby at_292) rfl rfl ?_
        refine XS.iconst X2543.here hx rfl (hb hby at_293) ?_
        refine XS.iload X2543.here hx rfl (hb hby at_294) rfl ?_
        refine st2560 _ ?_
        refine st2574.trans ?_
        refine XS.astore X2574.here hx rfl (hb hby at_300) rfl rfl (l' := (Y44 p1 p2 p3 p4 bb o1 o2 o3 o4 o5 b2287 al u0 u1 u2 b2368 b2529)) rfl ?_
        refine XS.goto X2574.here hx rfl (pc0 := 302) (pc' := 363) rfl (hb hby at_302) (by decide) (by decide) ?_
        refine st2587 _ ?_
        refine XS.dup X2587.here hx rfl (hb hby at_366) rfl rfl ?_
        refine XS.aload X2587.here hx rfl (hb hby at_367) rfl rfl ?_
        refine XS.aload X2587.here hx rfl (hb hby at_369) rfl rfl ?_
        refine st2607.trans ?_
        refine XS.astore X2607.here hx rfl (hb hby at_374) rfl rfl (l' := (Y45 p1 p2 p3 p4 bb o1 o2 o3 o4 o5 b2287 al u0 u1 u2 b2368 b2529 b2587)) rfl ?_
        refine XS.iloadN X2607.here hx rfl (hb hby at_376) rfl ?_
        refine XS.bipush X2607.here hx rfl (hb hby at_377) ?_
        refine XS.iand X2607.here hx rfl (hb hby at_379) rfl ?_
        exact kt)
      obtain ⟨sel, hsel⟩ : ∃ z : Int32, z = (p4 &&& (15 : Int32)) := ⟨_, rfl⟩
      have pre2624 : PQ p e below T2607 (mkF m 380 (Y45 p1 p2 p3 p4 bb o1 o2 o3 o4 o5 b2287 al u0 u1 u2 b2368 b2529 b2587) [(.int sel)]) (s₁.setTop (entryFrame m #[(.int p1), (.int p2), (.int p3), (.int p4)] maxLocals)) := by rw [hsel]; exact pre2623
      have hsel0 : ¬ sel < 0 := by rw [hsel]; exact own_n15 _
      obtain ⟨cl2625, A2625, q2625, S2625, M2625, H2625, J2625⟩ := id c2611
      have hat2625_0 : cl2625.slots[((0 : Int32)).toNatClampNeg]? = some (.int c0) := H2625.at (inb_of S2625 ⟨by decide, by decide⟩) rfl
      have hat2625_1 : cl2625.slots[((1 : Int32)).toNatClampNeg]? = some (.int c1) := H2625.at (inb_of S2625 ⟨by decide, by decide⟩) rfl
      have hat2625_2 : cl2625.slots[((2 : Int32)).toNatClampNeg]? = some (.int c2) := H2625.at (inb_of S2625 ⟨by decide, by decide⟩) rfl
      have gg : ∀ z, z = c0 ∨ z = c1 ∨ z = c2 ∨ z = c3 ∨ z = c4 ∨ z = c5 → ¬ z < 0 := by
        rintro z (rfl | rfl | rfl | rfl | rfl | rfl)
        · exact hpc0.2.2.2.2.2.2.2.2.1
        · exact hpc1.2.2.2.2.2.2.2.2.1
        · exact hpc2.2.2.2.2.2.2.2.2.1
        · exact hpc3.2.2.2.2.2.2.2.2.1
        · exact hpc4.2.2.2.2.2.2.2.2.1
        · exact hpc5.2.2.2.2.2.2.2.2.1
      obtain ⟨qa, hqa⟩ : ∃ z : Int32, sel < (6 : Int32) → (cl2625.slots[(sel).toNatClampNeg]? = some (.int z) ∧ ¬ z < 0) := by
        by_cases q : sel < (6 : Int32)
        · obtain ⟨z, hz⟩ := own_at6 H2625 S2625 hsel0 q gg; exact ⟨z, fun _ => hz⟩
        · exact ⟨0, fun z => absurd z q⟩
      obtain ⟨qb, hqb⟩ : ∃ z : Int32, ¬ sel < (6 : Int32) → sel < (12 : Int32) → (cl2625.slots[(sel - (6 : Int32)).toNatClampNeg]? = some (.int z) ∧ ¬ z < 0) := by
        by_cases q : ¬ sel < (6 : Int32) ∧ sel < (12 : Int32)
        · obtain ⟨z, hz⟩ := own_at6 H2625 S2625 (own_s6 q.1 q.2).1 (own_s6 q.1 q.2).2 gg; exact ⟨z, fun _ _ => hz⟩
        · exact ⟨0, fun z y => absurd ⟨z, y⟩ q⟩
      have pre2626 : PQ p e below T2607 (mkF m 386 (Y46 p1 p2 p3 p4 bb o1 o2 o3 o4 o5 b2287 al u0 u1 u2 b2368 b2529 b2587 sel) [(.int (6 : Int32)), (.int sel)]) (s₁.setTop (entryFrame m #[(.int p1), (.int p2), (.int p3), (.int p4)] maxLocals)) := fun t kt => pre2624 t (by
        refine XS.istore X2607.here hx rfl (hb hby at_380) rfl (l' := (Y46 p1 p2 p3 p4 bb o1 o2 o3 o4 o5 b2287 al u0 u1 u2 b2368 b2529 b2587 sel)) rfl ?_
        refine XS.iload X2607.here hx rfl (hb hby at_382) rfl ?_
        refine XS.bipush X2607.here hx rfl (hb hby at_384) ?_
        exact kt)
      obtain ⟨q, hq⟩ : ∃ z : Int32, z = (if sel < (6 : Int32) then qa else (if sel < (12 : Int32) then ((((((p4.toUInt32 >>> ((8 : Int32) &&& 31).toUInt32).toInt32) &&& (65280 : Int32)) ||| (128 : Int32)) ||| qb).toUInt32.toUInt16.toUInt32.toInt32) else (((p4.toUInt32 >>> ((16 : Int32) &&& 31).toUInt32).toInt32).toUInt32.toUInt16.toUInt32.toInt32))) := ⟨_, rfl⟩
      have pre2629 : PQ p e below T2607 (mkF m 439 (Y47 p1 p2 p3 p4 bb o1 o2 o3 o4 o5 b2287 al u0 u1 u2 b2368 b2529 b2587 sel q) []) (s₁.setTop (entryFrame m #[(.int p1), (.int p2), (.int p3), (.int p4)] maxLocals)) := fun t kt => pre2626 t (by
        by_cases hc2627 : sel < (6 : Int32)
        case pos =>
          refine XS.icmpNo X2607.here hx rfl (hb hby at_386) rfl (tlt hc2627).2.1 ?_
          refine XS.aload X2607.here hx rfl (hb hby at_389) rfl rfl ?_
          refine XS.iload X2607.here hx rfl (hb hby at_391) rfl ?_
          refine X2607.caload hx (j := sel) (v := (.int qa)) A2625.1 (State.isArrayOf_alike hZ.alike A2625.2.1) A2625.2.2 (inb_of S2625 ⟨hsel0, hc2627⟩) (hqa hc2627).1 (g := (mkF m 393 (Y46 p1 p2 p3 p4 bb o1 o2 o3 o4 o5 b2287 al u0 u1 u2 b2368 b2529 b2587 sel) [(.int sel), (.ref b2287)])) rfl rfl (hb hby at_393) _ ?_
          refine XS.istore X2607.here hx rfl (hb hby at_394) rfl (l' := (Y47 p1 p2 p3 p4 bb o1 o2 o3 o4 o5 b2287 al u0 u1 u2 b2368 b2529 b2587 sel qa)) rfl ?_
          refine XS.goto X2607.here hx rfl (pc0 := 396) (pc' := 439) rfl (hb hby at_396) (by decide) (by decide) ?_
          rw [show q = qa from (hq.trans (if_pos hc2627))] at kt
          exact kt
        case neg =>
          refine XS.icmpYes X2607.here hx rfl (pc0 := 386) (pc' := 399) rfl (hb hby at_386) rfl (flt hc2627).2.1 (by decide) (by decide) ?_
          refine XS.iload X2607.here hx rfl (hb hby at_399) rfl ?_
          refine XS.bipush X2607.here hx rfl (hb hby at_401) ?_
          by_cases hc2628 : sel < (12 : Int32)
          case pos =>
            refine XS.icmpNo X2607.here hx rfl (hb hby at_403) rfl (tlt hc2628).2.1 ?_
            refine XS.iloadN X2607.here hx rfl (hb hby at_406) rfl ?_
            refine XS.bipush X2607.here hx rfl (hb hby at_407) ?_
            refine XS.iushr X2607.here hx rfl (hb hby at_409) rfl ?_
            refine X2607.ldcInt hx hown (mvT hZ (own_w hw 194 rfl)) (g := (mkF m 410 (Y46 p1 p2 p3 p4 bb o1 o2 o3 o4 o5 b2287 al u0 u1 u2 b2368 b2529 b2587 sel) [(.int ((p4.toUInt32 >>> ((8 : Int32) &&& 31).toUInt32).toInt32))])) rfl (hb hby at_410) _ ?_
            refine XS.iand X2607.here hx rfl (hb hby at_412) rfl ?_
            refine XS.sipush X2607.here hx rfl (hb hby at_413) ?_
            refine XS.ior X2607.here hx rfl (hb hby at_416) rfl ?_
            refine XS.aload X2607.here hx rfl (hb hby at_417) rfl rfl ?_
            refine XS.iload X2607.here hx rfl (hb hby at_419) rfl ?_
            refine XS.bipush X2607.here hx rfl (hb hby at_421) ?_
            refine XS.isub X2607.here hx rfl (hb hby at_423) rfl ?_
            refine X2607.caload hx (j := (sel - (6 : Int32))) (v := (.int qb)) A2625.1 (State.isArrayOf_alike hZ.alike A2625.2.1) A2625.2.2 (inb_of S2625 (own_s6 hc2627 hc2628)) (hqb hc2627 hc2628).1 (g := (mkF m 424 (Y46 p1 p2 p3 p4 bb o1 o2 o3 o4 o5 b2287 al u0 u1 u2 b2368 b2529 b2587 sel) [(.int (sel - (6 : Int32))), (.ref b2287), (.int ((((p4.toUInt32 >>> ((8 : Int32) &&& 31).toUInt32).toInt32) &&& (65280 : Int32)) ||| (128 : Int32)))])) rfl rfl (hb hby at_424) _ ?_
            refine XS.ior X2607.here hx rfl (hb hby at_425) rfl ?_
            refine XS.i2c X2607.here hx rfl (hb hby at_426) rfl ?_
            refine XS.istore X2607.here hx rfl (hb hby at_427) rfl (l' := (Y47 p1 p2 p3 p4 bb o1 o2 o3 o4 o5 b2287 al u0 u1 u2 b2368 b2529 b2587 sel ((((((p4.toUInt32 >>> ((8 : Int32) &&& 31).toUInt32).toInt32) &&& (65280 : Int32)) ||| (128 : Int32)) ||| qb).toUInt32.toUInt16.toUInt32.toInt32))) rfl ?_
            refine XS.goto X2607.here hx rfl (pc0 := 429) (pc' := 439) rfl (hb hby at_429) (by decide) (by decide) ?_
            rw [show q = ((((((p4.toUInt32 >>> ((8 : Int32) &&& 31).toUInt32).toInt32) &&& (65280 : Int32)) ||| (128 : Int32)) ||| qb).toUInt32.toUInt16.toUInt32.toInt32) from ((hq.trans (if_neg hc2627)).trans (if_pos hc2628))] at kt
            exact kt
          case neg =>
            refine XS.icmpYes X2607.here hx rfl (pc0 := 403) (pc' := 432) rfl (hb hby at_403) rfl (flt hc2628).2.1 (by decide) (by decide) ?_
            refine XS.iloadN X2607.here hx rfl (hb hby at_432) rfl ?_
            refine XS.bipush X2607.here hx rfl (hb hby at_433) ?_
            refine XS.iushr X2607.here hx rfl (hb hby at_435) rfl ?_
            refine XS.i2c X2607.here hx rfl (hb hby at_436) rfl ?_
            refine XS.istore X2607.here hx rfl (hb hby at_437) rfl (l' := (Y47 p1 p2 p3 p4 bb o1 o2 o3 o4 o5 b2287 al u0 u1 u2 b2368 b2529 b2587 sel (((p4.toUInt32 >>> ((16 : Int32) &&& 31).toUInt32).toInt32).toUInt32.toUInt16.toUInt32.toInt32))) rfl ?_
            rw [show q = (((p4.toUInt32 >>> ((16 : Int32) &&& 31).toUInt32).toInt32).toUInt32.toUInt16.toUInt32.toInt32) from ((hq.trans (if_neg hc2627)).trans (if_neg hc2628))] at kt
            exact kt)
      have hq0 : ¬ q < 0 := by
        rw [hq]; split
        · rename_i z; exact (hqa z).2
        · split <;> exact own_ch _
      have pre2630 : PQ p e below T2607 (mkF m 445 (Y47 p1 p2 p3 p4 bb o1 o2 o3 o4 o5 b2287 al u0 u1 u2 b2368 b2529 b2587 sel q) [(.int c0), (.int q)]) (s₁.setTop (entryFrame m #[(.int p1), (.int p2), (.int p3), (.int p4)] maxLocals)) := fun t kt => pre2629 t (by
        refine XS.iload X2607.here hx rfl (hb hby at_439) rfl ?_
        refine XS.aload X2607.here hx rfl (hb hby at_441) rfl rfl ?_
        refine XS.iconst X2607.here hx rfl (hb hby at_443) ?_
        refine X2607.caload hx (j := (0 : Int32)) (v := (.int c0)) A2625.1 (State.isArrayOf_alike hZ.alike A2625.2.1) A2625.2.2 (inb_of S2625 ⟨by decide, by decide⟩) hat2625_0 (g := (mkF m 444 (Y47 p1 p2 p3 p4 bb o1 o2 o3 o4 o5 b2287 al u0 u1 u2 b2368 b2529 b2587 sel q) [(.int (0 : Int32)), (.ref b2287), (.int q)])) rfl rfl (hb hby at_444) _ ?_
        exact kt)
      obtain ⟨ex, hex⟩ : ∃ z : Int32, z = (if q = c0 then (0 : Int32) else (if q = c1 then (1 : Int32) else (if q = c2 then (2 : Int32) else (if q = u0 then (0 : Int32) else (-1 : Int32))))) := ⟨_, rfl⟩
      have pre2635 : PQ p e below T2607 (mkF m 544 (Y48 p1 p2 p3 p4 bb o1 o2 o3 o4 o5 b2287 al u0 u1 u2 b2368 b2529 b2587 sel q ex) []) (s₁.setTop (entryFrame m #[(.int p1), (.int p2), (.int p3), (.int p4)] maxLocals)) := fun t kt => pre2630 t (by
        by_cases hc2631 : q = c0
        case pos =>
          refine XS.icmpNo X2607.here hx rfl (hb hby at_445) rfl (teq hc2631).2 ?_
          refine XS.iconst X2607.here hx rfl (hb hby at_448) ?_
          refine XS.istore X2607.here hx rfl (hb hby at_449) rfl (l' := (Y48 p1 p2 p3 p4 bb o1 o2 o3 o4 o5 b2287 al u0 u1 u2 b2368 b2529 b2587 sel q 0)) rfl ?_
          refine XS.goto X2607.here hx rfl (pc0 := 451) (pc' := 544) rfl (hb hby at_451) (by decide) (by decide) ?_
          rw [show ex = (0 : Int32) from (hex.trans (if_pos hc2631))] at kt
          exact kt
        case neg =>
          refine XS.icmpYes X2607.here hx rfl (pc0 := 445) (pc' := 454) rfl (hb hby at_445) rfl (feq hc2631).2 (by decide) (by decide) ?_
          refine XS.iload X2607.here hx rfl (hb hby at_454) rfl ?_
          refine XS.aload X2607.here hx rfl (hb hby at_456) rfl rfl ?_
          refine XS.iconst X2607.here hx rfl (hb hby at_458) ?_
          refine X2607.caload hx (j := (1 : Int32)) (v := (.int c1)) A2625.1 (State.isArrayOf_alike hZ.alike A2625.2.1) A2625.2.2 (inb_of S2625 ⟨by decide, by decide⟩) hat2625_1 (g := (mkF m 459 (Y47 p1 p2 p3 p4 bb o1 o2 o3 o4 o5 b2287 al u0 u1 u2 b2368 b2529 b2587 sel q) [(.int (1 : Int32)), (.ref b2287), (.int q)])) rfl rfl (hb hby at_459) _ ?_
          by_cases hc2632 : q = c1
          case pos =>
            refine XS.icmpNo X2607.here hx rfl (hb hby at_460) rfl (teq hc2632).2 ?_
            refine XS.iconst X2607.here hx rfl (hb hby at_463) ?_
            refine XS.istore X2607.here hx rfl (hb hby at_464) rfl (l' := (Y48 p1 p2 p3 p4 bb o1 o2 o3 o4 o5 b2287 al u0 u1 u2 b2368 b2529 b2587 sel q 1)) rfl ?_
            refine XS.goto X2607.here hx rfl (pc0 := 466) (pc' := 544) rfl (hb hby at_466) (by decide) (by decide) ?_
            rw [show ex = (1 : Int32) from ((hex.trans (if_neg hc2631)).trans (if_pos hc2632))] at kt
            exact kt
          case neg =>
            refine XS.icmpYes X2607.here hx rfl (pc0 := 460) (pc' := 469) rfl (hb hby at_460) rfl (feq hc2632).2 (by decide) (by decide) ?_
            refine XS.iload X2607.here hx rfl (hb hby at_469) rfl ?_
            refine XS.aload X2607.here hx rfl (hb hby at_471) rfl rfl ?_
            refine XS.iconst X2607.here hx rfl (hb hby at_473) ?_
            refine X2607.caload hx (j := (2 : Int32)) (v := (.int c2)) A2625.1 (State.isArrayOf_alike hZ.alike A2625.2.1) A2625.2.2 (inb_of S2625 ⟨by decide, by decide⟩) hat2625_2 (g := (mkF m 474 (Y47 p1 p2 p3 p4 bb o1 o2 o3 o4 o5 b2287 al u0 u1 u2 b2368 b2529 b2587 sel q) [(.int (2 : Int32)), (.ref b2287), (.int q)])) rfl rfl (hb hby at_474) _ ?_
            by_cases hc2633 : q = c2
            case pos =>
              refine XS.icmpNo X2607.here hx rfl (hb hby at_475) rfl (teq hc2633).2 ?_
              refine XS.iconst X2607.here hx rfl (hb hby at_478) ?_
              refine XS.istore X2607.here hx rfl (hb hby at_479) rfl (l' := (Y48 p1 p2 p3 p4 bb o1 o2 o3 o4 o5 b2287 al u0 u1 u2 b2368 b2529 b2587 sel q 2)) rfl ?_
              refine XS.goto X2607.here hx rfl (pc0 := 481) (pc' := 544) rfl (hb hby at_481) (by decide) (by decide) ?_
              rw [show ex = (2 : Int32) from (((hex.trans (if_neg hc2631)).trans (if_neg hc2632)).trans (if_pos hc2633))] at kt
              exact kt
            case neg =>
              refine XS.icmpYes X2607.here hx rfl (pc0 := 475) (pc' := 484) rfl (hb hby at_475) rfl (feq hc2633).2 (by decide) (by decide) ?_
              refine XS.iload X2607.here hx rfl (hb hby at_484) rfl ?_
              refine XS.iconst X2607.here hx rfl (hb hby at_486) ?_
              refine XS.icmpNo X2607.here hx rfl (hb hby at_487) rfl (flt la1).1 ?_
              refine XS.iload X2607.here hx rfl (hb hby at_490) rfl ?_
              refine XS.iload X2607.here hx rfl (hb hby at_492) rfl ?_
              by_cases hc2634 : q = u0
              case pos =>
                refine XS.icmpNo X2607.here hx rfl (hb hby at_494) rfl (teq hc2634).2 ?_
                refine XS.iconst X2607.here hx rfl (hb hby at_497) ?_
                refine XS.istore X2607.here hx rfl (hb hby at_498) rfl (l' := (Y48 p1 p2 p3 p4 bb o1 o2 o3 o4 o5 b2287 al u0 u1 u2 b2368 b2529 b2587 sel q 0)) rfl ?_
                refine XS.goto X2607.here hx rfl (pc0 := 500) (pc' := 544) rfl (hb hby at_500) (by decide) (by decide) ?_
                rw [show ex = (0 : Int32) from ((((hex.trans (if_neg hc2631)).trans (if_neg hc2632)).trans (if_neg hc2633)).trans (if_pos hc2634))] at kt
                exact kt
              case neg =>
                refine XS.icmpYes X2607.here hx rfl (pc0 := 494) (pc' := 503) rfl (hb hby at_494) rfl (feq hc2634).2 (by decide) (by decide) ?_
                refine XS.iload X2607.here hx rfl (hb hby at_503) rfl ?_
                refine XS.iconst X2607.here hx rfl (hb hby at_505) ?_
                refine XS.icmpYes X2607.here hx rfl (pc0 := 506) (pc' := 522) rfl (hb hby at_506) rfl (tlt la2).1 (by decide) (by decide) ?_
                refine XS.iload X2607.here hx rfl (hb hby at_522) rfl ?_
                refine XS.iconst X2607.here hx rfl (hb hby at_524) ?_
                refine XS.icmpYes X2607.here hx rfl (pc0 := 525) (pc' := 541) rfl (hb hby at_525) rfl (tlt la3).1 (by decide) (by decide) ?_
                refine XS.iconst X2607.here hx rfl (hb hby at_541) ?_
                refine XS.istore X2607.here hx rfl (hb hby at_542) rfl (l' := (Y48 p1 p2 p3 p4 bb o1 o2 o3 o4 o5 b2287 al u0 u1 u2 b2368 b2529 b2587 sel q (-1))) rfl ?_
                rw [show ex = (-1 : Int32) from ((((hex.trans (if_neg hc2631)).trans (if_neg hc2632)).trans (if_neg hc2633)).trans (if_neg hc2634))] at kt
                exact kt)
      obtain ⟨_, T2636, L2636, X2636, N2636, ⟨_, rfl, -, e2636⟩, st2636⟩ := own_cV X2607 hx hZ hown (own_k_599 hw) (rmVo hw b2587 r2607 q (own_al (own_sy c0 c1 c2) u0 c0 (0 : Int32)) z2608 Fv2607 I2607 hq0) (W := 0) (k := 13) (n := 180) (by decide) rfl N2607 (fun _ _ _ h => h.2.1) c2620 (Ls := (Y48 p1 p2 p3 p4 bb o1 o2 o3 o4 o5 b2287 al u0 u1 u2 b2368 b2529 b2587 sel q ex)) (rest := []) hml.symm (lenOf pd_600 rfl) (Nat.le_of_eq rfl) (hb hby at_548)
      have hfin : (if q < (128 : Int32) then (own_al (own_sy c0 c1 c2) u0 c0 (0 : Int32)) q else (-1 : Int32)) = ex := own_fin1 c0 c1 c2 u0 q ex hex hpc0 hpc1 hpc2 hpu0 d10 d20 d21  f01 f02
      have pre2637 : PQ p e below T2636 (mkF m 561 (Y48 p1 p2 p3 p4 bb o1 o2 o3 o4 o5 b2287 al u0 u1 u2 b2368 b2529 b2587 sel q ex) [(.int (1 : Int32))]) (s₁.setTop (entryFrame m #[(.int p1), (.int p2), (.int p3), (.int p4)] maxLocals)) := fun t kt => pre2635 t (by
        refine XS.aload X2607.here hx rfl (hb hby at_544) rfl rfl ?_
        refine XS.iload X2607.here hx rfl (hb hby at_546) rfl ?_
        refine st2636.trans ?_
        refine XS.iload X2636.here hx rfl (hb hby at_551) rfl ?_
        refine XS.icmpNo X2636.here hx rfl (hb hby at_553) rfl (teq hfin).2 ?_
        refine XS.iconst X2636.here hx rfl (hb hby at_556) ?_
        refine XS.goto X2636.here hx rfl (pc0 := 557) (pc' := 561) rfl (hb hby at_557) (by decide) (by decide) ?_
        exact kt)
      exact own_retNW (s := s) (vm₁ := s.vm) X2636 ((State.WarmedH.refl s).since 0) (Nat.zero_le _) hx Bd.notSynchronized (t := .boolean) Bd.returns (by simp) (hb hby at_561) pre2637 (show Q0 h0 n0 _ _ _ from ⟨rfl, N2636⟩) (by decide) (by decide)
    case neg =>
      have pre2638 : PQ p e below T2420 (mkF m 308 (Y43 p1 p2 p3 p4 bb o1 o2 o3 o4 o5 b2287 al u0 u1 u2 b2368) [(.int (2 : Int32)), (.int al)]) (s₁.setTop (entryFrame m #[(.int p1), (.int p2), (.int p3), (.int p4)] maxLocals)) := fun t kt => pre2527 t (by
        refine XS.icmpYes X2420.here hx rfl (pc0 := 282) (pc' := 305) rfl (hb hby at_282) rfl (feq hc2528).2 (by decide) (by decide) ?_
        refine XS.iload X2420.here hx rfl (hb hby at_305) rfl ?_
        refine XS.iconst X2420.here hx rfl (hb hby at_307) ?_
        exact kt)
      by_cases hc2639 : al = (2 : Int32)
      case pos =>
        have hk : al = (2 : Int32) := hc2639
        obtain ⟨T2640, h2640, X2640, e2640, E2640, A2640, D2640, -, st2640⟩ := newO X2420 hx hZ hown (own_w hw 6 rfl) (own_w hw 7 rfl) (own_w hw 8 rfl) rfl (g := (mkF m 311 (Y43 p1 p2 p3 p4 bb o1 o2 o3 o4 o5 b2287 al u0 u1 u2 b2368) [])) rfl (hb hby at_311) (by decide) (by decide)
        obtain ⟨b2640, g2640⟩ : ∃ z, z = T2420.heap.size := ⟨_, rfl⟩
        rw [← g2640] at A2640 D2640 st2640
        have G2640 : n0 ≤ b2640 := Nat.le_trans z2421 (Nat.le_of_eq g2640.symm)
        have ne2641 : b2287 ≠ b2640 := Nat.ne_of_lt (Nat.lt_of_lt_of_le c2424.lt (Nat.le_of_eq g2640.symm))
        have ne2642 : b2368 ≠ b2640 := Nat.ne_of_lt (Nat.lt_of_lt_of_le c2425.lt (Nat.le_of_eq g2640.symm))
        have ne2643 : r2420 ≠ b2640 := Nat.ne_of_lt (Nat.lt_of_lt_of_le V2420.lt (Nat.le_of_eq g2640.symm))
        have c2645 := c2423.ext E2640
        have c2646 := c2424.ext E2640
        have c2647 := c2425.ext E2640
        have c2648 := Fc2420.ext E2640
        have c2649 := Fv2420.ext E2640
        have c2650 := V2420.ext E2640
        have F2651 : Fa Z h2640 b2640 (.int (0 : Int32)) := D2640 (Or.inr (own_w hw 32 rfl)) (ty := .byte) (by decide)
        have F2652 : Fb Z h2640 b2640 .null := D2640 (Or.inr (own_w hw 34 rfl)) (ty := (.array .byte)) (by decide)
        have z2653 : n0 ≤ h2640.size := Nat.le_trans z2421 E2640.1
        obtain ⟨T2654, h2654, k2654, X2654, e2654, E2654, A2654, st2654⟩ := newP X2640 hx hZ (own_w hw 1 rfl) e2640 (g := (mkF m 316 (Y43 p1 p2 p3 p4 bb o1 o2 o3 o4 o5 b2287 al u0 u1 u2 b2368) [(.int (2 : Int32)), (.ref b2640), (.ref b2640)])) rfl (hb hby at_316) rfl (by decide) (cap := 2) (by decide) (by decide) (by decide) (by decide)
        obtain ⟨b2654, g2654⟩ : ∃ z, z = h2640.size := ⟨_, rfl⟩
        rw [← g2654] at A2654 st2654
        have G2654 : n0 ≤ b2654 := Nat.le_trans z2653 (Nat.le_of_eq g2654.symm)
        have ne2655 : b2287 ≠ b2654 := Nat.ne_of_lt (Nat.lt_of_lt_of_le c2646.lt (Nat.le_of_eq g2654.symm))
        have ne2656 : b2368 ≠ b2654 := Nat.ne_of_lt (Nat.lt_of_lt_of_le c2647.lt (Nat.le_of_eq g2654.symm))
        have ne2657 : r2420 ≠ b2654 := Nat.ne_of_lt (Nat.lt_of_lt_of_le c2650.lt (Nat.le_of_eq g2654.symm))
        have ne2658 : b2640 ≠ b2654 := Nat.ne_of_lt (Nat.lt_of_lt_of_le A2640.lt (Nat.le_of_eq g2654.symm))
        have c2660 := c2645.ext E2654
        have c2661 := c2646.ext E2654
        have c2662 := c2647.ext E2654
        have c2663 := c2648.ext E2654
        have c2664 := c2649.ext E2654
        have c2665 := c2650.ext E2654
        have c2666 := A2640.ext E2654
        have c2667 := F2651.ext E2654
        have c2668 := F2652.ext E2654
        have z2669 : n0 ≤ h2654.size := Nat.le_trans z2653 E2654.1
        have V2654 : Arv Z h2654 b2654 k2654 .char (2 : Int32) [(.int (0 : Int32)), o0] (.int (0 : Int32)) := (Arv.new A2654 (by decide)).pad (pad_rep [] (.int (0 : Int32)) 2)
        obtain ⟨cl2670, Ar2670, q2670, S2670, M2670, H2670, J2670⟩ := id V2654
        have hin2670 : ¬ ((0 : Int32) < 0 ∨ cl2670.slots.size ≤ ((0 : Int32)).toNatClampNeg) := inb_of S2670 ⟨by decide, by decide⟩
        obtain ⟨T2671, h2671, X2671, e2671, W2671, st2671⟩ := stC X2654 hx hZ e2654 Ar2670 (j := (0 : Int32)) hin2670 (g := (mkF m 322 (Y43 p1 p2 p3 p4 bb o1 o2 o3 o4 o5 b2287 al u0 u1 u2 b2368) [(.int u0), o0, (.ref b2654), (.ref b2654), (.ref b2640), (.ref b2640)])) rfl rfl (hb hby at_322)
        have V2671 : Arv Z h2671 b2654 k2654 .char (2 : Int32) [(.int (nar .char u0)), o0] (.int (0 : Int32)) := Arv.set Ar2670 q2670 S2670 M2670 H2670 J2670 (fits_nar_char _) W2671 0 rfl (Nat.le_of_ble_eq_true rfl)
        have N2671 := Fr.snoc X2671 N2420 G2654
        have z2672 : n0 ≤ h2671.size := Nat.le_trans z2669 (Keep.of_wr W2671).1
        have c2674 := c2660.wr W2671 G2654
        have c2675 := c2661.other W2671 ne2655
        have c2676 := c2662.wr W2671
        have c2677 := c2663.other W2671 (Or.inl ne2656)
        have c2678 := c2664.other W2671 (Or.inl ne2656)
        have c2679 := c2665.other W2671 ne2657
        have c2680 := c2666.wr W2671
        have c2681 := c2667.other W2671 (Or.inl ne2658)
        have c2682 := c2668.other W2671 (Or.inl ne2658)
        obtain ⟨cl2684, Ar2684, q2684, S2684, M2684, H2684, J2684⟩ := id V2671
        have hin2684 : ¬ ((1 : Int32) < 0 ∨ cl2684.slots.size ≤ ((1 : Int32)).toNatClampNeg) := inb_of S2684 ⟨by decide, by decide⟩
        obtain ⟨T2685, h2685, X2685, e2685, W2685, st2685⟩ := stC X2671 hx hZ e2671 Ar2684 (j := (1 : Int32)) hin2684 (g := (mkF m 327 (Y43 p1 p2 p3 p4 bb o1 o2 o3 o4 o5 b2287 al u0 u1 u2 b2368) [(.int u1), (.int (1 : Int32)), (.ref b2654), (.ref b2654), (.ref b2640), (.ref b2640)])) rfl rfl (hb hby at_327)
        have V2685 : Arv Z h2685 b2654 k2654 .char (2 : Int32) [(.int (nar .char u0)), (.int (nar .char u1))] (.int (0 : Int32)) := Arv.set Ar2684 q2684 S2684 M2684 H2684 J2684 (fits_nar_char _) W2685 1 rfl (Nat.le_of_ble_eq_true rfl)
        have N2685 := Fr.snoc X2685 N2671 G2654
        have z2686 : n0 ≤ h2685.size := Nat.le_trans z2672 (Keep.of_wr W2685).1
        have c2688 := c2674.wr W2685 G2654
        have c2689 := c2675.other W2685 ne2655
        have c2690 := c2676.wr W2685
        have c2691 := c2677.other W2685 (Or.inl ne2656)
        have c2692 := c2678.other W2685 (Or.inl ne2656)
        have c2693 := c2679.other W2685 ne2657
        have c2694 := c2680.wr W2685
        have c2695 := c2681.other W2685 (Or.inl ne2658)
        have c2696 := c2682.other W2685 (Or.inl ne2658)
        have V2698 : Arv Z h2685 b2654 k2654 .char (2 : Int32) [(.int u0), (.int u1)] (.int (0 : Int32)) := by
          have q := V2685
          rw [hpu0.2.2.1, hpu1.2.2.1] at q
          exact q
        obtain ⟨_, T2699, L2699, X2699, N2699, ⟨_, r2699, kc2699, rfl, -, K2699, Fc2699, Fv2699, V2699⟩, st2699⟩ := own_cI X2685 hx hZ hown (own_k_595 hw) (rmSi2 hw b2640 b2654 k2654 u0 u1 z2686 c2688 c2694 c2695 c2696 G2640 V2698 hpu0 hpu1) (W := 1) (k := 7) (n := 24) (by decide) e2685 N2685 (fun _ _ _ ⟨_, _, _, h, _⟩ => h) (Ls := (Y43 p1 p2 p3 p4 bb o1 o2 o3 o4 o5 b2287 al u0 u1 u2 b2368)) (rest := [(.ref b2640)]) hml.symm (lenOf pd_596 rfl) (Nat.le_of_eq rfl) (hb hby at_328)
        have z2700 : n0 ≤ T2699.heap.size := Nat.le_trans z2686 K2699.1
        have c2702 := c2688.keep K2699 (allS G2640 all0)
        have c2703 := c2689.keep K2699 (ninS ne2641 nin0)
        have c2704 := c2690.keep K2699
        have c2705 := c2691.keep K2699 (ninS ne2642 nin0)
        have c2706 := c2692.keep K2699 (ninS ne2642 nin0)
        have c2707 := c2693.keep K2699 (ninS ne2643 nin0)
        have c2708 := c2694.keep K2699
        have la1 : ¬ (al < (1 : Int32)) := by rw [hk]; decide
        have la2 : ¬ (al < (2 : Int32)) := by rw [hk]; decide
        have la3 : al < (3 : Int32) := by rw [hk]; decide
        obtain ⟨T2712, h2712, X2712, e2712, E2712, A2712, D2712, -, st2712⟩ := newO X2699 hx hZ hown (own_w hw 35 rfl) (own_w hw 36 rfl) (own_w hw 37 rfl) rfl (g := (mkF m 363 (Y44 p1 p2 p3 p4 bb o1 o2 o3 o4 o5 b2287 al u0 u1 u2 b2368 b2640) [])) rfl (hb hby at_363) (by decide) (by decide)
        obtain ⟨b2712, g2712⟩ : ∃ z, z = T2699.heap.size := ⟨_, rfl⟩
        rw [← g2712] at A2712 D2712 st2712
        have G2712 : n0 ≤ b2712 := Nat.le_trans z2700 (Nat.le_of_eq g2712.symm)
        have ne2713 : b2287 ≠ b2712 := Nat.ne_of_lt (Nat.lt_of_lt_of_le c2703.lt (Nat.le_of_eq g2712.symm))
        have ne2714 : b2368 ≠ b2712 := Nat.ne_of_lt (Nat.lt_of_lt_of_le c2704.lt (Nat.le_of_eq g2712.symm))
        have ne2715 : r2420 ≠ b2712 := Nat.ne_of_lt (Nat.lt_of_lt_of_le c2707.lt (Nat.le_of_eq g2712.symm))
        have ne2716 : b2640 ≠ b2712 := Nat.ne_of_lt (Nat.lt_of_lt_of_le c2708.lt (Nat.le_of_eq g2712.symm))
        have ne2717 : r2699 ≠ b2712 := Nat.ne_of_lt (Nat.lt_of_lt_of_le V2699.lt (Nat.le_of_eq g2712.symm))
        have c2719 := c2702.ext E2712
        have c2720 := c2703.ext E2712
        have c2721 := c2704.ext E2712
        have c2722 := c2705.ext E2712
        have c2723 := c2706.ext E2712
        have c2724 := c2707.ext E2712
        have c2725 := c2708.ext E2712
        have c2726 := Fc2699.ext E2712
        have c2727 := Fv2699.ext E2712
        have c2728 := V2699.ext E2712
        have F2729 : Fg Z h2712 b2712 .null := D2712 (Or.inr (own_w hw 183 rfl)) (ty := (.object "java/lang/String")) (by decide)
        have F2730 : Ff Z h2712 b2712 .null := D2712 (Or.inr (own_w hw 185 rfl)) (ty := (.array .int)) (by decide)
        have z2731 : n0 ≤ h2712.size := Nat.le_trans z2700 E2712.1
        obtain ⟨_, T2732, L2732, X2732, N2732, ⟨_, r2732, rfl, -, K2732, Fv2732, I2732⟩, st2732⟩ := own_cI X2712 hx hZ hown (own_k_597 hw) (rmAl2 hw b2712 b2368 r2420 kc2420 b2640 r2699 kc2699 c0 c1 c2 u0 u1 z2731 c2719 A2712 F2729 F2730 G2712 c2721 c2722 c2723 c2724 c2725 c2726 c2727 c2728 hpc0 hpc1 hpc2 hpu0 hpu1 d10 d20 d21 e10 f01 f02 f10 f12 ne2714 ne2715 ne2716 ne2717) (W := 1) (k := 13) (n := 183) (by decide) e2712 N2699 (fun _ _ _ ⟨_, _, h, _⟩ => h) (Ls := (Y44 p1 p2 p3 p4 bb o1 o2 o3 o4 o5 b2287 al u0 u1 u2 b2368 b2640)) (rest := [(.ref b2712)]) hml.symm (lenOf pd_598 rfl) (Nat.le_of_eq rfl) (hb hby at_371)
        have z2733 : n0 ≤ T2732.heap.size := Nat.le_trans z2731 K2732.1
        have c2736 := c2720.keep K2732 (ninS ne2713 nin0)
        have c2745 := A2712.keep K2732
        have pre2748 : PQ p e below T2732 (mkF m 380 (Y45 p1 p2 p3 p4 bb o1 o2 o3 o4 o5 b2287 al u0 u1 u2 b2368 b2640 b2712) [(.int (p4 &&& (15 : Int32)))]) (s₁.setTop (entryFrame m #[(.int p1), (.int p2), (.int p3), (.int p4)] maxLocals)) := fun t kt => pre2638 t (by
          refine XS.icmpNo X2420.here hx rfl (hb hby at_308) rfl (teq hc2639).2 ?_
          refine st2640 _ ?_
          refine XS.dup X2640.here hx rfl (hb hby at_314) rfl rfl ?_
          refine XS.iconst X2640.here hx rfl (hb hby at_315) ?_
          refine st2654 _ ?_
          refine XS.dup X2654.here hx rfl (hb hby at_318) rfl rfl ?_
          refine XS.iconst X2654.here hx rfl (hb hby at_319) ?_
          refine XS.iload X2654.here hx rfl (hb hby at_320) rfl ?_
          refine st2671 _ ?_
          refine XS.dup X2671.here hx rfl (hb hby at_323) rfl rfl ?_
          refine XS.iconst X2671.here hx rfl (hb hby at_324) ?_
          refine XS.iload X2671.here hx rfl (hb hby at_325) rfl ?_
          refine st2685 _ ?_
          refine st2699.trans ?_
          refine XS.astore X2699.here hx rfl (hb hby at_331) rfl rfl (l' := (Y44 p1 p2 p3 p4 bb o1 o2 o3 o4 o5 b2287 al u0 u1 u2 b2368 b2640)) rfl ?_
          refine XS.goto X2699.here hx rfl (pc0 := 333) (pc' := 363) rfl (hb hby at_333) (by decide) (by decide) ?_
          refine st2712 _ ?_
          refine XS.dup X2712.here hx rfl (hb hby at_366) rfl rfl ?_
          refine XS.aload X2712.here hx rfl (hb hby at_367) rfl rfl ?_
          refine XS.aload X2712.here hx rfl (hb hby at_369) rfl rfl ?_
          refine st2732.trans ?_
          refine XS.astore X2732.here hx rfl (hb hby at_374) rfl rfl (l' := (Y45 p1 p2 p3 p4 bb o1 o2 o3 o4 o5 b2287 al u0 u1 u2 b2368 b2640 b2712)) rfl ?_
          refine XS.iloadN X2732.here hx rfl (hb hby at_376) rfl ?_
          refine XS.bipush X2732.here hx rfl (hb hby at_377) ?_
          refine XS.iand X2732.here hx rfl (hb hby at_379) rfl ?_
          exact kt)
        obtain ⟨sel, hsel⟩ : ∃ z : Int32, z = (p4 &&& (15 : Int32)) := ⟨_, rfl⟩
        have pre2749 : PQ p e below T2732 (mkF m 380 (Y45 p1 p2 p3 p4 bb o1 o2 o3 o4 o5 b2287 al u0 u1 u2 b2368 b2640 b2712) [(.int sel)]) (s₁.setTop (entryFrame m #[(.int p1), (.int p2), (.int p3), (.int p4)] maxLocals)) := by rw [hsel]; exact pre2748
        have hsel0 : ¬ sel < 0 := by rw [hsel]; exact own_n15 _
        obtain ⟨cl2750, A2750, q2750, S2750, M2750, H2750, J2750⟩ := id c2736
        have hat2750_0 : cl2750.slots[((0 : Int32)).toNatClampNeg]? = some (.int c0) := H2750.at (inb_of S2750 ⟨by decide, by decide⟩) rfl
        have hat2750_1 : cl2750.slots[((1 : Int32)).toNatClampNeg]? = some (.int c1) := H2750.at (inb_of S2750 ⟨by decide, by decide⟩) rfl
        have hat2750_2 : cl2750.slots[((2 : Int32)).toNatClampNeg]? = some (.int c2) := H2750.at (inb_of S2750 ⟨by decide, by decide⟩) rfl
        have gg : ∀ z, z = c0 ∨ z = c1 ∨ z = c2 ∨ z = c3 ∨ z = c4 ∨ z = c5 → ¬ z < 0 := by
          rintro z (rfl | rfl | rfl | rfl | rfl | rfl)
          · exact hpc0.2.2.2.2.2.2.2.2.1
          · exact hpc1.2.2.2.2.2.2.2.2.1
          · exact hpc2.2.2.2.2.2.2.2.2.1
          · exact hpc3.2.2.2.2.2.2.2.2.1
          · exact hpc4.2.2.2.2.2.2.2.2.1
          · exact hpc5.2.2.2.2.2.2.2.2.1
        obtain ⟨qa, hqa⟩ : ∃ z : Int32, sel < (6 : Int32) → (cl2750.slots[(sel).toNatClampNeg]? = some (.int z) ∧ ¬ z < 0) := by
          by_cases q : sel < (6 : Int32)
          · obtain ⟨z, hz⟩ := own_at6 H2750 S2750 hsel0 q gg; exact ⟨z, fun _ => hz⟩
          · exact ⟨0, fun z => absurd z q⟩
        obtain ⟨qb, hqb⟩ : ∃ z : Int32, ¬ sel < (6 : Int32) → sel < (12 : Int32) → (cl2750.slots[(sel - (6 : Int32)).toNatClampNeg]? = some (.int z) ∧ ¬ z < 0) := by
          by_cases q : ¬ sel < (6 : Int32) ∧ sel < (12 : Int32)
          · obtain ⟨z, hz⟩ := own_at6 H2750 S2750 (own_s6 q.1 q.2).1 (own_s6 q.1 q.2).2 gg; exact ⟨z, fun _ _ => hz⟩
          · exact ⟨0, fun z y => absurd ⟨z, y⟩ q⟩
        have pre2751 : PQ p e below T2732 (mkF m 386 (Y46 p1 p2 p3 p4 bb o1 o2 o3 o4 o5 b2287 al u0 u1 u2 b2368 b2640 b2712 sel) [(.int (6 : Int32)), (.int sel)]) (s₁.setTop (entryFrame m #[(.int p1), (.int p2), (.int p3), (.int p4)] maxLocals)) := fun t kt => pre2749 t (by
          refine XS.istore X2732.here hx rfl (hb hby at_380) rfl (l' := (Y46 p1 p2 p3 p4 bb o1 o2 o3 o4 o5 b2287 al u0 u1 u2 b2368 b2640 b2712 sel)) rfl ?_
          refine XS.iload X2732.here hx rfl (hb hby at_382) rfl ?_
          refine XS.bipush X2732.here hx rfl (hb hby at_384) ?_
          exact kt)
        obtain ⟨q, hq⟩ : ∃ z : Int32, z = (if sel < (6 : Int32) then qa else (if sel < (12 : Int32) then ((((((p4.toUInt32 >>> ((8 : Int32) &&& 31).toUInt32).toInt32) &&& (65280 : Int32)) ||| (128 : Int32)) ||| qb).toUInt32.toUInt16.toUInt32.toInt32) else (((p4.toUInt32 >>> ((16 : Int32) &&& 31).toUInt32).toInt32).toUInt32.toUInt16.toUInt32.toInt32))) := ⟨_, rfl⟩
        have pre2754 : PQ p e below T2732 (mkF m 439 (Y47 p1 p2 p3 p4 bb o1 o2 o3 o4 o5 b2287 al u0 u1 u2 b2368 b2640 b2712 sel q) []) (s₁.setTop (entryFrame m #[(.int p1), (.int p2), (.int p3), (.int p4)] maxLocals)) := fun t kt => pre2751 t (by
          by_cases hc2752 : sel < (6 : Int32)
          case pos =>
            refine XS.icmpNo X2732.here hx rfl (hb hby at_386) rfl (tlt hc2752).2.1 ?_
            refine XS.aload X2732.here hx rfl (hb hby at_389) rfl rfl ?_
            refine XS.iload X2732.here hx rfl (hb hby at_391) rfl ?_
            refine X2732.caload hx (j := sel) (v := (.int qa)) A2750.1 (State.isArrayOf_alike hZ.alike A2750.2.1) A2750.2.2 (inb_of S2750 ⟨hsel0, hc2752⟩) (hqa hc2752).1 (g := (mkF m 393 (Y46 p1 p2 p3 p4 bb o1 o2 o3 o4 o5 b2287 al u0 u1 u2 b2368 b2640 b2712 sel) [(.int sel), (.ref b2287)])) rfl rfl (hb hby at_393) _ ?_
            refine XS.istore X2732.here hx rfl (hb hby at_394) rfl (l' := (Y47 p1 p2 p3 p4 bb o1 o2 o3 o4 o5 b2287 al u0 u1 u2 b2368 b2640 b2712 sel qa)) rfl ?_
            refine XS.goto X2732.here hx rfl (pc0 := 396) (pc' := 439) rfl (hb hby at_396) (by decide) (by decide) ?_
            rw [show q = qa from (hq.trans (if_pos hc2752))] at kt
            exact kt
          case neg =>
            refine XS.icmpYes X2732.here hx rfl (pc0 := 386) (pc' := 399) rfl (hb hby at_386) rfl (flt hc2752).2.1 (by decide) (by decide) ?_
            refine XS.iload X2732.here hx rfl (hb hby at_399) rfl ?_
            refine XS.bipush X2732.here hx rfl (hb hby at_401) ?_
            by_cases hc2753 : sel < (12 : Int32)
            case pos =>
              refine XS.icmpNo X2732.here hx rfl (hb hby at_403) rfl (tlt hc2753).2.1 ?_
              refine XS.iloadN X2732.here hx rfl (hb hby at_406) rfl ?_
              refine XS.bipush X2732.here hx rfl (hb hby at_407) ?_
              refine XS.iushr X2732.here hx rfl (hb hby at_409) rfl ?_
              refine X2732.ldcInt hx hown (mvT hZ (own_w hw 194 rfl)) (g := (mkF m 410 (Y46 p1 p2 p3 p4 bb o1 o2 o3 o4 o5 b2287 al u0 u1 u2 b2368 b2640 b2712 sel) [(.int ((p4.toUInt32 >>> ((8 : Int32) &&& 31).toUInt32).toInt32))])) rfl (hb hby at_410) _ ?_
              refine XS.iand X2732.here hx rfl (hb hby at_412) rfl ?_
              refine XS.sipush X2732.here hx rfl (hb hby at_413) ?_
              refine XS.ior X2732.here hx rfl (hb hby at_416) rfl ?_
              refine XS.aload X2732.here hx rfl (hb hby at_417) rfl rfl ?_
              refine XS.iload X2732.here hx rfl (hb hby at_419) rfl ?_
              refine XS.bipush X2732.here hx rfl (hb hby at_421) ?_
              refine XS.isub X2732.here hx rfl (hb hby at_423) rfl ?_
              refine X2732.caload hx (j := (sel - (6 : Int32))) (v := (.int qb)) A2750.1 (State.isArrayOf_alike hZ.alike A2750.2.1) A2750.2.2 (inb_of S2750 (own_s6 hc2752 hc2753)) (hqb hc2752 hc2753).1 (g := (mkF m 424 (Y46 p1 p2 p3 p4 bb o1 o2 o3 o4 o5 b2287 al u0 u1 u2 b2368 b2640 b2712 sel) [(.int (sel - (6 : Int32))), (.ref b2287), (.int ((((p4.toUInt32 >>> ((8 : Int32) &&& 31).toUInt32).toInt32) &&& (65280 : Int32)) ||| (128 : Int32)))])) rfl rfl (hb hby at_424) _ ?_
              refine XS.ior X2732.here hx rfl (hb hby at_425) rfl ?_
              refine XS.i2c X2732.here hx rfl (hb hby at_426) rfl ?_
              refine XS.istore X2732.here hx rfl (hb hby at_427) rfl (l' := (Y47 p1 p2 p3 p4 bb o1 o2 o3 o4 o5 b2287 al u0 u1 u2 b2368 b2640 b2712 sel ((((((p4.toUInt32 >>> ((8 : Int32) &&& 31).toUInt32).toInt32) &&& (65280 : Int32)) ||| (128 : Int32)) ||| qb).toUInt32.toUInt16.toUInt32.toInt32))) rfl ?_
              refine XS.goto X2732.here hx rfl (pc0 := 429) (pc' := 439) rfl (hb hby at_429) (by decide) (by decide) ?_
              rw [show q = ((((((p4.toUInt32 >>> ((8 : Int32) &&& 31).toUInt32).toInt32) &&& (65280 : Int32)) ||| (128 : Int32)) ||| qb).toUInt32.toUInt16.toUInt32.toInt32) from ((hq.trans (if_neg hc2752)).trans (if_pos hc2753))] at kt
              exact kt
            case neg =>
              refine XS.icmpYes X2732.here hx rfl (pc0 := 403) (pc' := 432) rfl (hb hby at_403) rfl (flt hc2753).2.1 (by decide) (by decide) ?_
              refine XS.iloadN X2732.here hx rfl (hb hby at_432) rfl ?_
              refine XS.bipush X2732.here hx rfl (hb hby at_433) ?_
              refine XS.iushr X2732.here hx rfl (hb hby at_435) rfl ?_
              refine XS.i2c X2732.here hx rfl (hb hby at_436) rfl ?_
              refine XS.istore X2732.here hx rfl (hb hby at_437) rfl (l' := (Y47 p1 p2 p3 p4 bb o1 o2 o3 o4 o5 b2287 al u0 u1 u2 b2368 b2640 b2712 sel (((p4.toUInt32 >>> ((16 : Int32) &&& 31).toUInt32).toInt32).toUInt32.toUInt16.toUInt32.toInt32))) rfl ?_
              rw [show q = (((p4.toUInt32 >>> ((16 : Int32) &&& 31).toUInt32).toInt32).toUInt32.toUInt16.toUInt32.toInt32) from ((hq.trans (if_neg hc2752)).trans (if_neg hc2753))] at kt
              exact kt)
        have hq0 : ¬ q < 0 := by
          rw [hq]; split
          · rename_i z; exact (hqa z).2
          · split <;> exact own_ch _
        have pre2755 : PQ p e below T2732 (mkF m 445 (Y47 p1 p2 p3 p4 bb o1 o2 o3 o4 o5 b2287 al u0 u1 u2 b2368 b2640 b2712 sel q) [(.int c0), (.int q)]) (s₁.setTop (entryFrame m #[(.int p1), (.int p2), (.int p3), (.int p4)] maxLocals)) := fun t kt => pre2754 t (by
          refine XS.iload X2732.here hx rfl (hb hby at_439) rfl ?_
          refine XS.aload X2732.here hx rfl (hb hby at_441) rfl rfl ?_
          refine XS.iconst X2732.here hx rfl (hb hby at_443) ?_
          refine X2732.caload hx (j := (0 : Int32)) (v := (.int c0)) A2750.1 (State.isArrayOf_alike hZ.alike A2750.2.1) A2750.2.2 (inb_of S2750 ⟨by decide, by decide⟩) hat2750_0 (g := (mkF m 444 (Y47 p1 p2 p3 p4 bb o1 o2 o3 o4 o5 b2287 al u0 u1 u2 b2368 b2640 b2712 sel q) [(.int (0 : Int32)), (.ref b2287), (.int q)])) rfl rfl (hb hby at_444) _ ?_
          exact kt)
        obtain ⟨ex, hex⟩ : ∃ z : Int32, z = (if q = c0 then (0 : Int32) else (if q = c1 then (1 : Int32) else (if q = c2 then (2 : Int32) else (if q = u0 then (0 : Int32) else (if q = u1 then (1 : Int32) else (-1 : Int32)))))) := ⟨_, rfl⟩
        have pre2761 : PQ p e below T2732 (mkF m 544 (Y48 p1 p2 p3 p4 bb o1 o2 o3 o4 o5 b2287 al u0 u1 u2 b2368 b2640 b2712 sel q ex) []) (s₁.setTop (entryFrame m #[(.int p1), (.int p2), (.int p3), (.int p4)] maxLocals)) := fun t kt => pre2755 t (by
          by_cases hc2756 : q = c0
          case pos =>
            refine XS.icmpNo X2732.here hx rfl (hb hby at_445) rfl (teq hc2756).2 ?_
            refine XS.iconst X2732.here hx rfl (hb hby at_448) ?_
            refine XS.istore X2732.here hx rfl (hb hby at_449) rfl (l' := (Y48 p1 p2 p3 p4 bb o1 o2 o3 o4 o5 b2287 al u0 u1 u2 b2368 b2640 b2712 sel q 0)) rfl ?_
            refine XS.goto X2732.here hx rfl (pc0 := 451) (pc' := 544) rfl (hb hby at_451) (by decide) (by decide) ?_
            rw [show ex = (0 : Int32) from (hex.trans (if_pos hc2756))] at kt
            exact kt
          case neg =>
            refine XS.icmpYes X2732.here hx rfl (pc0 := 445) (pc' := 454) rfl (hb hby at_445) rfl (feq hc2756).2 (by decide) (by decide) ?_
            refine XS.iload X2732.here hx rfl (hb hby at_454) rfl ?_
            refine XS.aload X2732.here hx rfl (hb hby at_456) rfl rfl ?_
            refine XS.iconst X2732.here hx rfl (hb hby at_458) ?_
            refine X2732.caload hx (j := (1 : Int32)) (v := (.int c1)) A2750.1 (State.isArrayOf_alike hZ.alike A2750.2.1) A2750.2.2 (inb_of S2750 ⟨by decide, by decide⟩) hat2750_1 (g := (mkF m 459 (Y47 p1 p2 p3 p4 bb o1 o2 o3 o4 o5 b2287 al u0 u1 u2 b2368 b2640 b2712 sel q) [(.int (1 : Int32)), (.ref b2287), (.int q)])) rfl rfl (hb hby at_459) _ ?_
            by_cases hc2757 : q = c1
            case pos =>
              refine XS.icmpNo X2732.here hx rfl (hb hby at_460) rfl (teq hc2757).2 ?_
              refine XS.iconst X2732.here hx rfl (hb hby at_463) ?_
              refine XS.istore X2732.here hx rfl (hb hby at_464) rfl (l' := (Y48 p1 p2 p3 p4 bb o1 o2 o3 o4 o5 b2287 al u0 u1 u2 b2368 b2640 b2712 sel q 1)) rfl ?_
              refine XS.goto X2732.here hx rfl (pc0 := 466) (pc' := 544) rfl (hb hby at_466) (by decide) (by decide) ?_
              rw [show ex = (1 : Int32) from ((hex.trans (if_neg hc2756)).trans (if_pos hc2757))] at kt
              exact kt
            case neg =>
              refine XS.icmpYes X2732.here hx rfl (pc0 := 460) (pc' := 469) rfl (hb hby at_460) rfl (feq hc2757).2 (by decide) (by decide) ?_
              refine XS.iload X2732.here hx rfl (hb hby at_469) rfl ?_
              refine XS.aload X2732.here hx rfl (hb hby at_471) rfl rfl ?_
              refine XS.iconst X2732.here hx rfl (hb hby at_473) ?_
              refine X2732.caload hx (j := (2 : Int32)) (v := (.int c2)) A2750.1 (State.isArrayOf_alike hZ.alike A2750.2.1) A2750.2.2 (inb_of S2750 ⟨by decide, by decide⟩) hat2750_2 (g := (mkF m 474 (Y47 p1 p2 p3 p4 bb o1 o2 o3 o4 o5 b2287 al u0 u1 u2 b2368 b2640 b2712 sel q) [(.int (2 : Int32)), (.ref b2287), (.int q)])) rfl rfl (hb hby at_474) _ ?_
              by_cases hc2758 : q = c2
              case pos =>
                refine XS.icmpNo X2732.here hx rfl (hb hby at_475) rfl (teq hc2758).2 ?_
                refine XS.iconst X2732.here hx rfl (hb hby at_478) ?_
                refine XS.istore X2732.here hx rfl (hb hby at_479) rfl (l' := (Y48 p1 p2 p3 p4 bb o1 o2 o3 o4 o5 b2287 al u0 u1 u2 b2368 b2640 b2712 sel q 2)) rfl ?_
                refine XS.goto X2732.here hx rfl (pc0 := 481) (pc' := 544) rfl (hb hby at_481) (by decide) (by decide) ?_
                rw [show ex = (2 : Int32) from (((hex.trans (if_neg hc2756)).trans (if_neg hc2757)).trans (if_pos hc2758))] at kt
                exact kt
              case neg =>
                refine XS.icmpYes X2732.here hx rfl (pc0 := 475) (pc' := 484) rfl (hb hby at_475) rfl (feq hc2758).2 (by decide) (by decide) ?_
                refine XS.iload X2732.here hx rfl (hb hby at_484) rfl ?_
                refine XS.iconst X2732.here hx rfl (hb hby at_486) ?_
                refine XS.icmpNo X2732.here hx rfl (hb hby at_487) rfl (flt la1).1 ?_
                refine XS.iload X2732.here hx rfl (hb hby at_490) rfl ?_
                refine XS.iload X2732.here hx rfl (hb hby at_492) rfl ?_
                by_cases hc2759 : q = u0
                case pos =>
                  refine XS.icmpNo X2732.here hx rfl (hb hby at_494) rfl (teq hc2759).2 ?_
                  refine XS.iconst X2732.here hx rfl (hb hby at_497) ?_
                  refine XS.istore X2732.here hx rfl (hb hby at_498) rfl (l' := (Y48 p1 p2 p3 p4 bb o1 o2 o3 o4 o5 b2287 al u0 u1 u2 b2368 b2640 b2712 sel q 0)) rfl ?_
                  refine XS.goto X2732.here hx rfl (pc0 := 500) (pc' := 544) rfl (hb hby at_500) (by decide) (by decide) ?_
                  rw [show ex = (0 : Int32) from ((((hex.trans (if_neg hc2756)).trans (if_neg hc2757)).trans (if_neg hc2758)).trans (if_pos hc2759))] at kt
                  exact kt
                case neg =>
                  refine XS.icmpYes X2732.here hx rfl (pc0 := 494) (pc' := 503) rfl (hb hby at_494) rfl (feq hc2759).2 (by decide) (by decide) ?_
                  refine XS.iload X2732.here hx rfl (hb hby at_503) rfl ?_
                  refine XS.iconst X2732.here hx rfl (hb hby at_505) ?_
                  refine XS.icmpNo X2732.here hx rfl (hb hby at_506) rfl (flt la2).1 ?_
                  refine XS.iload X2732.here hx rfl (hb hby at_509) rfl ?_
                  refine XS.iload X2732.here hx rfl (hb hby at_511) rfl ?_
                  by_cases hc2760 : q = u1
                  case pos =>
                    refine XS.icmpNo X2732.here hx rfl (hb hby at_513) rfl (teq hc2760).2 ?_
                    refine XS.iconst X2732.here hx rfl (hb hby at_516) ?_
                    refine XS.istore X2732.here hx rfl (hb hby at_517) rfl (l' := (Y48 p1 p2 p3 p4 bb o1 o2 o3 o4 o5 b2287 al u0 u1 u2 b2368 b2640 b2712 sel q 1)) rfl ?_
                    refine XS.goto X2732.here hx rfl (pc0 := 519) (pc' := 544) rfl (hb hby at_519) (by decide) (by decide) ?_
                    rw [show ex = (1 : Int32) from (((((hex.trans (if_neg hc2756)).trans (if_neg hc2757)).trans (if_neg hc2758)).trans (if_neg hc2759)).trans (if_pos hc2760))] at kt
                    exact kt
                  case neg =>
                    refine XS.icmpYes X2732.here hx rfl (pc0 := 513) (pc' := 522) rfl (hb hby at_513) rfl (feq hc2760).2 (by decide) (by decide) ?_
                    refine XS.iload X2732.here hx rfl (hb hby at_522) rfl ?_
                    refine XS.iconst X2732.here hx rfl (hb hby at_524) ?_
                    refine XS.icmpYes X2732.here hx rfl (pc0 := 525) (pc' := 541) rfl (hb hby at_525) rfl (tlt la3).1 (by decide) (by decide) ?_
                    refine XS.iconst X2732.here hx rfl (hb hby at_541) ?_
                    refine XS.istore X2732.here hx rfl (hb hby at_542) rfl (l' := (Y48 p1 p2 p3 p4 bb o1 o2 o3 o4 o5 b2287 al u0 u1 u2 b2368 b2640 b2712 sel q (-1))) rfl ?_
                    rw [show ex = (-1 : Int32) from (((((hex.trans (if_neg hc2756)).trans (if_neg hc2757)).trans (if_neg hc2758)).trans (if_neg hc2759)).trans (if_neg hc2760))] at kt
                    exact kt)
        obtain ⟨_, T2762, L2762, X2762, N2762, ⟨_, rfl, -, e2762⟩, st2762⟩ := own_cV X2732 hx hZ hown (own_k_599 hw) (rmVo hw b2712 r2732 q (own_al (own_al (own_sy c0 c1 c2) u0 c0 (0 : Int32)) u1 c1 (1 : Int32)) z2733 Fv2732 I2732 hq0) (W := 0) (k := 13) (n := 183) (by decide) rfl N2732 (fun _ _ _ h => h.2.1) c2745 (Ls := (Y48 p1 p2 p3 p4 bb o1 o2 o3 o4 o5 b2287 al u0 u1 u2 b2368 b2640 b2712 sel q ex)) (rest := []) hml.symm (lenOf pd_600 rfl) (Nat.le_of_eq rfl) (hb hby at_548)
        have hfin : (if q < (128 : Int32) then (own_al (own_al (own_sy c0 c1 c2) u0 c0 (0 : Int32)) u1 c1 (1 : Int32)) q else (-1 : Int32)) = ex := own_fin2 c0 c1 c2 u0 u1 q ex hex hpc0 hpc1 hpc2 hpu0 hpu1 d10 d20 d21 e10 f01 f02 f10 f12
        have pre2763 : PQ p e below T2762 (mkF m 561 (Y48 p1 p2 p3 p4 bb o1 o2 o3 o4 o5 b2287 al u0 u1 u2 b2368 b2640 b2712 sel q ex) [(.int (1 : Int32))]) (s₁.setTop (entryFrame m #[(.int p1), (.int p2), (.int p3), (.int p4)] maxLocals)) := fun t kt => pre2761 t (by
          refine XS.aload X2732.here hx rfl (hb hby at_544) rfl rfl ?_
          refine XS.iload X2732.here hx rfl (hb hby at_546) rfl ?_
          refine st2762.trans ?_
          refine XS.iload X2762.here hx rfl (hb hby at_551) rfl ?_
          refine XS.icmpNo X2762.here hx rfl (hb hby at_553) rfl (teq hfin).2 ?_
          refine XS.iconst X2762.here hx rfl (hb hby at_556) ?_
          refine XS.goto X2762.here hx rfl (pc0 := 557) (pc' := 561) rfl (hb hby at_557) (by decide) (by decide) ?_
          exact kt)
        exact own_retNW (s := s) (vm₁ := s.vm) X2762 ((State.WarmedH.refl s).since 0) (Nat.zero_le _) hx Bd.notSynchronized (t := .boolean) Bd.returns (by simp) (hb hby at_561) pre2763 (show Q0 h0 n0 _ _ _ from ⟨rfl, N2762⟩) (by decide) (by decide)
      case neg =>
        have hk : al = (3 : Int32) := ((hal4.resolve_left hc2430).resolve_left hc2528).resolve_left hc2639
        obtain ⟨T2764, h2764, X2764, e2764, E2764, A2764, D2764, -, st2764⟩ := newO X2420 hx hZ hown (own_w hw 6 rfl) (own_w hw 7 rfl) (own_w hw 8 rfl) rfl (g := (mkF m 336 (Y43 p1 p2 p3 p4 bb o1 o2 o3 o4 o5 b2287 al u0 u1 u2 b2368) [])) rfl (hb hby at_336) (by decide) (by decide)
        obtain ⟨b2764, g2764⟩ : ∃ z, z = T2420.heap.size := ⟨_, rfl⟩
        rw [← g2764] at A2764 D2764 st2764
        have G2764 : n0 ≤ b2764 := Nat.le_trans z2421 (Nat.le_of_eq g2764.symm)
        have ne2765 : b2287 ≠ b2764 := Nat.ne_of_lt (Nat.lt_of_lt_of_le c2424.lt (Nat.le_of_eq g2764.symm))
        have ne2766 : b2368 ≠ b2764 := Nat.ne_of_lt (Nat.lt_of_lt_of_le c2425.lt (Nat.le_of_eq g2764.symm))
        have ne2767 : r2420 ≠ b2764 := Nat.ne_of_lt (Nat.lt_of_lt_of_le V2420.lt (Nat.le_of_eq g2764.symm))
        have c2769 := c2423.ext E2764
        have c2770 := c2424.ext E2764
        have c2771 := c2425.ext E2764
        have c2772 := Fc2420.ext E2764
        have c2773 := Fv2420.ext E2764
        have c2774 := V2420.ext E2764
        have F2775 : Fa Z h2764 b2764 (.int (0 : Int32)) := D2764 (Or.inr (own_w hw 32 rfl)) (ty := .byte) (by decide)
        have F2776 : Fb Z h2764 b2764 .null := D2764 (Or.inr (own_w hw 34 rfl)) (ty := (.array .byte)) (by decide)
        have z2777 : n0 ≤ h2764.size := Nat.le_trans z2421 E2764.1
        obtain ⟨T2778, h2778, k2778, X2778, e2778, E2778, A2778, st2778⟩ := newP X2764 hx hZ (own_w hw 1 rfl) e2764 (g := (mkF m 341 (Y43 p1 p2 p3 p4 bb o1 o2 o3 o4 o5 b2287 al u0 u1 u2 b2368) [(.int (3 : Int32)), (.ref b2764), (.ref b2764)])) rfl (hb hby at_341) rfl (by decide) (cap := 3) (by decide) (by decide) (by decide) (by decide)
        obtain ⟨b2778, g2778⟩ : ∃ z, z = h2764.size := ⟨_, rfl⟩
        rw [← g2778] at A2778 st2778
        have G2778 : n0 ≤ b2778 := Nat.le_trans z2777 (Nat.le_of_eq g2778.symm)
        have ne2779 : b2287 ≠ b2778 := Nat.ne_of_lt (Nat.lt_of_lt_of_le c2770.lt (Nat.le_of_eq g2778.symm))
        have ne2780 : b2368 ≠ b2778 := Nat.ne_of_lt (Nat.lt_of_lt_of_le c2771.lt (Nat.le_of_eq g2778.symm))
        have ne2781 : r2420 ≠ b2778 := Nat.ne_of_lt (Nat.lt_of_lt_of_le c2774.lt (Nat.le_of_eq g2778.symm))
        have ne2782 : b2764 ≠ b2778 := Nat.ne_of_lt (Nat.lt_of_lt_of_le A2764.lt (Nat.le_of_eq g2778.symm))
        have c2784 := c2769.ext E2778
        have c2785 := c2770.ext E2778
        have c2786 := c2771.ext E2778
        have c2787 := c2772.ext E2778
        have c2788 := c2773.ext E2778
        have c2789 := c2774.ext E2778
        have c2790 := A2764.ext E2778
        have c2791 := F2775.ext E2778
        have c2792 := F2776.ext E2778
        have z2793 : n0 ≤ h2778.size := Nat.le_trans z2777 E2778.1
        have V2778 : Arv Z h2778 b2778 k2778 .char (3 : Int32) [(.int (0 : Int32)), o0, o0] (.int (0 : Int32)) := (Arv.new A2778 (by decide)).pad (pad_rep [] (.int (0 : Int32)) 3)
        obtain ⟨cl2794, Ar2794, q2794, S2794, M2794, H2794, J2794⟩ := id V2778
        have hin2794 : ¬ ((0 : Int32) < 0 ∨ cl2794.slots.size ≤ ((0 : Int32)).toNatClampNeg) := inb_of S2794 ⟨by decide, by decide⟩
        obtain ⟨T2795, h2795, X2795, e2795, W2795, st2795⟩ := stC X2778 hx hZ e2778 Ar2794 (j := (0 : Int32)) hin2794 (g := (mkF m 347 (Y43 p1 p2 p3 p4 bb o1 o2 o3 o4 o5 b2287 al u0 u1 u2 b2368) [(.int u0), o0, (.ref b2778), (.ref b2778), (.ref b2764), (.ref b2764)])) rfl rfl (hb hby at_347)
        have V2795 : Arv Z h2795 b2778 k2778 .char (3 : Int32) [(.int (nar .char u0)), o0, o0] (.int (0 : Int32)) := Arv.set Ar2794 q2794 S2794 M2794 H2794 J2794 (fits_nar_char _) W2795 0 rfl (Nat.le_of_ble_eq_true rfl)
        have N2795 := Fr.snoc X2795 N2420 G2778
        have z2796 : n0 ≤ h2795.size := Nat.le_trans z2793 (Keep.of_wr W2795).1
        have c2798 := c2784.wr W2795 G2778
        have c2799 := c2785.other W2795 ne2779
        have c2800 := c2786.wr W2795
        have c2801 := c2787.other W2795 (Or.inl ne2780)
        have c2802 := c2788.other W2795 (Or.inl ne2780)
        have c2803 := c2789.other W2795 ne2781
        have c2804 := c2790.wr W2795
        have c2805 := c2791.other W2795 (Or.inl ne2782)
        have c2806 := c2792.other W2795 (Or.inl ne2782)
        obtain ⟨cl2808, Ar2808, q2808, S2808, M2808, H2808, J2808⟩ := id V2795
        have hin2808 : ¬ ((1 : Int32) < 0 ∨ cl2808.slots.size ≤ ((1 : Int32)).toNatClampNeg) := inb_of S2808 ⟨by decide, by decide⟩
        obtain ⟨T2809, h2809, X2809, e2809, W2809, st2809⟩ := stC X2795 hx hZ e2795 Ar2808 (j := (1 : Int32)) hin2808 (g := (mkF m 352 (Y43 p1 p2 p3 p4 bb o1 o2 o3 o4 o5 b2287 al u0 u1 u2 b2368) [(.int u1), (.int (1 : Int32)), (.ref b2778), (.ref b2778), (.ref b2764), (.ref b2764)])) rfl rfl (hb hby at_352)
        have V2809 : Arv Z h2809 b2778 k2778 .char (3 : Int32) [(.int (nar .char u0)), (.int (nar .char u1)), o0] (.int (0 : Int32)) := Arv.set Ar2808 q2808 S2808 M2808 H2808 J2808 (fits_nar_char _) W2809 1 rfl (Nat.le_of_ble_eq_true rfl)
        have N2809 := Fr.snoc X2809 N2795 G2778
        have z2810 : n0 ≤ h2809.size := Nat.le_trans z2796 (Keep.of_wr W2809).1
        have c2812 := c2798.wr W2809 G2778
        have c2813 := c2799.other W2809 ne2779
        have c2814 := c2800.wr W2809
        have c2815 := c2801.other W2809 (Or.inl ne2780)
        have c2816 := c2802.other W2809 (Or.inl ne2780)
        have c2817 := c2803.other W2809 ne2781
        have c2818 := c2804.wr W2809
        have c2819 := c2805.other W2809 (Or.inl ne2782)
        have c2820 := c2806.other W2809 (Or.inl ne2782)
        obtain ⟨cl2822, Ar2822, q2822, S2822, M2822, H2822, J2822⟩ := id V2809
        have hin2822 : ¬ ((2 : Int32) < 0 ∨ cl2822.slots.size ≤ ((2 : Int32)).toNatClampNeg) := inb_of S2822 ⟨by decide, by decide⟩
        obtain ⟨T2823, h2823, X2823, e2823, W2823, st2823⟩ := stC X2809 hx hZ e2809 Ar2822 (j := (2 : Int32)) hin2822 (g := (mkF m 357 (Y43 p1 p2 p3 p4 bb o1 o2 o3 o4 o5 b2287 al u0 u1 u2 b2368) [(.int u2), (.int (2 : Int32)), (.ref b2778), (.ref b2778), (.ref b2764), (.ref b2764)])) rfl rfl (hb hby at_357)
        have V2823 : Arv Z h2823 b2778 k2778 .char (3 : Int32) [(.int (nar .char u0)), (.int (nar .char u1)), (.int (nar .char u2))] (.int (0 : Int32)) := Arv.set Ar2822 q2822 S2822 M2822 H2822 J2822 (fits_nar_char _) W2823 2 rfl (Nat.le_of_ble_eq_true rfl)
        have N2823 := Fr.snoc X2823 N2809 G2778
        have z2824 : n0 ≤ h2823.size := Nat.le_trans z2810 (Keep.of_wr W2823).1
        have c2826 := c2812.wr W2823 G2778
        have c2827 := c2813.other W2823 ne2779
        have c2828 := c2814.wr W2823
        have c2829 := c2815.other W2823 (Or.inl ne2780)
        have c2830 := c2816.other W2823 (Or.inl ne2780)
        have c2831 := c2817.other W2823 ne2781
        have c2832 := c2818.wr W2823
        have c2833 := c2819.other W2823 (Or.inl ne2782)
        have c2834 := c2820.other W2823 (Or.inl ne2782)
        have V2836 : Arv Z h2823 b2778 k2778 .char (3 : Int32) [(.int u0), (.int u1), (.int u2)] (.int (0 : Int32)) := by
          have q := V2823
          rw [hpu0.2.2.1, hpu1.2.2.1, hpu2.2.2.1] at q
          exact q
        obtain ⟨_, T2837, L2837, X2837, N2837, ⟨_, r2837, kc2837, rfl, -, K2837, Fc2837, Fv2837, V2837⟩, st2837⟩ := own_cI X2823 hx hZ hown (own_k_595 hw) (rmSi3 hw b2764 b2778 k2778 u0 u1 u2 z2824 c2826 c2832 c2833 c2834 G2764 V2836 hpu0 hpu1 hpu2) (W := 1) (k := 7) (n := 26) (by decide) e2823 N2823 (fun _ _ _ ⟨_, _, _, h, _⟩ => h) (Ls := (Y43 p1 p2 p3 p4 bb o1 o2 o3 o4 o5 b2287 al u0 u1 u2 b2368)) (rest := [(.ref b2764)]) hml.symm (lenOf pd_596 rfl) (Nat.le_of_eq rfl) (hb hby at_358)
        have z2838 : n0 ≤ T2837.heap.size := Nat.le_trans z2824 K2837.1
        have c2840 := c2826.keep K2837 (allS G2764 all0)
        have c2841 := c2827.keep K2837 (ninS ne2765 nin0)
        have c2842 := c2828.keep K2837
        have c2843 := c2829.keep K2837 (ninS ne2766 nin0)
        have c2844 := c2830.keep K2837 (ninS ne2766 nin0)
        have c2845 := c2831.keep K2837 (ninS ne2767 nin0)
        have c2846 := c2832.keep K2837
        have la1 : ¬ (al < (1 : Int32)) := by rw [hk]; decide
        have la2 : ¬ (al < (2 : Int32)) := by rw [hk]; decide
        have la3 : ¬ (al < (3 : Int32)) := by rw [hk]; decide
        obtain ⟨T2850, h2850, X2850, e2850, E2850, A2850, D2850, -, st2850⟩ := newO X2837 hx hZ hown (own_w hw 35 rfl) (own_w hw 36 rfl) (own_w hw 37 rfl) rfl (g := (mkF m 363 (Y44 p1 p2 p3 p4 bb o1 o2 o3 o4 o5 b2287 al u0 u1 u2 b2368 b2764) [])) rfl (hb hby at_363) (by decide) (by decide)
        obtain ⟨b2850, g2850⟩ : ∃ z, z = T2837.heap.size := ⟨_, rfl⟩
        rw [← g2850] at A2850 D2850 st2850
        have G2850 : n0 ≤ b2850 := Nat.le_trans z2838 (Nat.le_of_eq g2850.symm)
        have ne2851 : b2287 ≠ b2850 := Nat.ne_of_lt (Nat.lt_of_lt_of_le c2841.lt (Nat.le_of_eq g2850.symm))
        have ne2852 : b2368 ≠ b2850 := Nat.ne_of_lt (Nat.lt_of_lt_of_le c2842.lt (Nat.le_of_eq g2850.symm))
        have ne2853 : r2420 ≠ b2850 := Nat.ne_of_lt (Nat.lt_of_lt_of_le c2845.lt (Nat.le_of_eq g2850.symm))
        have ne2854 : b2764 ≠ b2850 := Nat.ne_of_lt (Nat.lt_of_lt_of_le c2846.lt (Nat.le_of_eq g2850.symm))
        have ne2855 : r2837 ≠ b2850 := Nat.ne_of_lt (Nat.lt_of_lt_of_le V2837.lt (Nat.le_of_eq g2850.symm))
        have c2857 := c2840.ext E2850
        have c2858 := c2841.ext E2850
        have c2859 := c2842.ext E2850
        have c2860 := c2843.ext E2850
        have c2861 := c2844.ext E2850
        have c2862 := c2845.ext E2850
        have c2863 := c2846.ext E2850
        have c2864 := Fc2837.ext E2850
        have c2865 := Fv2837.ext E2850
        have c2866 := V2837.ext E2850
        have F2867 : Fg Z h2850 b2850 .null := D2850 (Or.inr (own_w hw 183 rfl)) (ty := (.object "java/lang/String")) (by decide)
        have F2868 : Ff Z h2850 b2850 .null := D2850 (Or.inr (own_w hw 185 rfl)) (ty := (.array .int)) (by decide)
        have z2869 : n0 ≤ h2850.size := Nat.le_trans z2838 E2850.1
        obtain ⟨_, T2870, L2870, X2870, N2870, ⟨_, r2870, rfl, -, K2870, Fv2870, I2870⟩, st2870⟩ := own_cI X2850 hx hZ hown (own_k_597 hw) (rmAl3 hw b2850 b2368 r2420 kc2420 b2764 r2837 kc2837 c0 c1 c2 u0 u1 u2 z2869 c2857 A2850 F2867 F2868 G2850 c2859 c2860 c2861 c2862 c2863 c2864 c2865 c2866 hpc0 hpc1 hpc2 hpu0 hpu1 hpu2 d10 d20 d21 e10 e20 e21 f01 f02 f10 f12 f20 f21 ne2852 ne2853 ne2854 ne2855) (W := 1) (k := 13) (n := 186) (by decide) e2850 N2837 (fun _ _ _ ⟨_, _, h, _⟩ => h) (Ls := (Y44 p1 p2 p3 p4 bb o1 o2 o3 o4 o5 b2287 al u0 u1 u2 b2368 b2764)) (rest := [(.ref b2850)]) hml.symm (lenOf pd_598 rfl) (Nat.le_of_eq rfl) (hb hby at_371)
        have z2871 : n0 ≤ T2870.heap.size := Nat.le_trans z2869 K2870.1
        have c2874 := c2858.keep K2870 (ninS ne2851 nin0)
        have c2883 := A2850.keep K2870
        have pre2886 : PQ p e below T2870 (mkF m 380 (Y45 p1 p2 p3 p4 bb o1 o2 o3 o4 o5 b2287 al u0 u1 u2 b2368 b2764 b2850) [(.int (p4 &&& (15 : Int32)))]) (s₁.setTop (entryFrame m #[(.int p1), (.int p2), (.int p3), (.int p4)] maxLocals)) := fun t kt => pre2638 t (by
          refine XS.icmpYes X2420.here hx rfl (pc0 := 308) (pc' := 336) rfl (hb hby at_308) rfl (feq hc2639).2 (by decide) (by decide) ?_
          refine st2764 _ ?_
          refine XS.dup X2764.here hx rfl (hb hby at_339) rfl rfl ?_
          refine XS.iconst X2764.here hx rfl (hb hby at_340) ?_
          refine st2778 _ ?_
          refine XS.dup X2778.here hx rfl (hb hby at_343) rfl rfl ?_
          refine XS.iconst X2778.here hx rfl (hb hby at_344) ?_
          refine XS.iload X2778.here hx rfl (hb hby at_345) rfl ?_
          refine st2795 _ ?_
          refine XS.dup X2795.here hx rfl (hb hby at_348) rfl rfl ?_
          refine XS.iconst X2795.here hx rfl (hb hby at_349) ?_
          refine XS.iload X2795.here hx rfl (hb hby at_350) rfl ?_
          refine st2809 _ ?_
          refine XS.dup X2809.here hx rfl (hb hby at_353) rfl rfl ?_
          refine XS.iconst X2809.here hx rfl (hb hby at_354) ?_
          refine XS.iload X2809.here hx rfl (hb hby at_355) rfl ?_
          refine st2823 _ ?_
          refine st2837.trans ?_
          refine XS.astore X2837.here hx rfl (hb hby at_361) rfl rfl (l' := (Y44 p1 p2 p3 p4 bb o1 o2 o3 o4 o5 b2287 al u0 u1 u2 b2368 b2764)) rfl ?_
          refine st2850 _ ?_
          refine XS.dup X2850.here hx rfl (hb hby at_366) rfl rfl ?_
          refine XS.aload X2850.here hx rfl (hb hby at_367) rfl rfl ?_
          refine XS.aload X2850.here hx rfl (hb hby at_369) rfl rfl ?_
          refine st2870.trans ?_
          refine XS.astore X2870.here hx rfl (hb hby at_374) rfl rfl (l' := (Y45 p1 p2 p3 p4 bb o1 o2 o3 o4 o5 b2287 al u0 u1 u2 b2368 b2764 b2850)) rfl ?_
          refine XS.iloadN X2870.here hx rfl (hb hby at_376) rfl ?_
          refine XS.bipush X2870.here hx rfl (hb hby at_377) ?_
          refine XS.iand X2870.here hx rfl (hb hby at_379) rfl ?_
          exact kt)
        obtain ⟨sel, hsel⟩ : ∃ z : Int32, z = (p4 &&& (15 : Int32)) := ⟨_, rfl⟩
        have pre2887 : PQ p e below T2870 (mkF m 380 (Y45 p1 p2 p3 p4 bb o1 o2 o3 o4 o5 b2287 al u0 u1 u2 b2368 b2764 b2850) [(.int sel)]) (s₁.setTop (entryFrame m #[(.int p1), (.int p2), (.int p3), (.int p4)] maxLocals)) := by rw [hsel]; exact pre2886
        have hsel0 : ¬ sel < 0 := by rw [hsel]; exact own_n15 _
        obtain ⟨cl2888, A2888, q2888, S2888, M2888, H2888, J2888⟩ := id c2874
        have hat2888_0 : cl2888.slots[((0 : Int32)).toNatClampNeg]? = some (.int c0) := H2888.at (inb_of S2888 ⟨by decide, by decide⟩) rfl
        have hat2888_1 : cl2888.slots[((1 : Int32)).toNatClampNeg]? = some (.int c1) := H2888.at (inb_of S2888 ⟨by decide, by decide⟩) rfl
        have hat2888_2 : cl2888.slots[((2 : Int32)).toNatClampNeg]? = some (.int c2) := H2888.at (inb_of S2888 ⟨by decide, by decide⟩) rfl
        have gg : ∀ z, z = c0 ∨ z = c1 ∨ z = c2 ∨ z = c3 ∨ z = c4 ∨ z = c5 → ¬ z < 0 := by
          rintro z (rfl | rfl | rfl | rfl | rfl | rfl)
          · exact hpc0.2.2.2.2.2.2.2.2.1
          · exact hpc1.2.2.2.2.2.2.2.2.1
          · exact hpc2.2.2.2.2.2.2.2.2.1
          · exact hpc3.2.2.2.2.2.2.2.2.1
          · exact hpc4.2.2.2.2.2.2.2.2.1
          · exact hpc5.2.2.2.2.2.2.2.2.1
        obtain ⟨qa, hqa⟩ : ∃ z : Int32, sel < (6 : Int32) → (cl2888.slots[(sel).toNatClampNeg]? = some (.int z) ∧ ¬ z < 0) := by
          by_cases q : sel < (6 : Int32)
          · obtain ⟨z, hz⟩ := own_at6 H2888 S2888 hsel0 q gg; exact ⟨z, fun _ => hz⟩
          · exact ⟨0, fun z => absurd z q⟩
        obtain ⟨qb, hqb⟩ : ∃ z : Int32, ¬ sel < (6 : Int32) → sel < (12 : Int32) → (cl2888.slots[(sel - (6 : Int32)).toNatClampNeg]? = some (.int z) ∧ ¬ z < 0) := by
          by_cases q : ¬ sel < (6 : Int32) ∧ sel < (12 : Int32)
          · obtain ⟨z, hz⟩ := own_at6 H2888 S2888 (own_s6 q.1 q.2).1 (own_s6 q.1 q.2).2 gg; exact ⟨z, fun _ _ => hz⟩
          · exact ⟨0, fun z y => absurd ⟨z, y⟩ q⟩
        have pre2889 : PQ p e below T2870 (mkF m 386 (Y46 p1 p2 p3 p4 bb o1 o2 o3 o4 o5 b2287 al u0 u1 u2 b2368 b2764 b2850 sel) [(.int (6 : Int32)), (.int sel)]) (s₁.setTop (entryFrame m #[(.int p1), (.int p2), (.int p3), (.int p4)] maxLocals)) := fun t kt => pre2887 t (by
          refine XS.istore X2870.here hx rfl (hb hby at_380) rfl (l' := (Y46 p1 p2 p3 p4 bb o1 o2 o3 o4 o5 b2287 al u0 u1 u2 b2368 b2764 b2850 sel)) rfl ?_
          refine XS.iload X2870.here hx rfl (hb hby at_382) rfl ?_
          refine XS.bipush X2870.here hx rfl (hb hby at_384) ?_
          exact kt)
        obtain ⟨q, hq⟩ : ∃ z : Int32, z = (if sel < (6 : Int32) then qa else (if sel < (12 : Int32) then ((((((p4.toUInt32 >>> ((8 : Int32) &&& 31).toUInt32).toInt32) &&& (65280 : Int32)) ||| (128 : Int32)) ||| qb).toUInt32.toUInt16.toUInt32.toInt32) else (((p4.toUInt32 >>> ((16 : Int32) &&& 31).toUInt32).toInt32).toUInt32.toUInt16.toUInt32.toInt32))) := ⟨_, rfl⟩
        have pre2892 : PQ p e below T2870 (mkF m 439 (Y47 p1 p2 p3 p4 bb o1 o2 o3 o4 o5 b2287 al u0 u1 u2 b2368 b2764 b2850 sel q) []) (s₁.setTop (entryFrame m #[(.int p1), (.int p2), (.int p3), (.int p4)] maxLocals)) := fun t kt => pre2889 t (by
          by_cases hc2890 : sel < (6 : Int32)
          case pos =>
            refine XS.icmpNo X2870.here hx rfl (hb hby at_386) rfl (tlt hc2890).2.1 ?_
            refine XS.aload X2870.here hx rfl (hb hby at_389) rfl rfl ?_
            refine XS.iload X2870.here hx rfl (hb hby at_391) rfl ?_
            refine X2870.caload hx (j := sel) (v := (.int qa)) A2888.1 (State.isArrayOf_alike hZ.alike A2888.2.1) A2888.2.2 (inb_of S2888 ⟨hsel0, hc2890⟩) (hqa hc2890).1 (g := (mkF m 393 (Y46 p1 p2 p3 p4 bb o1 o2 o3 o4 o5 b2287 al u0 u1 u2 b2368 b2764 b2850 sel) [(.int sel), (.ref b2287)])) rfl rfl (hb hby at_393) _ ?_
            refine XS.istore X2870.here hx rfl (hb hby at_394) rfl (l' := (Y47 p1 p2 p3 p4 bb o1 o2 o3 o4 o5 b2287 al u0 u1 u2 b2368 b2764 b2850 sel qa)) rfl ?_
            refine XS.goto X2870.here hx rfl (pc0 := 396) (pc' := 439) rfl (hb hby at_396) (by decide) (by decide) ?_
            rw [show q = qa from (hq.trans (if_pos hc2890))] at kt
            exact kt
          case neg =>
            refine XS.icmpYes X2870.here hx rfl (pc0 := 386) (pc' := 399) rfl (hb hby at_386) rfl (flt hc2890).2.1 (by decide) (by decide) ?_
            refine XS.iload X2870.here hx rfl (hb hby at_399) rfl ?_
            refine XS.bipush X2870.here hx rfl (hb hby at_401) ?_
            by_cases hc2891 : sel < (12 : Int32)
            case pos =>
              refine XS.icmpNo X2870.here hx rfl (hb hby at_403) rfl (tlt hc2891).2.1 ?_
              refine XS.iloadN X2870.here hx rfl (hb hby at_406) rfl ?_
              refine XS.bipush X2870.here hx rfl (hb hby at_407) ?_
              refine XS.iushr X2870.here hx rfl (hb hby at_409) rfl ?_
              refine X2870.ldcInt hx hown (mvT hZ (own_w hw 194 rfl)) (g := (mkF m 410 (Y46 p1 p2 p3 p4 bb o1 o2 o3 o4 o5 b2287 al u0 u1 u2 b2368 b2764 b2850 sel) [(.int ((p4.toUInt32 >>> ((8 : Int32) &&& 31).toUInt32).toInt32))])) rfl (hb hby at_410) _ ?_
              refine XS.iand X2870.here hx rfl (hb hby at_412) rfl ?_
              refine XS.sipush X2870.here hx rfl (hb hby at_413) ?_
              refine XS.ior X2870.here hx rfl (hb hby at_416) rfl ?_
              refine XS.aload X2870.here hx rfl (hb hby at_417) rfl rfl ?_
              refine XS.iload X2870.here hx rfl (hb hby at_419) rfl ?_
              refine XS.bipush X2870.here hx rfl (hb hby at_421) ?_
              refine XS.isub X2870.here hx rfl (hb hby at_423) rfl ?_
              refine X2870.caload hx (j := (sel - (6 : Int32))) (v := (.int qb)) A2888.1 (State.isArrayOf_alike hZ.alike A2888.2.1) A2888.2.2 (inb_of S2888 (own_s6 hc2890 hc2891)) (hqb hc2890 hc2891).1 (g := (mkF m 424 (Y46 p1 p2 p3 p4 bb o1 o2 o3 o4 o5 b2287 al u0 u1 u2 b2368 b2764 b2850 sel) [(.int (sel - (6 : Int32))), (.ref b2287), (.int ((((p4.toUInt32 >>> ((8 : Int32) &&& 31).toUInt32).toInt32) &&& (65280 : Int32)) ||| (128 : Int32)))])) rfl rfl (hb hby at_424) _ ?_
              refine XS.ior X2870.here hx rfl (hb hby at_425) rfl ?_
              refine XS.i2c X2870.here hx rfl (hb hby at_426) rfl ?_
              refine XS.istore X2870.here hx rfl (hb hby at_427) rfl (l' := (Y47 p1 p2 p3 p4 bb o1 o2 o3 o4 o5 b2287 al u0 u1 u2 b2368 b2764 b2850 sel ((((((p4.toUInt32 >>> ((8 : Int32) &&& 31).toUInt32).toInt32) &&& (65280 : Int32)) ||| (128 : Int32)) ||| qb).toUInt32.toUInt16.toUInt32.toInt32))) rfl ?_
              refine XS.goto X2870.here hx rfl (pc0 := 429) (pc' := 439) rfl (hb hby at_429) (by decide) (by decide) ?_
              rw [show q = ((((((p4.toUInt32 >>> ((8 : Int32) &&& 31).toUInt32).toInt32) &&& (65280 : Int32)) ||| (128 : Int32)) ||| qb).toUInt32.toUInt16.toUInt32.toInt32) from ((hq.trans (if_neg hc2890)).trans (if_pos hc2891))] at kt
              exact kt
            case neg =>
              refine XS.icmpYes X2870.here hx rfl (pc0 := 403) (pc' := 432) rfl (hb hby at_403) rfl (flt hc2891).2.1 (by decide) (by decide) ?_
              refine XS.iloadN X2870.here hx rfl (hb hby at_432) rfl ?_
              refine XS.bipush X2870.here hx rfl (hb hby at_433) ?_
              refine XS.iushr X2870.here hx rfl (hb hby at_435) rfl ?_
              refine XS.i2c X2870.here hx rfl (hb hby at_436) rfl ?_
              refine XS.istore X2870.here hx rfl (hb hby at_437) rfl (l' := (Y47 p1 p2 p3 p4 bb o1 o2 o3 o4 o5 b2287 al u0 u1 u2 b2368 b2764 b2850 sel (((p4.toUInt32 >>> ((16 : Int32) &&& 31).toUInt32).toInt32).toUInt32.toUInt16.toUInt32.toInt32))) rfl ?_
              rw [show q = (((p4.toUInt32 >>> ((16 : Int32) &&& 31).toUInt32).toInt32).toUInt32.toUInt16.toUInt32.toInt32) from ((hq.trans (if_neg hc2890)).trans (if_neg hc2891))] at kt
              exact kt)
        have hq0 : ¬ q < 0 := by
          rw [hq]; split
          · rename_i z; exact (hqa z).2
          · split <;> exact own_ch _
        have pre2893 : PQ p e below T2870 (mkF m 445 (Y47 p1 p2 p3 p4 bb o1 o2 o3 o4 o5 b2287 al u0 u1 u2 b2368 b2764 b2850 sel q) [(.int c0), (.int q)]) (s₁.setTop (entryFrame m #[(.int p1), (.int p2), (.int p3), (.int p4)] maxLocals)) := fun t kt => pre2892 t (by
          refine XS.iload X2870.here hx rfl (hb hby at_439) rfl ?_
          refine XS.aload X2870.here hx rfl (hb hby at_441) rfl rfl ?_
          refine XS.iconst X2870.here hx rfl (hb hby at_443) ?_
          refine X2870.caload hx (j := (0 : Int32)) (v := (.int c0)) A2888.1 (State.isArrayOf_alike hZ.alike A2888.2.1) A2888.2.2 (inb_of S2888 ⟨by decide, by decide⟩) hat2888_0 (g := (mkF m 444 (Y47 p1 p2 p3 p4 bb o1 o2 o3 o4 o5 b2287 al u0 u1 u2 b2368 b2764 b2850 sel q) [(.int (0 : Int32)), (.ref b2287), (.int q)])) rfl rfl (hb hby at_444) _ ?_
          exact kt)
        obtain ⟨ex, hex⟩ : ∃ z : Int32, z = (if q = c0 then (0 : Int32) else (if q = c1 then (1 : Int32) else (if q = c2 then (2 : Int32) else (if q = u0 then (0 : Int32) else (if q = u1 then (1 : Int32) else (if q = u2 then (2 : Int32) else (-1 : Int32))))))) := ⟨_, rfl⟩
        have pre2900 : PQ p e below T2870 (mkF m 544 (Y48 p1 p2 p3 p4 bb o1 o2 o3 o4 o5 b2287 al u0 u1 u2 b2368 b2764 b2850 sel q ex) []) (s₁.setTop (entryFrame m #[(.int p1), (.int p2), (.int p3), (.int p4)] maxLocals)) := fun t kt => pre2893 t (by
          by_cases hc2894 : q = c0
          case pos =>
            refine XS.icmpNo X2870.here hx rfl (hb hby at_445) rfl (teq hc2894).2 ?_
            refine XS.iconst X2870.here hx rfl (hb hby at_448) ?_
            refine XS.istore X2870.here hx rfl (hb hby at_449) rfl (l' := (Y48 p1 p2 p3 p4 bb o1 o2 o3 o4 o5 b2287 al u0 u1 u2 b2368 b2764 b2850 sel q 0)) rfl ?_
            refine XS.goto X2870.here hx rfl (pc0 := 451) (pc' := 544) rfl (hb hby at_451) (by decide) (by decide) ?_
            rw [show ex = (0 : Int32) from (hex.trans (if_pos hc2894))] at kt
            exact kt
          case neg =>
            refine XS.icmpYes X2870.here hx rfl (pc0 := 445) (pc' := 454) rfl (hb hby at_445) rfl (feq hc2894).2 (by decide) (by decide) ?_
            refine XS.iload X2870.here hx rfl (hb hby at_454) rfl ?_
            refine XS.aload X2870.here hx rfl (hb hby at_456) rfl rfl ?_
            refine XS.iconst X2870.here hx rfl (hb hby at_458) ?_
            refine X2870.caload hx (j := (1 : Int32)) (v := (.int c1)) A2888.1 (State.isArrayOf_alike hZ.alike A2888.2.1) A2888.2.2 (inb_of S2888 ⟨by decide, by decide⟩) hat2888_1 (g := (mkF m 459 (Y47 p1 p2 p3 p4 bb o1 o2 o3 o4 o5 b2287 al u0 u1 u2 b2368 b2764 b2850 sel q) [(.int (1 : Int32)), (.ref b2287), (.int q)])) rfl rfl (hb hby at_459) _ ?_
            by_cases hc2895 : q = c1
            case pos =>
              refine XS.icmpNo X2870.here hx rfl (hb hby at_460) rfl (teq hc2895).2 ?_
              refine XS.iconst X2870.here hx rfl (hb hby at_463) ?_
              refine XS.istore X2870.here hx rfl (hb hby at_464) rfl (l' := (Y48 p1 p2 p3 p4 bb o1 o2 o3 o4 o5 b2287 al u0 u1 u2 b2368 b2764 b2850 sel q 1)) rfl ?_
              refine XS.goto X2870.here hx rfl (pc0 := 466) (pc' := 544) rfl (hb hby at_466) (by decide) (by decide) ?_
              rw [show ex = (1 : Int32) from ((hex.trans (if_neg hc2894)).trans (if_pos hc2895))] at kt
              exact kt
            case neg =>
              refine XS.icmpYes X2870.here hx rfl (pc0 := 460) (pc' := 469) rfl (hb hby at_460) rfl (feq hc2895).2 (by decide) (by decide) ?_
              refine XS.iload X2870.here hx rfl (hb hby at_469) rfl ?_
              refine XS.aload X2870.here hx rfl (hb hby at_471) rfl rfl ?_
              refine XS.iconst X2870.here hx rfl (hb hby at_473) ?_
              refine X2870.caload hx (j := (2 : Int32)) (v := (.int c2)) A2888.1 (State.isArrayOf_alike hZ.alike A2888.2.1) A2888.2.2 (inb_of S2888 ⟨by decide, by decide⟩) hat2888_2 (g := (mkF m 474 (Y47 p1 p2 p3 p4 bb o1 o2 o3 o4 o5 b2287 al u0 u1 u2 b2368 b2764 b2850 sel q) [(.int (2 : Int32)), (.ref b2287), (.int q)])) rfl rfl (hb hby at_474) _ ?_
              by_cases hc2896 : q = c2
              case pos =>
                refine XS.icmpNo X2870.here hx rfl (hb hby at_475) rfl (teq hc2896).2 ?_
                refine XS.iconst X2870.here hx rfl (hb hby at_478) ?_
                refine XS.istore X2870.here hx rfl (hb hby at_479) rfl (l' := (Y48 p1 p2 p3 p4 bb o1 o2 o3 o4 o5 b2287 al u0 u1 u2 b2368 b2764 b2850 sel q 2)) rfl ?_
                refine XS.goto X2870.here hx rfl (pc0 := 481) (pc' := 544) rfl (hb hby at_481) (by decide) (by decide) ?_
                rw [show ex = (2 : Int32) from (((hex.trans (if_neg hc2894)).trans (if_neg hc2895)).trans (if_pos hc2896))] at kt
                exact kt
              case neg =>
                refine XS.icmpYes X2870.here hx rfl (pc0 := 475) (pc' := 484) rfl (hb hby at_475) rfl (feq hc2896).2 (by decide) (by decide) ?_
                refine XS.iload X2870.here hx rfl (hb hby at_484) rfl ?_
                refine XS.iconst X2870.here hx rfl (hb hby at_486) ?_
                refine XS.icmpNo X2870.here hx rfl (hb hby at_487) rfl (flt la1).1 ?_
                refine XS.iload X2870.here hx rfl (hb hby at_490) rfl ?_
                refine XS.iload X2870.here hx rfl (hb hby at_492) rfl ?_
                by_cases hc2897 : q = u0
                case pos =>
                  refine XS.icmpNo X2870.here hx rfl (hb hby at_494) rfl (teq hc2897).2 ?_
                  refine XS.iconst X2870.here hx rfl (hb hby at_497) ?_
                  refine XS.istore X2870.here hx rfl (hb hby at_498) rfl (l' := (Y48 p1 p2 p3 p4 bb o1 o2 o3 o4 o5 b2287 al u0 u1 u2 b2368 b2764 b2850 sel q 0)) rfl ?_
                  refine XS.goto X2870.here hx rfl (pc0 := 500) (pc' := 544) rfl (hb hby at_500) (by decide) (by decide) ?_
                  rw [show ex = (0 : Int32) from ((((hex.trans (if_neg hc2894)).trans (if_neg hc2895)).trans (if_neg hc2896)).trans (if_pos hc2897))] at kt
                  exact kt
                case neg =>
                  refine XS.icmpYes X2870.here hx rfl (pc0 := 494) (pc' := 503) rfl (hb hby at_494) rfl (feq hc2897).2 (by decide) (by decide) ?_
                  refine XS.iload X2870.here hx rfl (hb hby at_503) rfl ?_
                  refine XS.iconst X2870.here hx rfl (hb hby at_505) ?_
                  refine XS.icmpNo X2870.here hx rfl (hb hby at_506) rfl (flt la2).1 ?_
                  refine XS.iload X2870.here hx rfl (hb hby at_509) rfl ?_
                  refine XS.iload X2870.here hx rfl (hb hby at_511) rfl ?_
                  by_cases hc2898 : q = u1
                  case pos =>
                    refine XS.icmpNo X2870.here hx rfl (hb hby at_513) rfl (teq hc2898).2 ?_
                    refine XS.iconst X2870.here hx rfl (hb hby at_516) ?_
                    refine XS.istore X2870.here hx rfl (hb hby at_517) rfl (l' := (Y48 p1 p2 p3 p4 bb o1 o2 o3 o4 o5 b2287 al u0 u1 u2 b2368 b2764 b2850 sel q 1)) rfl ?_
                    refine XS.goto X2870.here hx rfl (pc0 := 519) (pc' := 544) rfl (hb hby at_519) (by decide) (by decide) ?_
                    rw [show ex = (1 : Int32) from (((((hex.trans (if_neg hc2894)).trans (if_neg hc2895)).trans (if_neg hc2896)).trans (if_neg hc2897)).trans (if_pos hc2898))] at kt
                    exact kt
                  case neg =>
                    refine XS.icmpYes X2870.here hx rfl (pc0 := 513) (pc' := 522) rfl (hb hby at_513) rfl (feq hc2898).2 (by decide) (by decide) ?_
                    refine XS.iload X2870.here hx rfl (hb hby at_522) rfl ?_
                    refine XS.iconst X2870.here hx rfl (hb hby at_524) ?_
                    refine XS.icmpNo X2870.here hx rfl (hb hby at_525) rfl (flt la3).1 ?_
                    refine XS.iload X2870.here hx rfl (hb hby at_528) rfl ?_
                    refine XS.iload X2870.here hx rfl (hb hby at_530) rfl ?_
                    by_cases hc2899 : q = u2
                    case pos =>
                      refine XS.icmpNo X2870.here hx rfl (hb hby at_532) rfl (teq hc2899).2 ?_
                      refine XS.iconst X2870.here hx rfl (hb hby at_535) ?_
                      refine XS.istore X2870.here hx rfl (hb hby at_536) rfl (l' := (Y48 p1 p2 p3 p4 bb o1 o2 o3 o4 o5 b2287 al u0 u1 u2 b2368 b2764 b2850 sel q 2)) rfl ?_
                      refine XS.goto X2870.here hx rfl (pc0 := 538) (pc' := 544) rfl (hb hby at_538) (by decide) (by decide) ?_
                      rw [show ex = (2 : Int32) from ((((((hex.trans (if_neg hc2894)).trans (if_neg hc2895)).trans (if_neg hc2896)).trans (if_neg hc2897)).trans (if_neg hc2898)).trans (if_pos hc2899))] at kt
                      exact kt
                    case neg =>
                      refine XS.icmpYes X2870.here hx rfl (pc0 := 532) (pc' := 541) rfl (hb hby at_532) rfl (feq hc2899).2 (by decide) (by decide) ?_
                      refine XS.iconst X2870.here hx rfl (hb hby at_541) ?_
                      refine XS.istore X2870.here hx rfl (hb hby at_542) rfl (l' := (Y48 p1 p2 p3 p4 bb o1 o2 o3 o4 o5 b2287 al u0 u1 u2 b2368 b2764 b2850 sel q (-1))) rfl ?_
                      rw [show ex = (-1 : Int32) from ((((((hex.trans (if_neg hc2894)).trans (if_neg hc2895)).trans (if_neg hc2896)).trans (if_neg hc2897)).trans (if_neg hc2898)).trans (if_neg hc2899))] at kt
                      exact kt)
        obtain ⟨_, T2901, L2901, X2901, N2901, ⟨_, rfl, -, e2901⟩, st2901⟩ := own_cV X2870 hx hZ hown (own_k_599 hw) (rmVo hw b2850 r2870 q (own_al (own_al (own_al (own_sy c0 c1 c2) u0 c0 (0 : Int32)) u1 c1 (1 : Int32)) u2 c2 (2 : Int32)) z2871 Fv2870 I2870 hq0) (W := 0) (k := 13) (n := 186) (by decide) rfl N2870 (fun _ _ _ h => h.2.1) c2883 (Ls := (Y48 p1 p2 p3 p4 bb o1 o2 o3 o4 o5 b2287 al u0 u1 u2 b2368 b2764 b2850 sel q ex)) (rest := []) hml.symm (lenOf pd_600 rfl) (Nat.le_of_eq rfl) (hb hby at_548)
        have hfin : (if q < (128 : Int32) then (own_al (own_al (own_al (own_sy c0 c1 c2) u0 c0 (0 : Int32)) u1 c1 (1 : Int32)) u2 c2 (2 : Int32)) q else (-1 : Int32)) = ex := own_fin3 c0 c1 c2 u0 u1 u2 q ex hex hpc0 hpc1 hpc2 hpu0 hpu1 hpu2 d10 d20 d21 e10 e20 e21 f01 f02 f10 f12 f20 f21
        have pre2902 : PQ p e below T2901 (mkF m 561 (Y48 p1 p2 p3 p4 bb o1 o2 o3 o4 o5 b2287 al u0 u1 u2 b2368 b2764 b2850 sel q ex) [(.int (1 : Int32))]) (s₁.setTop (entryFrame m #[(.int p1), (.int p2), (.int p3), (.int p4)] maxLocals)) := fun t kt => pre2900 t (by
          refine XS.aload X2870.here hx rfl (hb hby at_544) rfl rfl ?_
          refine XS.iload X2870.here hx rfl (hb hby at_546) rfl ?_
          refine st2901.trans ?_
          refine XS.iload X2901.here hx rfl (hb hby at_551) rfl ?_
          refine XS.icmpNo X2901.here hx rfl (hb hby at_553) rfl (teq hfin).2 ?_
          refine XS.iconst X2901.here hx rfl (hb hby at_556) ?_
          refine XS.goto X2901.here hx rfl (pc0 := 557) (pc' := 561) rfl (hb hby at_557) (by decide) (by decide) ?_
          exact kt)
        exact own_retNW (s := s) (vm₁ := s.vm) X2901 ((State.WarmedH.refl s).since 0) (Nat.zero_le _) hx Bd.notSynchronized (t := .boolean) Bd.returns (by simp) (hb hby at_561) pre2902 (show Q0 h0 n0 _ _ _ from ⟨rfl, N2901⟩) (by decide) (by decide)
set_option maxRecDepth 65536 in
set_option maxHeartbeats 40000000 in
theorem comes_1 {Post : Tables → Env → Array Value → State → Outcome → State → Prop} (hpost : ∀ tb e args s v u, (limb_1_1.after args s (.returned v) u = true ∧ limb_1_2.after args s (.returned v) u = true ∧ True) → ReturnedEndW s (.returned v) u (Jvm.fieldLocs frame_1_writes args s ++ Jvm.arrayLocs frame_1_arrays args s ++ Jvm.staticLocs frame_1_statics s) 40 1472 → Post tb e args s (.returned v) u) :
    ArmFor flags0 classFile x code maxLocals ret World_1 tables_1 room_1 Calls_1 rest_1 Pre_1 Post := by
  intro l hfl _ _ p e ha hc hk s m args below hf hA hF happ hP
  obtain ⟨hcalls, hrest, hpre⟩ := hP
  obtain ⟨-, -, -, hnamed, -, -, -, hat⟩ := (Spec.applies_iff hf).mp happ
  obtain ⟨hg, hn⟩ := and_e (Cond.before_iff.mp (show (Jvm.Cond.and given_1 narrow_1).before args s = true from hpre))
  obtain ⟨g1a, g1b⟩ := and_e hg
  obtain ⟨g2a, g2b⟩ := and_e g1b
  obtain ⟨g3a, g3b⟩ := and_e g2b
  obtain ⟨g4a, g4b⟩ := and_e g3b
  obtain ⟨w0, w1, w2, w3, rfl⟩ : ∃ w0 w1 w2 w3 : Value, args = #[w0, w1, w2, w3] := by
    have hs : args.size = 4 := by simpa [Cond.value, given_1] using g1a
    obtain ⟨L⟩ := args
    match L, hs with
    | [w0, w1, w2, w3], _ => exact ⟨w0, w1, w2, w3, rfl⟩
  have hw := fun d (hd : d ∈ tables_1) => atoms_spec (ws := Jvm.Cond.code x code maxLocals ret :: tables_1) hat d (List.mem_cons_of_mem _ hd)
  have hfit : Fit s := fun {y c} hc i hi => by
    obtain ⟨ha, rfl⟩ := Array.getElem?_eq_some_iff.mp hc
    have q := List.all_eq_true.mp ((Array.all_eq_true_iff_forall_mem.mp hF) _ (Array.getElem_mem ha)) i (List.mem_range.mpr hi)
    simpa [Array.getElem?_eq_getElem hi] using q
  obtain ⟨hsets, hown0⟩ := atoms_of _ (rest_1_c_eq ▸ (show rest_1_c.before _ s = true from hrest))
  have hr0 := Cond.before_iff.mp hown0
  obtain ⟨i0, ei0⟩ := is_v g2a
  obtain rfl : w0 = (.int i0) := Option.some.inj ei0
  obtain ⟨i1, ei1⟩ := is_v g3a
  obtain rfl : w1 = (.int i1) := Option.some.inj ei1
  obtain ⟨i2, ei2⟩ := is_v g4a
  obtain rfl : w2 = (.int i2) := Option.some.inj ei2
  obtain ⟨i3, ei3⟩ := is_v g4b
  obtain rfl : w3 = (.int i3) := Option.some.inj ei3
  obtain ⟨cs, evc⟩ := is_v (Cond.before_iff.mp (hsets _ (List.mem_of_getElem? (i := 1) rfl)))
  have S0 := Sta.start evc (Or.inl (hsets _ (List.mem_of_getElem? (i := 0) rfl)))
  have hcs : ¬ cs = (0 : Int32) := fun q => gotF (Cond.eq_ints evc (Term.int_eval 0)) (not_v (Cond.before_iff.mp (hsets _ (List.mem_of_getElem? (i := 2) rfl)))) q
  obtain ⟨fv, evf, hfr⟩ := isR_v (Cond.before_iff.mp (hsets _ (List.mem_of_getElem? (i := 8) rfl)))
  have S1 := Sta.start evf (Or.inl (hsets _ (List.mem_of_getElem? (i := 7) rfl)))
  have hfv : fv = .null ∨ ∃ r, fv = .ref r := by cases fv <;> simp [Value.isRef] at hfr ⊢
  have hcc : ∀ p ∈ EL0, Jvm.Lit.constHeld s p.1 p.2 := hcalls.1
  have hCH : CHv s EL0 s.vm s.heap := CHv.start (own_ew hw) hcc (show Jvm.Lit.compactW.before _ s = true from (hsets _ (List.mem_of_getElem? (i := 2) rfl))) (own_w hw 24 rfl) (own_w hw 7 rfl)
  have Ev : Ev0 s s.heap.size s.heap cs fv := ⟨Old.start s, S0, hcs, S1, hfv⟩
  obtain ⟨n, o, h1, h2, h3, _, L, rfl, ⟨rfl, N⟩, hq⟩ := rm0 l s _ hw tables_1 i0 i1 i2 i3 cs fv s.heap s.heap.size (Nat.le_refl _) Ev p e ha hc hk s m _ below hf ((Spec.applies_iff_loose hf).mp happ).1 ⟨rfl, State.Warmed39.refl s, rfl, hCH⟩ trivial
  refine ⟨n, _, h1, h2, h3, hpost _ _ _ _ _ _ ⟨Cond.after_iff.mpr rfl, Cond.after_iff.mpr (eq_i res_at (Term.int_eval (1)) rfl), trivial⟩ ⟨hq.1, hq.2.1, hq.2.2.1, (hq.2.2.2.sift fun y hy => Or.inr (N y hy)).mono (by decide) (by decide)⟩⟩
theorem main_1_1 : Claimed_1_1 := comes_1 fun _ _ _ _ _ _ h hF => ⟨h.1, hF⟩
theorem main_1_2 : Claimed_1_2 := comes_1 fun _ _ _ _ _ _ h hF => ⟨h.2.1, hF⟩
end Jvm.Pilot.@@N@@
namespace Jvm.Pilot.@@N@@
open Jvm Jvm.ClassFile Sem Op Lib Jvm.Free Jvm.Stand Jvm.Pilot.@@N@@.Jvm.D
/-! MADE BY PROGRAM (witnessworld.py) out of the Statement's table words and the real class files: 26 classes; the members and pool entries that the words name. The judged class is class 1, her method 2. -/
namespace start1
open Jvm.ClassFile
def u (s : String) : CpInfo := .utf8 (stringToUtf16 s)
/-- a pool by its gaps: so many unusable entries, then the entry; so many at the end -/
def gap : Nat → List CpInfo → List CpInfo
  | 0, r => r
  | n + 1, r => .unusable :: gap n r
def poolList (es : List (Nat × CpInfo)) (last : Nat) : List CpInfo := es.foldr (fun e r => gap e.1 (e.2 :: r)) (gap last [])
def pool (es : List (Nat × CpInfo)) (last : Nat) : Array CpInfo := ⟨poolList es last⟩
def fileOf (pool : Array CpInfo) (this : Nat) (attrs : Array Attribute := #[]) (ms : Array MethodInfo := #[]) (fl : Nat := 33) (sup : Nat := 0) (ifs : Array Nat := #[]) (fds : Array FieldInfo := #[]) : ClassFile where
  minorVersion := 0
  majorVersion := 65
  constantPool := pool
  accessFlags := fl
  thisClass := this
  superClass := sup
  interfaces := ifs
  fields := fds
  methods := ms
  attributes := attrs
def plain (name : String) (sup : Option ClassId) : Class where
  name := name
  kind := .ordinary
  loader := none
  accessFlags := 33
  super := sup
  interfaces := #[]
  cf := none
  fields := #[]
  methods := #[]
  instanceTypes := #[]
  staticTypes := #[]
  resolved := #[]
  callSites := []
  init := .initialized
  statics := none
  mirror := none

def pool0 : Array CpInfo := pool [(5, u "<init>"), (0, u "()V"), (1, .class_ 10), (1, u "java/lang/Object")] 113

def k0c0 : Code := { maxStack := 0, maxLocals := 1, code := object_method_1_code, exceptionTable := #[], attributes := #[] }
def k0m0 : Method := { name := "<init>", desc := "()V", sig := { parameters := [], returnType := none }, accessFlags := 1, code := some k0c0 }
/-- java/lang/Object -/
def k0 : Class := { plain "java/lang/Object" none with
  accessFlags := 33
  interfaces := #[]
  cf := some (fileOf pool0 8 #[] #[{ accessFlags := 1, nameIndex := 5, descriptorIndex := 6, attributes := #[] }] 33 0 #[] #[])
  fields := #[]
  methods := #[k0m0]
  instanceTypes := #[]
  staticTypes := #[]
  resolved := Array.replicate 124 none
  statics := none }

def pool1 : Array CpInfo := pool [(2, .class_ 4), (1, u "java/lang/Object"), (0, u "<init>"), (0, u "()V"), (0, .integer 2147483647), (0, .methodref 9 10), (0, .class_ 11), (0, .nameAndType 12 13), (0, u "com/example/digitwarden/digitwarden/model/AlphabetValueOfPinLaw"), (0, u "pick"), (0, u "(I)C"), (0, .class_ 15), (0, u "java/lang/String"), (0, .methodref 14 17), (0, .nameAndType 5 18), (0, u "([C)V"), (0, .class_ 20), (0, u "com/example/digitwarden/digitwarden/model/Alphabet"), (0, .methodref 19 22), (0, .nameAndType 5 23), (0, u "(Ljava/lang/String;Ljava/lang/String;)V"), (0, .integer 65280), (0, .methodref 19 26), (0, .nameAndType 27 28), (0, u "valueOf"), (0, u "(C)I"), (3, u "law"), (0, u "(IIII)Z")] 4

def k1m0 : Method := { name := "<init>", desc := "()V", sig := { parameters := [], returnType := none }, accessFlags := 1, code := none }
def k1c1 : Code := { maxStack := 2, maxLocals := 1, code := method_2_code, exceptionTable := #[], attributes := #[] }
def k1m1 : Method := { name := "pick", desc := "(I)C", sig := { parameters := [.int], returnType := some .char }, accessFlags := 10, code := some k1c1 }
def k1c2 : Code := { maxStack := 7, maxLocals := 21, code := code, exceptionTable := #[], attributes := #[] }
def k1m2 : Method := { name := "law", desc := "(IIII)Z", sig := { parameters := [.int, .int, .int, .int], returnType := some .boolean }, accessFlags := 9, code := some k1c2 }
/-- com/example/digitwarden/digitwarden/model/AlphabetValueOfPinLaw -/
def k1 : Class := { plain "com/example/digitwarden/digitwarden/model/AlphabetValueOfPinLaw" (some 0) with
  accessFlags := 49
  interfaces := #[]
  cf := some (fileOf pool1 9 #[] #[{ accessFlags := 1, nameIndex := 5, descriptorIndex := 6, attributes := #[] }, { accessFlags := 10, nameIndex := 12, descriptorIndex := 13, attributes := #[] }, { accessFlags := 9, nameIndex := 32, descriptorIndex := 33, attributes := #[] }] 49 2 #[] #[])
  fields := #[]
  methods := #[k1m0, k1m1, k1m2]
  instanceTypes := #[]
  staticTypes := #[]
  resolved := Array.replicate 38 none
  statics := none }

def pool2 : Array CpInfo := pool [(1, .class_ 2), (0, u "java/io/Serializable"), (0, .class_ 4), (0, u "java/lang/Object")] 2

/-- java/io/Serializable -/
def k2 : Class := { plain "java/io/Serializable" (some 0) with
  accessFlags := 1537
  interfaces := #[]
  cf := some (fileOf pool2 1 #[] #[] 1537 3 #[] #[])
  fields := #[]
  methods := #[]
  instanceTypes := #[]
  staticTypes := #[]
  resolved := Array.replicate 7 none
  statics := none }

def pool3 : Array CpInfo := pool [(1, .class_ 2), (0, u "java/lang/Comparable"), (0, .class_ 4), (0, u "java/lang/Object")] 7

/-- java/lang/Comparable -/
def k3 : Class := { plain "java/lang/Comparable" (some 0) with
  accessFlags := 1537
  interfaces := #[]
  cf := some (fileOf pool3 1 #[] #[] 1537 3 #[] #[])
  fields := #[]
  methods := #[]
  instanceTypes := #[]
  staticTypes := #[]
  resolved := Array.replicate 12 none
  statics := none }

def pool4 : Array CpInfo := pool [(2, .class_ 4), (1, u "java/lang/CharSequence"), (42, .class_ 48), (0, u "java/lang/CharSequence$1CodePointIterator"), (10, .class_ 60), (0, u "java/lang/CharSequence$1CharIterator"), (5, .class_ 67), (0, u "java/lang/Object")] 63

/-- java/lang/CharSequence -/
def k4 : Class := { plain "java/lang/CharSequence" (some 0) with
  accessFlags := 1537
  interfaces := #[]
  cf := some (fileOf pool4 2 #[.nestMembers #[47, 59]] #[] 1537 66 #[] #[])
  fields := #[]
  methods := #[]
  instanceTypes := #[]
  staticTypes := #[]
  resolved := Array.replicate 131 none
  statics := none }

def pool5 : Array CpInfo := pool [(1, .class_ 2), (0, u "java/lang/constant/Constable"), (0, .class_ 4), (0, u "java/lang/Object")] 6

/-- java/lang/constant/Constable -/
def k5 : Class := { plain "java/lang/constant/Constable" (some 0) with
  accessFlags := 1537
  interfaces := #[]
  cf := some (fileOf pool5 1 #[] #[] 1537 3 #[] #[])
  fields := #[]
  methods := #[]
  instanceTypes := #[]
  staticTypes := #[]
  resolved := Array.replicate 11 none
  statics := none }

def pool6 : Array CpInfo := pool [(1, .class_ 2), (0, u "java/lang/constant/ConstantDesc"), (0, .class_ 4), (0, u "java/lang/Object")] 32

/-- java/lang/constant/ConstantDesc -/
def k6 : Class := { plain "java/lang/constant/ConstantDesc" (some 0) with
  accessFlags := 1537
  interfaces := #[]
  cf := some (fileOf pool6 1 #[] #[] 1537 3 #[] #[])
  fields := #[]
  methods := #[]
  instanceTypes := #[]
  staticTypes := #[]
  resolved := Array.replicate 37 none
  statics := none }

def pool7 : Array CpInfo := pool [(1, .methodref 2 3), (0, .class_ 4), (0, .nameAndType 5 6), (0, u "java/lang/Object"), (0, u "<init>"), (0, u "()V"), (0, .string 8), (0, u ""), (0, .fieldref 10 11), (0, .class_ 12), (0, .nameAndType 13 14), (0, u "java/lang/String"), (0, u "value"), (0, u "[B"), (0, .fieldref 10 16), (0, .nameAndType 17 18), (0, u "coder"), (0, u "B"), (2, u "hash"), (0, u "I"), (2, u "hashIsZero"), (0, u "Z"), (0, .methodref 10 28), (0, .nameAndType 5 29), (0, u "([CIILjava/lang/Void;)V"), (8, .fieldref 10 39), (0, .nameAndType 40 26), (0, u "COMPACT_STRINGS"), (1, .class_ 44), (1, u "java/lang/StringUTF16"), (0, u "compress"), (1, .methodref 42 48), (0, .nameAndType 49 50), (0, u "coderFromArrayLen"), (0, u "([BI)B"), (3, .methodref 55 56), (0, .class_ 57), (0, .nameAndType 58 59), (0, u "java/util/Arrays"), (0, u "copyOfRange"), (0, u "([BII)[B"), (47, .class_ 109), (1, u "java/lang/StringLatin1"), (32, u "()Z"), (34, .methodref 42 178), (0, .nameAndType 45 179), (0, u "([CII)[B"), (13, .class_ 195), (1, u "java/lang/System"), (16, .methodref 193 213), (0, .nameAndType 214 215), (0, u "arraycopy"), (0, u "(Ljava/lang/Object;ILjava/lang/Object;II)V"), (118, u "()I"), (0, .methodref 10 336), (0, .nameAndType 17 337), (0, u "()B"), (2, u "()[B"), (22, u "([BI)C"), (27, u "(II)V"), (35, u "(I)C"), (61, .methodref 10 490), (0, .nameAndType 5 491), (0, u "(Ljava/lang/AbstractStringBuilder;Ljava/lang/Void;)V"), (0, .methodref 10 493), (0, .nameAndType 494 142), (0, u "isLatin1"), (0, .methodref 107 496), (0, .nameAndType 497 363), (0, u "charAt"), (3, u "checkIndex"), (4, .nameAndType 507 334), (0, u "length"), (24, u "getBytes"), (16, .methodref 550 506), (0, .class_ 551), (0, u "java/lang/AbstractStringBuilder"), (0, .methodref 550 553), (0, .nameAndType 554 340), (0, u "getValue"), (20, .class_ 576), (0, u "java/lang/CharSequence"), (22, u "CASE_INSENSITIVE_ORDER"), (0, u "Ljava/util/Comparator;"), (220, u "([BIB)V"), (188, u "([C)V"), (36, .methodref 550 493), (5, .fieldref 1054 1055), (0, .class_ 1056), (0, .nameAndType 1057 1058), (0, u "jdk/internal/util/Preconditions"), (0, u "SIOOBE_FORMATTER"), (0, u "Ljava/util/function/BiFunction;"), (0, .methodref 1054 1060), (0, .nameAndType 501 1061), (0, u "(IILjava/util/function/BiFunction;)I"), (39, u "serialPersistentFields"), (0, u "[Ljava/io/ObjectStreamField;"), (0, .class_ 1104), (0, u "java/lang/String$CaseInsensitiveComparator"), (1, .class_ 1107), (0, u "java/io/Serializable"), (0, .class_ 1109), (0, u "java/lang/Comparable"), (0, .class_ 1111), (0, u "java/lang/constant/Constable"), (0, .class_ 1113), (0, u "java/lang/constant/ConstantDesc"), (2, u "serialVersionUID"), (0, u "J"), (3, u "REPL"), (0, u "C"), (2, u "LATIN1"), (1, u "UTF16"), (105, u "(Ljava/lang/StringBuilder;)V")] 217

def k7m0 : Method := { name := "<init>", desc := "()V", sig := { parameters := [], returnType := none }, accessFlags := 1, code := none }
def k7c1 : Code := { maxStack := 5, maxLocals := 2, code := jdk_42_method_3_code, exceptionTable := #[], attributes := #[] }
def k7m1 : Method := { name := "<init>", desc := "([C)V", sig := { parameters := [(.array .char)], returnType := none }, accessFlags := 1, code := some k7c1 }
def k7c2 : Code := { maxStack := 3, maxLocals := 2, code := jdk_42_method_53_code, exceptionTable := #[], attributes := #[] }
def k7m2 : Method := { name := "<init>", desc := "(Ljava/lang/StringBuilder;)V", sig := { parameters := [(.object "java/lang/StringBuilder")], returnType := none }, accessFlags := 1, code := some k7c2 }
def k7c3 : Code := { maxStack := 2, maxLocals := 1, code := jdk_42_method_54_code, exceptionTable := #[], attributes := #[] }
def k7m3 : Method := { name := "length", desc := "()I", sig := { parameters := [], returnType := some .int }, accessFlags := 1, code := some k7c3 }
def k7c4 : Code := { maxStack := 2, maxLocals := 2, code := jdk_42_method_56_code, exceptionTable := #[], attributes := #[] }
def k7m4 : Method := { name := "charAt", desc := "(I)C", sig := { parameters := [.int], returnType := some .char }, accessFlags := 1, code := some k7c4 }
def k7c5 : Code := { maxStack := 5, maxLocals := 4, code := jdk_42_method_147_code, exceptionTable := #[], attributes := #[] }
def k7m5 : Method := { name := "getBytes", desc := "([BIB)V", sig := { parameters := [(.array .byte), .int, .byte], returnType := none }, accessFlags := 0, code := some k7c5 }
def k7c6 : Code := { maxStack := 4, maxLocals := 6, code := jdk_42_method_149_code, exceptionTable := #[], attributes := #[] }
def k7m6 : Method := { name := "<init>", desc := "([CIILjava/lang/Void;)V", sig := { parameters := [(.array .char), .int, .int, (.object "java/lang/Void")], returnType := none }, accessFlags := 2, code := some k7c6 }
def k7c7 : Code := { maxStack := 5, maxLocals := 5, code := jdk_42_method_150_code, exceptionTable := #[], attributes := #[] }
def k7m7 : Method := { name := "<init>", desc := "(Ljava/lang/AbstractStringBuilder;Ljava/lang/Void;)V", sig := { parameters := [(.object "java/lang/AbstractStringBuilder"), (.object "java/lang/Void")], returnType := none }, accessFlags := 0, code := some k7c7 }
def k7c8 : Code := { maxStack := 1, maxLocals := 1, code := jdk_42_method_152_code, exceptionTable := #[], attributes := #[] }
def k7m8 : Method := { name := "coder", desc := "()B", sig := { parameters := [], returnType := some .byte }, accessFlags := 0, code := some k7c8 }
def k7c9 : Code := { maxStack := 1, maxLocals := 1, code := jdk_42_method_154_code, exceptionTable := #[], attributes := #[] }
def k7m9 : Method := { name := "isLatin1", desc := "()Z", sig := { parameters := [], returnType := some .boolean }, accessFlags := 0, code := some k7c9 }
def k7c10 : Code := { maxStack := 3, maxLocals := 2, code := jdk_42_method_155_code, exceptionTable := #[], attributes := #[] }
def k7m10 : Method := { name := "checkIndex", desc := "(II)V", sig := { parameters := [.int, .int], returnType := none }, accessFlags := 8, code := some k7c10 }
/-- java/lang/String -/
def k7 : Class := { plain "java/lang/String" (some 0) with
  accessFlags := 49
  interfaces := #[2, 3, 4, 5, 6]
  cf := some (fileOf pool7 10 #[.nestMembers #[1103]] #[{ accessFlags := 1, nameIndex := 5, descriptorIndex := 6, attributes := #[] }, { accessFlags := 1, nameIndex := 5, descriptorIndex := 1010, attributes := #[] }, { accessFlags := 1, nameIndex := 5, descriptorIndex := 1233, attributes := #[] }, { accessFlags := 1, nameIndex := 507, descriptorIndex := 334, attributes := #[] }, { accessFlags := 1, nameIndex := 497, descriptorIndex := 427, attributes := #[] }, { accessFlags := 0, nameIndex := 532, descriptorIndex := 821, attributes := #[] }, { accessFlags := 2, nameIndex := 5, descriptorIndex := 29, attributes := #[] }, { accessFlags := 0, nameIndex := 5, descriptorIndex := 491, attributes := #[] }, { accessFlags := 0, nameIndex := 17, descriptorIndex := 337, attributes := #[] }, { accessFlags := 0, nameIndex := 494, descriptorIndex := 142, attributes := #[] }, { accessFlags := 8, nameIndex := 501, descriptorIndex := 391, attributes := #[] }] 49 2 #[1106, 1108, 575, 1110, 1112] #[{ accessFlags := 18, nameIndex := 13, descriptorIndex := 14, attributes := #[] }, { accessFlags := 18, nameIndex := 17, descriptorIndex := 18, attributes := #[] }, { accessFlags := 2, nameIndex := 21, descriptorIndex := 22, attributes := #[] }, { accessFlags := 2, nameIndex := 25, descriptorIndex := 26, attributes := #[] }, { accessFlags := 26, nameIndex := 1116, descriptorIndex := 1117, attributes := #[] }, { accessFlags := 24, nameIndex := 40, descriptorIndex := 26, attributes := #[] }, { accessFlags := 26, nameIndex := 1101, descriptorIndex := 1102, attributes := #[] }, { accessFlags := 26, nameIndex := 1121, descriptorIndex := 1122, attributes := #[] }, { accessFlags := 25, nameIndex := 599, descriptorIndex := 600, attributes := #[] }, { accessFlags := 24, nameIndex := 1125, descriptorIndex := 18, attributes := #[] }, { accessFlags := 24, nameIndex := 1127, descriptorIndex := 18, attributes := #[] }])
  fields := #[{ name := "value", type := (.array .byte), accessFlags := 18, slot := 0, constantValue := 0 }, { name := "coder", type := .byte, accessFlags := 18, slot := 1, constantValue := 0 }, { name := "hash", type := .int, accessFlags := 2, slot := 2, constantValue := 0 }, { name := "hashIsZero", type := .boolean, accessFlags := 2, slot := 3, constantValue := 0 }, { name := "serialVersionUID", type := .long, accessFlags := 26, slot := 0, constantValue := 0 }, { name := "COMPACT_STRINGS", type := .boolean, accessFlags := 24, slot := 1, constantValue := 0 }, { name := "serialPersistentFields", type := (.array (.object "java/io/ObjectStreamField")), accessFlags := 26, slot := 2, constantValue := 0 }, { name := "REPL", type := .char, accessFlags := 26, slot := 3, constantValue := 0 }, { name := "CASE_INSENSITIVE_ORDER", type := (.object "java/util/Comparator"), accessFlags := 25, slot := 4, constantValue := 0 }, { name := "LATIN1", type := .byte, accessFlags := 24, slot := 5, constantValue := 0 }, { name := "UTF16", type := .byte, accessFlags := 24, slot := 6, constantValue := 0 }]
  methods := #[k7m0, k7m1, k7m2, k7m3, k7m4, k7m5, k7m6, k7m7, k7m8, k7m9, k7m10]
  instanceTypes := #[(.array .byte), .byte, .int, .boolean]
  staticTypes := #[.long, .boolean, (.array (.object "java/io/ObjectStreamField")), .char, (.object "java/util/Comparator"), .byte, .byte]
  resolved := Array.replicate 1451 none
  statics := some 0 }

def pool8 : Array CpInfo := pool [(6, .class_ 8), (1, u "java/lang/Object"), (0, u "<init>"), (0, u "()V"), (1, .class_ 14), (1, u "java/lang/StringUTF16"), (31, u "$assertionsDisabled"), (0, u "Z"), (13, u "HI_BYTE_SHIFT"), (0, u "I"), (2, u "LO_BYTE_SHIFT"), (49, .methodref 12 116), (0, .nameAndType 117 118), (0, u "compress"), (0, u "([CI[BII)I"), (3, u "([CII)[B"), (138, u "coderFromArrayLen"), (0, u "([BI)B"), (106, .class_ 371), (1, u "java/lang/StringUTF16$LinesSpliterator"), (58, u "MAX_LENGTH"), (196, .class_ 628), (0, u "java/lang/StringUTF16$CodePointsSpliterator"), (0, .class_ 630), (0, u "java/lang/StringUTF16$CharsSpliterator")] 4

def k8m0 : Method := { name := "<init>", desc := "()V", sig := { parameters := [], returnType := none }, accessFlags := 0, code := none }
def k8c1 : Code := { maxStack := 2, maxLocals := 2, code := jdk_52_method_15_code, exceptionTable := #[], attributes := #[] }
def k8m1 : Method := { name := "coderFromArrayLen", desc := "([BI)B", sig := { parameters := [(.array .byte), .int], returnType := some .byte }, accessFlags := 8, code := some k8c1 }
def k8c2 : Code := { maxStack := 5, maxLocals := 6, code := jdk_52_method_16_code, exceptionTable := #[], attributes := #[] }
def k8m2 : Method := { name := "compress", desc := "([CII)[B", sig := { parameters := [(.array .char), .int, .int], returnType := some (.array .byte) }, accessFlags := 9, code := some k8c2 }
def k8c3 : Code := { maxStack := 3, maxLocals := 7, code := jdk_52_method_21_code, exceptionTable := #[], attributes := #[] }
def k8m3 : Method := { name := "compress", desc := "([CI[BII)I", sig := { parameters := [(.array .char), .int, (.array .byte), .int, .int], returnType := some .int }, accessFlags := 9, code := some k8c3 }
/-- java/lang/StringUTF16 -/
def k8 : Class := { plain "java/lang/StringUTF16" (some 0) with
  accessFlags := 48
  interfaces := #[]
  cf := some (fileOf pool8 12 #[.nestMembers #[627, 629, 369]] #[{ accessFlags := 0, nameIndex := 9, descriptorIndex := 10, attributes := #[] }, { accessFlags := 8, nameIndex := 261, descriptorIndex := 262, attributes := #[] }, { accessFlags := 9, nameIndex := 117, descriptorIndex := 122, attributes := #[] }, { accessFlags := 9, nameIndex := 117, descriptorIndex := 118, attributes := #[] }] 48 6 #[] #[{ accessFlags := 26, nameIndex := 61, descriptorIndex := 62, attributes := #[] }, { accessFlags := 26, nameIndex := 65, descriptorIndex := 62, attributes := #[] }, { accessFlags := 24, nameIndex := 430, descriptorIndex := 62, attributes := #[] }, { accessFlags := 4120, nameIndex := 46, descriptorIndex := 47, attributes := #[] }])
  fields := #[{ name := "HI_BYTE_SHIFT", type := .int, accessFlags := 26, slot := 0, constantValue := 0 }, { name := "LO_BYTE_SHIFT", type := .int, accessFlags := 26, slot := 1, constantValue := 0 }, { name := "MAX_LENGTH", type := .int, accessFlags := 24, slot := 2, constantValue := 0 }, { name := "$assertionsDisabled", type := .boolean, accessFlags := 4120, slot := 3, constantValue := 0 }]
  methods := #[k8m0, k8m1, k8m2, k8m3]
  instanceTypes := #[]
  staticTypes := #[.int, .int, .int, .boolean]
  resolved := Array.replicate 635 none
  statics := none }

def pool9 : Array CpInfo := pool [(4, .class_ 6), (1, u "com/example/digitwarden/digitwarden/model/Alphabet"), (0, u "<init>"), (0, u "(Ljava/lang/String;Ljava/lang/String;)V"), (0, .methodref 10 11), (0, .class_ 12), (0, .nameAndType 7 13), (0, u "java/lang/Object"), (0, u "()V"), (0, .methodref 15 16), (0, .class_ 17), (0, .nameAndType 18 19), (0, u "java/lang/String"), (0, u "length"), (0, u "()I"), (2, .class_ 23), (0, u "java/lang/StringBuilder"), (0, .methodref 22 11), (2, .methodref 22 28), (0, .nameAndType 29 30), (0, u "append"), (0, u "(Ljava/lang/String;)Ljava/lang/StringBuilder;"), (2, .methodref 22 34), (0, .nameAndType 35 36), (0, u "toString"), (0, u "()Ljava/lang/String;"), (7, .methodref 45 46), (0, .class_ 47), (0, .nameAndType 48 49), (0, u "java/util/Arrays"), (0, u "fill"), (0, u "([II)V"), (0, .methodref 15 51), (0, .nameAndType 52 53), (0, u "charAt"), (0, u "(I)C"), (0, .methodref 4 55), (0, .nameAndType 56 57), (0, u "isSeparator"), (0, u "(C)Z"), (6, u "valueOf"), (12, .fieldref 4 78), (0, .nameAndType 79 80), (0, u "_symbols"), (0, u "Ljava/lang/String;"), (0, .fieldref 4 82), (0, .nameAndType 83 84), (0, u "_values"), (0, u "[I"), (11, u "(C)I"), (10, u "DECIMAL"), (0, u "Lcom/example/digitwarden/digitwarden/model/Alphabet;"), (6, u "DECIMAL_WITH_X"), (4, u "LETTERS"), (4, u "ALPHANUMERIC"), (0, u "NOT_A_SYMBOL"), (0, u "I"), (2, u "ASCII_SIZE"), (1, u "NOT_A_NUMERAL")] 11

def k9c0 : Code := { maxStack := 7, maxLocals := 7, code := prog_8_method_2_code, exceptionTable := #[], attributes := #[] }
def k9m0 : Method := { name := "<init>", desc := "(Ljava/lang/String;Ljava/lang/String;)V", sig := { parameters := [(.object "java/lang/String"), (.object "java/lang/String")], returnType := none }, accessFlags := 1, code := some k9c0 }
def k9c1 : Code := { maxStack := 2, maxLocals := 1, code := prog_8_method_3_code, exceptionTable := #[], attributes := #[] }
def k9m1 : Method := { name := "isSeparator", desc := "(C)Z", sig := { parameters := [.char], returnType := some .boolean }, accessFlags := 9, code := some k9c1 }
def k9c2 : Code := { maxStack := 2, maxLocals := 2, code := prog_8_method_5_code, exceptionTable := #[], attributes := #[] }
def k9m2 : Method := { name := "valueOf", desc := "(C)I", sig := { parameters := [.char], returnType := some .int }, accessFlags := 1, code := some k9c2 }
/-- com/example/digitwarden/digitwarden/model/Alphabet -/
def k9 : Class := { plain "com/example/digitwarden/digitwarden/model/Alphabet" (some 0) with
  accessFlags := 49
  interfaces := #[]
  cf := some (fileOf pool9 4 #[] #[{ accessFlags := 1, nameIndex := 7, descriptorIndex := 8, attributes := #[] }, { accessFlags := 9, nameIndex := 56, descriptorIndex := 57, attributes := #[] }, { accessFlags := 1, nameIndex := 64, descriptorIndex := 96, attributes := #[] }] 49 10 #[] #[{ accessFlags := 25, nameIndex := 107, descriptorIndex := 108, attributes := #[] }, { accessFlags := 25, nameIndex := 115, descriptorIndex := 108, attributes := #[] }, { accessFlags := 25, nameIndex := 120, descriptorIndex := 108, attributes := #[] }, { accessFlags := 25, nameIndex := 125, descriptorIndex := 108, attributes := #[] }, { accessFlags := 25, nameIndex := 126, descriptorIndex := 127, attributes := #[] }, { accessFlags := 25, nameIndex := 130, descriptorIndex := 127, attributes := #[] }, { accessFlags := 26, nameIndex := 132, descriptorIndex := 127, attributes := #[] }, { accessFlags := 18, nameIndex := 79, descriptorIndex := 80, attributes := #[] }, { accessFlags := 18, nameIndex := 83, descriptorIndex := 84, attributes := #[] }])
  fields := #[{ name := "DECIMAL", type := (.object "com/example/digitwarden/digitwarden/model/Alphabet"), accessFlags := 25, slot := 0, constantValue := 0 }, { name := "DECIMAL_WITH_X", type := (.object "com/example/digitwarden/digitwarden/model/Alphabet"), accessFlags := 25, slot := 1, constantValue := 0 }, { name := "LETTERS", type := (.object "com/example/digitwarden/digitwarden/model/Alphabet"), accessFlags := 25, slot := 2, constantValue := 0 }, { name := "ALPHANUMERIC", type := (.object "com/example/digitwarden/digitwarden/model/Alphabet"), accessFlags := 25, slot := 3, constantValue := 0 }, { name := "NOT_A_SYMBOL", type := .int, accessFlags := 25, slot := 4, constantValue := 0 }, { name := "ASCII_SIZE", type := .int, accessFlags := 25, slot := 5, constantValue := 0 }, { name := "NOT_A_NUMERAL", type := .int, accessFlags := 26, slot := 6, constantValue := 0 }, { name := "_symbols", type := (.object "java/lang/String"), accessFlags := 18, slot := 0, constantValue := 0 }, { name := "_values", type := (.array .int), accessFlags := 18, slot := 1, constantValue := 0 }]
  methods := #[k9m0, k9m1, k9m2]
  instanceTypes := #[(.object "java/lang/String"), (.array .int)]
  staticTypes := #[(.object "com/example/digitwarden/digitwarden/model/Alphabet"), (.object "com/example/digitwarden/digitwarden/model/Alphabet"), (.object "com/example/digitwarden/digitwarden/model/Alphabet"), (.object "com/example/digitwarden/digitwarden/model/Alphabet"), .int, .int, .int]
  resolved := Array.replicate 144 none
  statics := none }

def pool10 : Array CpInfo := pool [(1, .class_ 2), (0, u "java/lang/Appendable"), (0, .class_ 4), (0, u "java/lang/Object")] 9

/-- java/lang/Appendable -/
def k10 : Class := { plain "java/lang/Appendable" (some 0) with
  accessFlags := 1537
  interfaces := #[]
  cf := some (fileOf pool10 1 #[] #[] 1537 3 #[] #[])
  fields := #[]
  methods := #[]
  instanceTypes := #[]
  staticTypes := #[]
  resolved := Array.replicate 14 none
  statics := none }

def pool11 : Array CpInfo := pool [(1, .class_ 2), (0, u "java/lang/String"), (0, .methodref 4 5), (0, .class_ 6), (0, .nameAndType 7 8), (0, u "java/lang/Object"), (0, u "<init>"), (0, u "()V"), (1, .class_ 12), (1, u "java/lang/AbstractStringBuilder"), (0, u "EMPTYVALUE"), (0, u "[B"), (0, .fieldref 10 16), (0, .nameAndType 17 14), (0, u "value"), (0, .fieldref 1 19), (0, .nameAndType 20 21), (0, u "COMPACT_STRINGS"), (0, u "Z"), (0, .fieldref 10 23), (0, .nameAndType 24 25), (0, u "coder"), (0, u "B"), (6, .methodref 1 33), (0, .nameAndType 34 35), (0, u "length"), (0, u "()I"), (4, .methodref 1 41), (0, .nameAndType 24 42), (0, u "()B"), (2, u "append"), (0, u "(Ljava/lang/String;)Ljava/lang/AbstractStringBuilder;"), (1, .class_ 49), (0, u "java/lang/CharSequence"), (19, u "(Ljava/lang/String;)V"), (5, u "maybeLatin1"), (3, .fieldref 10 80), (0, .nameAndType 81 82), (0, u "count"), (0, u "I"), (2, u "isLatin1"), (0, u "()Z"), (13, .methodref 10 101), (0, .nameAndType 102 103), (0, u "ensureCapacityInternal"), (0, u "(I)V"), (104, .methodref 10 209), (0, .nameAndType 210 211), (0, u "putStringAt"), (0, u "(ILjava/lang/String;)V"), (5, u "inflateIfNeededFor"), (2, .nameAndType 221 222), (0, u "getBytes"), (0, u "([BIB)V"), (174, .methodref 10 398), (0, .nameAndType 217 69), (0, .methodref 1 220), (3, u "()[B"), (40, .class_ 445), (0, u "java/lang/Appendable"), (106, u "getValue")] 56

def k11m0 : Method := { name := "<init>", desc := "()V", sig := { parameters := [], returnType := none }, accessFlags := 0, code := none }
def k11c1 : Code := { maxStack := 2, maxLocals := 2, code := jdk_68_method_2_code, exceptionTable := #[], attributes := #[] }
def k11m1 : Method := { name := "<init>", desc := "(I)V", sig := { parameters := [.int], returnType := none }, accessFlags := 0, code := some k11c1 }
def k11c2 : Code := { maxStack := 1, maxLocals := 1, code := jdk_68_method_6_code, exceptionTable := #[], attributes := #[] }
def k11m2 : Method := { name := "length", desc := "()I", sig := { parameters := [], returnType := some .int }, accessFlags := 1, code := some k11c2 }
def k11c3 : Code := { maxStack := 4, maxLocals := 3, code := jdk_68_method_9_code, exceptionTable := #[], attributes := #[] }
def k11m3 : Method := { name := "ensureCapacityInternal", desc := "(I)V", sig := { parameters := [.int], returnType := none }, accessFlags := 2, code := some k11c3 }
def k11c4 : Code := { maxStack := 3, maxLocals := 3, code := jdk_68_method_22_code, exceptionTable := #[], attributes := #[] }
def k11m4 : Method := { name := "append", desc := "(Ljava/lang/String;)Ljava/lang/AbstractStringBuilder;", sig := { parameters := [(.object "java/lang/String")], returnType := some (.object "java/lang/AbstractStringBuilder") }, accessFlags := 1, code := some k11c4 }
def k11c5 : Code := { maxStack := 1, maxLocals := 1, code := jdk_68_method_64_code, exceptionTable := #[], attributes := #[] }
def k11m5 : Method := { name := "getValue", desc := "()[B", sig := { parameters := [], returnType := some (.array .byte) }, accessFlags := 16, code := some k11c5 }
def k11c6 : Code := { maxStack := 1, maxLocals := 1, code := jdk_68_method_68_code, exceptionTable := #[], attributes := #[] }
def k11m6 : Method := { name := "isLatin1", desc := "()Z", sig := { parameters := [], returnType := some .boolean }, accessFlags := 16, code := some k11c6 }
def k11c7 : Code := { maxStack := 2, maxLocals := 2, code := jdk_68_method_71_code, exceptionTable := #[], attributes := #[] }
def k11m7 : Method := { name := "inflateIfNeededFor", desc := "(Ljava/lang/String;)V", sig := { parameters := [(.object "java/lang/String")], returnType := none }, accessFlags := 2, code := some k11c7 }
def k11c8 : Code := { maxStack := 4, maxLocals := 3, code := jdk_68_method_73_code, exceptionTable := #[], attributes := #[] }
def k11m8 : Method := { name := "putStringAt", desc := "(ILjava/lang/String;)V", sig := { parameters := [.int, (.object "java/lang/String")], returnType := none }, accessFlags := 2, code := some k11c8 }
/-- java/lang/AbstractStringBuilder -/
def k11 : Class := { plain "java/lang/AbstractStringBuilder" (some 0) with
  accessFlags := 1056
  interfaces := #[10, 4]
  cf := some (fileOf pool11 10 #[] #[{ accessFlags := 0, nameIndex := 7, descriptorIndex := 8, attributes := #[] }, { accessFlags := 0, nameIndex := 7, descriptorIndex := 103, attributes := #[] }, { accessFlags := 1, nameIndex := 34, descriptorIndex := 35, attributes := #[] }, { accessFlags := 2, nameIndex := 102, descriptorIndex := 103, attributes := #[] }, { accessFlags := 1, nameIndex := 45, descriptorIndex := 46, attributes := #[] }, { accessFlags := 16, nameIndex := 552, descriptorIndex := 403, attributes := #[] }, { accessFlags := 16, nameIndex := 85, descriptorIndex := 86, attributes := #[] }, { accessFlags := 2, nameIndex := 217, descriptorIndex := 69, attributes := #[] }, { accessFlags := 2, nameIndex := 210, descriptorIndex := 211, attributes := #[] }] 1056 4 #[444, 48] #[{ accessFlags := 0, nameIndex := 17, descriptorIndex := 14, attributes := #[] }, { accessFlags := 0, nameIndex := 24, descriptorIndex := 25, attributes := #[] }, { accessFlags := 0, nameIndex := 75, descriptorIndex := 21, attributes := #[] }, { accessFlags := 0, nameIndex := 81, descriptorIndex := 82, attributes := #[] }, { accessFlags := 26, nameIndex := 13, descriptorIndex := 14, attributes := #[] }])
  fields := #[{ name := "value", type := (.array .byte), accessFlags := 0, slot := 0, constantValue := 0 }, { name := "coder", type := .byte, accessFlags := 0, slot := 1, constantValue := 0 }, { name := "maybeLatin1", type := .boolean, accessFlags := 0, slot := 2, constantValue := 0 }, { name := "count", type := .int, accessFlags := 0, slot := 3, constantValue := 0 }, { name := "EMPTYVALUE", type := (.array .byte), accessFlags := 26, slot := 0, constantValue := 0 }]
  methods := #[k11m0, k11m1, k11m2, k11m3, k11m4, k11m5, k11m6, k11m7, k11m8]
  instanceTypes := #[(.array .byte), .byte, .boolean, .int]
  staticTypes := #[(.array .byte)]
  resolved := Array.replicate 609 none
  statics := none }

def pool12 : Array CpInfo := pool [(1, .methodref 2 3), (0, .class_ 4), (0, .nameAndType 5 6), (0, u "java/lang/AbstractStringBuilder"), (0, u "<init>"), (0, u "(I)V"), (11, .class_ 20), (1, u "java/lang/String"), (3, .class_ 26), (1, u "java/lang/StringBuilder"), (0, u "append"), (0, u "(Ljava/lang/String;)Ljava/lang/StringBuilder;"), (0, .methodref 2 30), (0, .nameAndType 27 31), (0, u "(Ljava/lang/String;)Ljava/lang/AbstractStringBuilder;"), (105, .methodref 18 138), (0, .nameAndType 5 139), (0, u "(Ljava/lang/StringBuilder;)V"), (5, u "()V"), (10, u "()I"), (186, .methodref 2 344), (0, .nameAndType 345 156), (0, u "length"), (3, .class_ 350), (0, u "java/lang/Appendable"), (0, .class_ 352), (0, u "java/io/Serializable"), (0, .class_ 354), (0, u "java/lang/Comparable"), (0, .class_ 356), (0, u "java/lang/CharSequence"), (0, u "serialVersionUID"), (0, u "J"), (40, u "toString"), (0, u "()Ljava/lang/String;")] 21

def k12c0 : Code := { maxStack := 2, maxLocals := 1, code := jdk_67_method_1_code, exceptionTable := #[], attributes := #[] }
def k12m0 : Method := { name := "<init>", desc := "()V", sig := { parameters := [], returnType := none }, accessFlags := 1, code := some k12c0 }
def k12c1 : Code := { maxStack := 2, maxLocals := 2, code := jdk_67_method_7_code, exceptionTable := #[], attributes := #[] }
def k12m1 : Method := { name := "append", desc := "(Ljava/lang/String;)Ljava/lang/StringBuilder;", sig := { parameters := [(.object "java/lang/String")], returnType := some (.object "java/lang/StringBuilder") }, accessFlags := 1, code := some k12c1 }
def k12c2 : Code := { maxStack := 3, maxLocals := 1, code := jdk_67_method_42_code, exceptionTable := #[], attributes := #[] }
def k12m2 : Method := { name := "toString", desc := "()Ljava/lang/String;", sig := { parameters := [], returnType := some (.object "java/lang/String") }, accessFlags := 1, code := some k12c2 }
def k12c3 : Code := { maxStack := 1, maxLocals := 1, code := jdk_67_method_93_code, exceptionTable := #[], attributes := #[] }
def k12m3 : Method := { name := "length", desc := "()I", sig := { parameters := [], returnType := some .int }, accessFlags := 4161, code := some k12c3 }
/-- java/lang/StringBuilder -/
def k12 : Class := { plain "java/lang/StringBuilder" (some 11) with
  accessFlags := 49
  interfaces := #[10, 2, 3, 4]
  cf := some (fileOf pool12 24 #[] #[{ accessFlags := 1, nameIndex := 5, descriptorIndex := 145, attributes := #[] }, { accessFlags := 1, nameIndex := 27, descriptorIndex := 28, attributes := #[] }, { accessFlags := 1, nameIndex := 399, descriptorIndex := 400, attributes := #[] }, { accessFlags := 4161, nameIndex := 345, descriptorIndex := 156, attributes := #[] }] 49 2 #[349, 351, 353, 355] #[{ accessFlags := 24, nameIndex := 357, descriptorIndex := 358, attributes := #[] }])
  fields := #[{ name := "serialVersionUID", type := .long, accessFlags := 24, slot := 0, constantValue := 0 }]
  methods := #[k12m0, k12m1, k12m2, k12m3]
  instanceTypes := #[(.array .byte), .byte, .boolean, .int]
  staticTypes := #[.long]
  resolved := Array.replicate 422 none
  statics := none }

def pool13 : Array CpInfo := pool [(2, .class_ 4), (1, u "java/lang/Object"), (0, u "<init>"), (0, u "()V"), (1, .class_ 10), (1, u "java/lang/System"), (0, u "allowSecurityManager"), (0, u "I"), (16, u "cons"), (0, u "Ljava/io/Console;"), (77, .class_ 110), (1, u "java/lang/System$CallersHolder"), (43, u "initialErrStream"), (0, u "Ljava/io/PrintStream;"), (19, u "security"), (0, u "Ljava/lang/SecurityManager;"), (31, .class_ 209), (0, u "java/lang/System$1"), (7, u "props"), (0, u "Ljava/util/Properties;"), (2, u "lineSeparator"), (0, u "Ljava/lang/String;"), (96, .class_ 321), (1, u "java/lang/System$LoggerFinder"), (5, .class_ 328), (0, u "java/lang/System$Logger"), (67, u "err"), (2, u "out"), (91, u "notSupportedJnuEncoding"), (15, u "in"), (17, u "initialIn"), (0, u "Ljava/io/InputStream;"), (35, u "bootLayer"), (0, u "Ljava/lang/ModuleLayer;"), (99, .class_ 664), (0, u "java/lang/System$2"), (9, u "NEVER"), (2, u "MAYBE"), (49, u "arraycopy"), (0, u "(Ljava/lang/Object;ILjava/lang/Object;II)V"), (72, .class_ 802), (0, u "java/lang/System$Logger$Level")] 31

def k13m0 : Method := { name := "<init>", desc := "()V", sig := { parameters := [], returnType := none }, accessFlags := 2, code := none }
def k13m1 : Method := { name := "arraycopy", desc := "(Ljava/lang/Object;ILjava/lang/Object;II)V", sig := { parameters := [(.object "java/lang/Object"), .int, (.object "java/lang/Object"), .int, .int], returnType := none }, accessFlags := 265, code := none }
/-- java/lang/System -/
def k13 : Class := { plain "java/lang/System" (some 0) with
  accessFlags := 49
  interfaces := #[]
  cf := some (fileOf pool13 8 #[.nestMembers #[319, 327, 801, 108, 663, 208]] #[{ accessFlags := 2, nameIndex := 5, descriptorIndex := 6, attributes := #[] }, { accessFlags := 265, nameIndex := 727, descriptorIndex := 728, attributes := #[] }] 49 2 #[] #[{ accessFlags := 25, nameIndex := 507, descriptorIndex := 526, attributes := #[] }, { accessFlags := 25, nameIndex := 399, descriptorIndex := 155, attributes := #[] }, { accessFlags := 25, nameIndex := 396, descriptorIndex := 155, attributes := #[] }, { accessFlags := 10, nameIndex := 525, descriptorIndex := 526, attributes := #[] }, { accessFlags := 26, nameIndex := 674, descriptorIndex := 12, attributes := #[] }, { accessFlags := 26, nameIndex := 677, descriptorIndex := 12, attributes := #[] }, { accessFlags := 10, nameIndex := 11, descriptorIndex := 12, attributes := #[] }, { accessFlags := 74, nameIndex := 175, descriptorIndex := 176, attributes := #[] }, { accessFlags := 10, nameIndex := 491, descriptorIndex := 222, attributes := #[] }, { accessFlags := 74, nameIndex := 29, descriptorIndex := 30, attributes := #[] }, { accessFlags := 74, nameIndex := 154, descriptorIndex := 155, attributes := #[] }, { accessFlags := 10, nameIndex := 217, descriptorIndex := 218, attributes := #[] }, { accessFlags := 10, nameIndex := 221, descriptorIndex := 222, attributes := #[] }, { accessFlags := 8, nameIndex := 562, descriptorIndex := 563, attributes := #[] }])
  fields := #[{ name := "in", type := (.object "java/io/InputStream"), accessFlags := 25, slot := 0, constantValue := 0 }, { name := "out", type := (.object "java/io/PrintStream"), accessFlags := 25, slot := 1, constantValue := 0 }, { name := "err", type := (.object "java/io/PrintStream"), accessFlags := 25, slot := 2, constantValue := 0 }, { name := "initialIn", type := (.object "java/io/InputStream"), accessFlags := 10, slot := 3, constantValue := 0 }, { name := "NEVER", type := .int, accessFlags := 26, slot := 4, constantValue := 0 }, { name := "MAYBE", type := .int, accessFlags := 26, slot := 5, constantValue := 0 }, { name := "allowSecurityManager", type := .int, accessFlags := 10, slot := 6, constantValue := 0 }, { name := "security", type := (.object "java/lang/SecurityManager"), accessFlags := 74, slot := 7, constantValue := 0 }, { name := "notSupportedJnuEncoding", type := (.object "java/lang/String"), accessFlags := 10, slot := 8, constantValue := 0 }, { name := "cons", type := (.object "java/io/Console"), accessFlags := 74, slot := 9, constantValue := 0 }, { name := "initialErrStream", type := (.object "java/io/PrintStream"), accessFlags := 74, slot := 10, constantValue := 0 }, { name := "props", type := (.object "java/util/Properties"), accessFlags := 10, slot := 11, constantValue := 0 }, { name := "lineSeparator", type := (.object "java/lang/String"), accessFlags := 10, slot := 12, constantValue := 0 }, { name := "bootLayer", type := (.object "java/lang/ModuleLayer"), accessFlags := 8, slot := 13, constantValue := 0 }]
  methods := #[k13m0, k13m1]
  instanceTypes := #[]
  staticTypes := #[(.object "java/io/InputStream"), (.object "java/io/PrintStream"), (.object "java/io/PrintStream"), (.object "java/io/InputStream"), .int, .int, .int, (.object "java/lang/SecurityManager"), (.object "java/lang/String"), (.object "java/io/Console"), (.object "java/io/PrintStream"), (.object "java/util/Properties"), (.object "java/lang/String"), (.object "java/lang/ModuleLayer")]
  resolved := Array.replicate 834 none
  statics := none }

def pool14 : Array CpInfo := pool [(2, .class_ 4), (1, u "java/lang/Object"), (0, u "<init>"), (0, u "()V"), (7, .class_ 16), (1, u "java/util/Arrays"), (57, .class_ 76), (1, u "java/util/Arrays$NaturalOrder"), (36, .class_ 115), (1, u "java/util/Arrays$LegacyMergeSort"), (1, u "Z"), (21, u "copyOfRange"), (10, .methodref 151 152), (0, .class_ 153), (0, .nameAndType 154 155), (0, u "java/lang/System"), (0, u "arraycopy"), (0, u "(Ljava/lang/Object;ILjava/lang/Object;II)V"), (148, .methodref 305 306), (0, .class_ 307), (0, .nameAndType 308 309), (0, u "java/lang/Math"), (0, u "min"), (0, u "(II)I"), (29, .methodref 14 340), (0, .nameAndType 341 342), (0, u "copyOfRangeByte"), (0, u "([BII)[B"), (0, .methodref 14 344), (0, .nameAndType 345 346), (0, u "checkLength"), (0, u "(II)V"), (28, .class_ 376), (0, u "java/util/Arrays$ArrayList"), (68, u "$assertionsDisabled"), (269, u "MIN_ARRAY_SORT_GRAN"), (0, u "I"), (2, u "INSERTIONSORT_THRESHOLD"), (120, u "fill"), (4, u "([II)V"), (129, .class_ 976), (0, u "java/util/Arrays$ArrayItr")] 52

def k14m0 : Method := { name := "<init>", desc := "()V", sig := { parameters := [], returnType := none }, accessFlags := 2, code := none }
def k14c1 : Code := { maxStack := 3, maxLocals := 4, code := jdk_65_method_103_code, exceptionTable := #[], attributes := #[] }
def k14m1 : Method := { name := "fill", desc := "([II)V", sig := { parameters := [(.array .int), .int], returnType := none }, accessFlags := 9, code := some k14c1 }
def k14c2 : Code := { maxStack := 4, maxLocals := 2, code := jdk_65_method_131_code, exceptionTable := #[], attributes := #[] }
def k14m2 : Method := { name := "checkLength", desc := "(II)V", sig := { parameters := [.int, .int], returnType := none }, accessFlags := 10, code := some k14c2 }
def k14c3 : Code := { maxStack := 3, maxLocals := 3, code := jdk_65_method_132_code, exceptionTable := #[], attributes := #[] }
def k14m3 : Method := { name := "copyOfRange", desc := "([BII)[B", sig := { parameters := [(.array .byte), .int, .int], returnType := some (.array .byte) }, accessFlags := 9, code := some k14c3 }
def k14c4 : Code := { maxStack := 6, maxLocals := 5, code := jdk_65_method_133_code, exceptionTable := #[], attributes := #[] }
def k14m4 : Method := { name := "copyOfRangeByte", desc := "([BII)[B", sig := { parameters := [(.array .byte), .int, .int], returnType := some (.array .byte) }, accessFlags := 10, code := some k14c4 }
/-- java/util/Arrays -/
def k14 : Class := { plain "java/util/Arrays" (some 0) with
  accessFlags := 49
  interfaces := #[]
  cf := some (fileOf pool14 14 #[.nestMembers #[975, 375, 113, 74]] #[{ accessFlags := 2, nameIndex := 5, descriptorIndex := 6, attributes := #[] }, { accessFlags := 9, nameIndex := 840, descriptorIndex := 845, attributes := #[] }, { accessFlags := 10, nameIndex := 345, descriptorIndex := 346, attributes := #[] }, { accessFlags := 9, nameIndex := 139, descriptorIndex := 342, attributes := #[] }, { accessFlags := 10, nameIndex := 341, descriptorIndex := 342, attributes := #[] }] 49 2 #[] #[{ accessFlags := 26, nameIndex := 715, descriptorIndex := 716, attributes := #[] }, { accessFlags := 26, nameIndex := 719, descriptorIndex := 716, attributes := #[] }, { accessFlags := 4120, nameIndex := 445, descriptorIndex := 117, attributes := #[] }])
  fields := #[{ name := "MIN_ARRAY_SORT_GRAN", type := .int, accessFlags := 26, slot := 0, constantValue := 0 }, { name := "INSERTIONSORT_THRESHOLD", type := .int, accessFlags := 26, slot := 1, constantValue := 0 }, { name := "$assertionsDisabled", type := .boolean, accessFlags := 4120, slot := 2, constantValue := 0 }]
  methods := #[k14m0, k14m1, k14m2, k14m3, k14m4]
  instanceTypes := #[]
  staticTypes := #[.int, .int, .boolean]
  resolved := Array.replicate 1029 none
  statics := none }

def pool15 : Array CpInfo := pool [(1, .class_ 2), (0, u "java/lang/Math"), (1, .class_ 6), (1, u "java/lang/Object"), (0, u "<init>"), (0, u "()V"), (89, .class_ 100), (1, u "java/lang/Math$RandomNumberGeneratorHolder"), (71, u "negativeZeroFloatBits"), (0, u "J"), (2, u "negativeZeroDoubleBits"), (24, u "min"), (43, u "$assertionsDisabled"), (0, u "Z"), (88, u "(II)I"), (2, u "twoToTheDoubleScaleDown"), (0, u "D"), (4, u "twoToTheDoubleScaleUp"), (9, u "E"), (3, u "PI"), (2, u "TAU"), (2, u "DEGREES_TO_RADIANS"), (0, u "RADIANS_TO_DEGREES")] 94

def k15m0 : Method := { name := "<init>", desc := "()V", sig := { parameters := [], returnType := none }, accessFlags := 2, code := none }
def k15c1 : Code := { maxStack := 2, maxLocals := 2, code := jdk_29_method_69_code, exceptionTable := #[], attributes := #[] }
def k15m1 : Method := { name := "min", desc := "(II)I", sig := { parameters := [.int, .int], returnType := some .int }, accessFlags := 9, code := some k15c1 }
/-- java/lang/Math -/
def k15 : Class := { plain "java/lang/Math" (some 0) with
  accessFlags := 49
  interfaces := #[]
  cf := some (fileOf pool15 1 #[.nestMembers #[98]] #[{ accessFlags := 2, nameIndex := 7, descriptorIndex := 8, attributes := #[] }, { accessFlags := 9, nameIndex := 201, descriptorIndex := 335, attributes := #[] }] 49 4 #[] #[{ accessFlags := 25, nameIndex := 354, descriptorIndex := 339, attributes := #[] }, { accessFlags := 25, nameIndex := 358, descriptorIndex := 339, attributes := #[] }, { accessFlags := 25, nameIndex := 361, descriptorIndex := 339, attributes := #[] }, { accessFlags := 26, nameIndex := 364, descriptorIndex := 339, attributes := #[] }, { accessFlags := 26, nameIndex := 365, descriptorIndex := 339, attributes := #[] }, { accessFlags := 26, nameIndex := 172, descriptorIndex := 173, attributes := #[] }, { accessFlags := 26, nameIndex := 176, descriptorIndex := 173, attributes := #[] }, { accessFlags := 8, nameIndex := 344, descriptorIndex := 339, attributes := #[] }, { accessFlags := 8, nameIndex := 338, descriptorIndex := 339, attributes := #[] }, { accessFlags := 4120, nameIndex := 245, descriptorIndex := 246, attributes := #[] }])
  fields := #[{ name := "E", type := .double, accessFlags := 25, slot := 0, constantValue := 0 }, { name := "PI", type := .double, accessFlags := 25, slot := 1, constantValue := 0 }, { name := "TAU", type := .double, accessFlags := 25, slot := 2, constantValue := 0 }, { name := "DEGREES_TO_RADIANS", type := .double, accessFlags := 26, slot := 3, constantValue := 0 }, { name := "RADIANS_TO_DEGREES", type := .double, accessFlags := 26, slot := 4, constantValue := 0 }, { name := "negativeZeroFloatBits", type := .long, accessFlags := 26, slot := 5, constantValue := 0 }, { name := "negativeZeroDoubleBits", type := .long, accessFlags := 26, slot := 6, constantValue := 0 }, { name := "twoToTheDoubleScaleUp", type := .double, accessFlags := 8, slot := 7, constantValue := 0 }, { name := "twoToTheDoubleScaleDown", type := .double, accessFlags := 8, slot := 8, constantValue := 0 }, { name := "$assertionsDisabled", type := .boolean, accessFlags := 4120, slot := 9, constantValue := 0 }]
  methods := #[k15m0, k15m1]
  instanceTypes := #[]
  staticTypes := #[.double, .double, .double, .double, .double, .long, .long, .double, .double, .boolean]
  resolved := Array.replicate 460 none
  statics := none }

def pool16 : Array CpInfo := pool [(1, .class_ 2), (0, u "java/lang/String"), (1, .class_ 6), (1, u "java/lang/Object"), (0, u "<init>"), (0, u "()V"), (0, .methodref 1 10), (0, .nameAndType 11 12), (0, u "checkIndex"), (0, u "(II)V"), (1, .class_ 16), (1, u "java/lang/StringLatin1"), (36, u "([BI)C"), (67, u "$assertionsDisabled"), (0, u "Z"), (98, .class_ 223), (1, u "java/lang/StringLatin1$LinesSpliterator"), (28, u "charAt"), (137, .class_ 391), (0, u "java/lang/StringLatin1$CharsSpliterator")] 3

def k16m0 : Method := { name := "<init>", desc := "()V", sig := { parameters := [], returnType := none }, accessFlags := 0, code := none }
def k16c1 : Code := { maxStack := 2, maxLocals := 2, code := jdk_43_method_2_code, exceptionTable := #[], attributes := #[] }
def k16m1 : Method := { name := "charAt", desc := "([BI)C", sig := { parameters := [(.array .byte), .int], returnType := some .char }, accessFlags := 9, code := some k16c1 }
/-- java/lang/StringLatin1 -/
def k16 : Class := { plain "java/lang/StringLatin1" (some 0) with
  accessFlags := 48
  interfaces := #[]
  cf := some (fileOf pool16 14 #[.nestMembers #[390, 221]] #[{ accessFlags := 0, nameIndex := 7, descriptorIndex := 8, attributes := #[] }, { accessFlags := 9, nameIndex := 252, descriptorIndex := 53, attributes := #[] }] 48 4 #[] #[{ accessFlags := 4120, nameIndex := 121, descriptorIndex := 122, attributes := #[] }])
  fields := #[{ name := "$assertionsDisabled", type := .boolean, accessFlags := 4120, slot := 0, constantValue := 0 }]
  methods := #[k16m0, k16m1]
  instanceTypes := #[]
  staticTypes := #[.boolean]
  resolved := Array.replicate 395 none
  statics := none }

def pool17 : Array CpInfo := pool [(2, .class_ 4), (1, u "java/lang/Object"), (0, u "<init>"), (0, u "()V"), (17, .class_ 26), (1, u "jdk/internal/util/Preconditions"), (6, u "checkIndex"), (21, .class_ 56), (0, u "jdk/internal/util/Preconditions$4"), (57, .class_ 115), (0, u "jdk/internal/util/Preconditions$1"), (7, u "SIOOBE_FORMATTER"), (0, u "Ljava/util/function/BiFunction;"), (0, .class_ 126), (0, u "jdk/internal/util/Preconditions$2"), (3, u "AIOOBE_FORMATTER"), (0, .class_ 132), (0, u "jdk/internal/util/Preconditions$3"), (3, u "IOOBE_FORMATTER"), (41, u "(IILjava/util/function/BiFunction;)I")] 15

def k17m0 : Method := { name := "<init>", desc := "()V", sig := { parameters := [], returnType := none }, accessFlags := 1, code := none }
def k17c1 : Code := { maxStack := 3, maxLocals := 3, code := jdk_41_method_11_code, exceptionTable := #[], attributes := #[] }
def k17m1 : Method := { name := "checkIndex", desc := "(IILjava/util/function/BiFunction;)I", sig := { parameters := [.int, .int, (.object "java/util/function/BiFunction")], returnType := some .int }, accessFlags := 9, code := some k17c1 }
/-- jdk/internal/util/Preconditions -/
def k17 : Class := { plain "jdk/internal/util/Preconditions" (some 0) with
  accessFlags := 33
  interfaces := #[]
  cf := some (fileOf pool17 24 #[.nestMembers #[55, 131, 125, 114]] #[{ accessFlags := 1, nameIndex := 5, descriptorIndex := 6, attributes := #[] }, { accessFlags := 9, nameIndex := 33, descriptorIndex := 178, attributes := #[] }] 33 2 #[] #[{ accessFlags := 25, nameIndex := 123, descriptorIndex := 124, attributes := #[] }, { accessFlags := 25, nameIndex := 130, descriptorIndex := 124, attributes := #[] }, { accessFlags := 25, nameIndex := 136, descriptorIndex := 124, attributes := #[] }])
  fields := #[{ name := "SIOOBE_FORMATTER", type := (.object "java/util/function/BiFunction"), accessFlags := 25, slot := 0, constantValue := 0 }, { name := "AIOOBE_FORMATTER", type := (.object "java/util/function/BiFunction"), accessFlags := 25, slot := 1, constantValue := 0 }, { name := "IOOBE_FORMATTER", type := (.object "java/util/function/BiFunction"), accessFlags := 25, slot := 2, constantValue := 0 }]
  methods := #[k17m0, k17m1]
  instanceTypes := #[]
  staticTypes := #[(.object "java/util/function/BiFunction"), (.object "java/util/function/BiFunction"), (.object "java/util/function/BiFunction")]
  resolved := Array.replicate 194 none
  statics := some 1 }

def pool18 : Array CpInfo := pool [(9, u "<init>"), (6, .class_ 18), (1, u "java/lang/Object"), (0, u "()V"), (1, .class_ 23), (1, u "jdk/internal/util/ArraysSupport"), (0, u "LOG2_ARRAY_LONG_INDEX_SCALE"), (0, u "I"), (2, u "U"), (0, u "Ljdk/internal/misc/Unsafe;"), (8, u "BIG_ENDIAN"), (0, u "Z"), (8, u "LOG2_BYTE_BIT_SIZE"), (4, u "LOG2_ARRAY_INT_INDEX_SCALE"), (54, u "JLA"), (0, u "Ljdk/internal/access/JavaLangAccess;"), (11, u "LOG2_ARRAY_BOOLEAN_INDEX_SCALE"), (9, u "LOG2_ARRAY_BYTE_INDEX_SCALE"), (5, u "LOG2_ARRAY_CHAR_INDEX_SCALE"), (5, u "LOG2_ARRAY_SHORT_INDEX_SCALE"), (18, u "LOG2_ARRAY_FLOAT_INDEX_SCALE"), (24, u "LOG2_ARRAY_DOUBLE_INDEX_SCALE"), (89, u "T_BOOLEAN"), (2, u "T_CHAR"), (1, u "T_FLOAT"), (1, u "T_DOUBLE"), (1, u "T_BYTE"), (1, u "T_SHORT"), (1, u "T_INT"), (1, u "T_LONG"), (1, u "SOFT_MAX_ARRAY_LENGTH")] 83

def k18m0 : Method := { name := "<init>", desc := "()V", sig := { parameters := [], returnType := none }, accessFlags := 2, code := none }
/-- jdk/internal/util/ArraysSupport -/
def k18 : Class := { plain "jdk/internal/util/ArraysSupport" (some 0) with
  accessFlags := 33
  interfaces := #[]
  cf := some (fileOf pool18 21 #[] #[{ accessFlags := 2, nameIndex := 9, descriptorIndex := 19, attributes := #[] }] 33 16 #[] #[{ accessFlags := 24, nameIndex := 28, descriptorIndex := 29, attributes := #[] }, { accessFlags := 26, nameIndex := 38, descriptorIndex := 39, attributes := #[] }, { accessFlags := 25, nameIndex := 121, descriptorIndex := 25, attributes := #[] }, { accessFlags := 25, nameIndex := 131, descriptorIndex := 25, attributes := #[] }, { accessFlags := 25, nameIndex := 137, descriptorIndex := 25, attributes := #[] }, { accessFlags := 25, nameIndex := 143, descriptorIndex := 25, attributes := #[] }, { accessFlags := 25, nameIndex := 53, descriptorIndex := 25, attributes := #[] }, { accessFlags := 25, nameIndex := 24, descriptorIndex := 25, attributes := #[] }, { accessFlags := 25, nameIndex := 162, descriptorIndex := 25, attributes := #[] }, { accessFlags := 25, nameIndex := 187, descriptorIndex := 25, attributes := #[] }, { accessFlags := 26, nameIndex := 48, descriptorIndex := 25, attributes := #[] }, { accessFlags := 25, nameIndex := 277, descriptorIndex := 25, attributes := #[] }, { accessFlags := 25, nameIndex := 280, descriptorIndex := 25, attributes := #[] }, { accessFlags := 25, nameIndex := 282, descriptorIndex := 25, attributes := #[] }, { accessFlags := 25, nameIndex := 284, descriptorIndex := 25, attributes := #[] }, { accessFlags := 25, nameIndex := 286, descriptorIndex := 25, attributes := #[] }, { accessFlags := 25, nameIndex := 288, descriptorIndex := 25, attributes := #[] }, { accessFlags := 25, nameIndex := 290, descriptorIndex := 25, attributes := #[] }, { accessFlags := 25, nameIndex := 292, descriptorIndex := 25, attributes := #[] }, { accessFlags := 26, nameIndex := 108, descriptorIndex := 109, attributes := #[] }, { accessFlags := 25, nameIndex := 294, descriptorIndex := 25, attributes := #[] }])
  fields := #[{ name := "U", type := (.object "jdk/internal/misc/Unsafe"), accessFlags := 24, slot := 0, constantValue := 0 }, { name := "BIG_ENDIAN", type := .boolean, accessFlags := 26, slot := 1, constantValue := 0 }, { name := "LOG2_ARRAY_BOOLEAN_INDEX_SCALE", type := .int, accessFlags := 25, slot := 2, constantValue := 0 }, { name := "LOG2_ARRAY_BYTE_INDEX_SCALE", type := .int, accessFlags := 25, slot := 3, constantValue := 0 }, { name := "LOG2_ARRAY_CHAR_INDEX_SCALE", type := .int, accessFlags := 25, slot := 4, constantValue := 0 }, { name := "LOG2_ARRAY_SHORT_INDEX_SCALE", type := .int, accessFlags := 25, slot := 5, constantValue := 0 }, { name := "LOG2_ARRAY_INT_INDEX_SCALE", type := .int, accessFlags := 25, slot := 6, constantValue := 0 }, { name := "LOG2_ARRAY_LONG_INDEX_SCALE", type := .int, accessFlags := 25, slot := 7, constantValue := 0 }, { name := "LOG2_ARRAY_FLOAT_INDEX_SCALE", type := .int, accessFlags := 25, slot := 8, constantValue := 0 }, { name := "LOG2_ARRAY_DOUBLE_INDEX_SCALE", type := .int, accessFlags := 25, slot := 9, constantValue := 0 }, { name := "LOG2_BYTE_BIT_SIZE", type := .int, accessFlags := 26, slot := 10, constantValue := 0 }, { name := "T_BOOLEAN", type := .int, accessFlags := 25, slot := 11, constantValue := 0 }, { name := "T_CHAR", type := .int, accessFlags := 25, slot := 12, constantValue := 0 }, { name := "T_FLOAT", type := .int, accessFlags := 25, slot := 13, constantValue := 0 }, { name := "T_DOUBLE", type := .int, accessFlags := 25, slot := 14, constantValue := 0 }, { name := "T_BYTE", type := .int, accessFlags := 25, slot := 15, constantValue := 0 }, { name := "T_SHORT", type := .int, accessFlags := 25, slot := 16, constantValue := 0 }, { name := "T_INT", type := .int, accessFlags := 25, slot := 17, constantValue := 0 }, { name := "T_LONG", type := .int, accessFlags := 25, slot := 18, constantValue := 0 }, { name := "JLA", type := (.object "jdk/internal/access/JavaLangAccess"), accessFlags := 26, slot := 19, constantValue := 0 }, { name := "SOFT_MAX_ARRAY_LENGTH", type := .int, accessFlags := 25, slot := 20, constantValue := 0 }]
  methods := #[k18m0]
  instanceTypes := #[]
  staticTypes := #[(.object "jdk/internal/misc/Unsafe"), .boolean, .int, .int, .int, .int, .int, .int, .int, .int, .int, .int, .int, .int, .int, .int, .int, .int, .int, (.object "jdk/internal/access/JavaLangAccess"), .int]
  resolved := Array.replicate 378 none
  statics := none }

def pool19 : Array CpInfo := pool [(1, u "java/lang/Cloneable"), (0, .class_ 1), (0, u "java/lang/Object"), (0, .class_ 3)] 3

/-- java/lang/Cloneable -/
def k19 : Class := { plain "java/lang/Cloneable" (some 0) with
  accessFlags := 1537
  interfaces := #[]
  cf := some (fileOf pool19 2 #[] #[] 1537 4 #[] #[])
  fields := #[]
  methods := #[]
  instanceTypes := #[]
  staticTypes := #[]
  resolved := Array.replicate 8 none
  statics := none }

/-- the primitive byte -/
def k20 : Class := { plain "byte" none with kind := .primitive 'B', accessFlags := 0x411 }
/-- [B -/
def k21 : Class := { plain "[B" (some 0) with kind := .array 20 .byte, interfaces := #[19, 2], accessFlags := 1041 }

/-- the primitive char -/
def k22 : Class := { plain "char" none with kind := .primitive 'C', accessFlags := 0x411 }
/-- [C -/
def k23 : Class := { plain "[C" (some 0) with kind := .array 22 .char, interfaces := #[19, 2], accessFlags := 1041 }

/-- the primitive int -/
def k24 : Class := { plain "int" none with kind := .primitive 'I', accessFlags := 0x411 }
/-- [I -/
def k25 : Class := { plain "[I" (some 0) with kind := .array 24 .int, interfaces := #[19, 2], accessFlags := 1041 }

def heap : Heap := #[{ cls := 7, slots := #[.long 0, .int 1, .null, .int 0, .null, .int 0, .int 0], vm := .statics 7 },
  { cls := 17, slots := #[.null, .null, .null], vm := .statics 17 }]
def classes : Array Class := #[k0, k1, k2, k3, k4, k5, k6, k7, k8, k9, k10, k11, k12, k13, k14, k15, k16, k17, k18, k19, k20, k21, k22, k23, k24, k25]
def interned : List (Array UInt16 × Addr) := []
def slotsUsed : Nat := 10
def theMethod : MethodId := ⟨1, 2⟩
def args0 : Array Value := #[.int 3, .int 1, .int 2, .int 3]
def aboutOver (below : List Frame) : State where
  vm := { classes := classes, interned := interned.toArray }
  heap := heap
  slotsUsed := slotsUsed
  threads := #[{ frames := .invoking theMethod args0 :: below }]
def below0 : List Frame := [.native { method := ⟨0, 0⟩, args := #[] }]
def about1 : State := aboutOver below0
def p0 : Program := .bare "" "" ""
def e0 : Env := launch0.env 0 0 0
theorem w_frames : about1.frames = Frame.invoking theMethod args0 :: below0 := rfl
set_option maxRecDepth 65536 in
theorem w_args : argsFit about1.vm theMethod args0 = true := by decide +kernel
set_option maxRecDepth 65536 in
theorem w_heap : heapFits about1 = true := by decide +kernel
set_option maxRecDepth 65536 in
theorem w_runnable : about1.curStatus? = some .runnable := by decide +kernel
set_option maxRecDepth 65536 in
theorem w_alone : about1.alone = true := by decide +kernel
set_option maxRecDepth 65536 in
theorem w_named : about1.methodNamed? x = some theMethod := by decide +kernel
set_option maxRecDepth 65536 in
theorem w_hears : about1.hears theMethod below0 = true := by decide +kernel
set_option maxRecDepth 65536 in
theorem w_ripe : about1.ripe theMethod args0 below0 = true := by decide +kernel
theorem w_running : about1.status = .running := rfl
set_option maxRecDepth 65536 in
theorem w_room : about1.hasRoom e0.platform room_1 = true :=
  launch0.hasRoom_least _ room_1 (by decide +kernel) (by decide +kernel) (by decide +kernel) (by decide +kernel) (by decide +kernel) (by decide +kernel)
theorem allAtoms_all (ts : List Jvm.Cond) (a : Array Jvm.Value) (st : Jvm.State) : (allAtoms ts).before a st = ts.all (fun c => c.before a st) := by
  induction ts with
  | nil => rfl
  | cons c t ih =>
    show (Jvm.Cond.and c (allAtoms t)).before a st = _
    rw [Jvm.Cond.before_and, ih, List.all_cons]
def words1 : List Jvm.Cond := Jvm.Cond.code x code maxLocals ret :: tables_1
/-- a 'code' word, met by the world's own term for the bytes: nothing is compared byte by byte -/
theorem code_word {y : MethodName} {bytes : ByteArray} {mx : Nat} {rt : Option FieldType} {a : Array Value} {s : State} {m : MethodId} {meth : Method} {c : Code} (h1 : s.methodNamed? y = some m) (h2 : s.vm.method? m = some meth) (h3 : meth.code = some c) (h4 : c.code = bytes)
    (h5 : (c.maxLocals == mx && c.exceptionTable.isEmpty && decide (c.maxStack ≤ mostOperands) && decide (meth.sig.returnType = rt) && !meth.locks && decide (parseMethodDescriptor y.desc = some meth.sig)) = true) : (Jvm.Cond.code y bytes mx rt).before a s = true := by
  simp only [Bool.and_eq_true, beq_iff_eq, Bool.not_eq_true', decide_eq_true_eq] at h5
  obtain ⟨⟨⟨⟨⟨g1, g2⟩, g3⟩, g4⟩, g5⟩, g6⟩ := h5
  simp [Cond.before, Cond.holds, Cond.value, h1, h2, h3, h4, g1, g2, g3, g4, g5, g6]
def isCode : Jvm.Cond → Bool
  | .code _ _ _ _ => true
  | _ => false
theorem all_split {L : List Jvm.Cond} {P : Jvm.Cond → Bool} (h1 : L.all (fun c => isCode c || P c) = true) (h2 : ∀ c ∈ L.filter isCode, P c = true) : L.all P = true := by
  refine List.all_eq_true.mpr fun c hc => ?_
  have h := List.all_eq_true.mp h1 c hc
  rcases Bool.eq_false_or_eq_true (isCode c) with hi | hi
  · exact h2 c (List.mem_filter.mpr ⟨hc, hi⟩)
  · simpa [hi] using h
set_option maxRecDepth 65536 in
theorem w_c0 : (Jvm.Cond.code x code maxLocals ret).before args0 about1 = true := code_word (m := ⟨1, 2⟩) (meth := k1m2) (c := k1c2) (by decide +kernel) rfl rfl rfl (by decide +kernel)
set_option maxRecDepth 65536 in
theorem w_c1 : (Jvm.Cond.code ({ cls := "com/example/digitwarden/digitwarden/model/AlphabetValueOfPinLaw", name := "pick", desc := "(I)C" } : Jvm.MethodName) method_2_code (1 : Nat) (Option.some Jvm.ClassFile.FieldType.char)).before args0 about1 = true := code_word (m := ⟨1, 1⟩) (meth := k1m1) (c := k1c1) (by decide +kernel) rfl rfl rfl (by decide +kernel)
set_option maxRecDepth 65536 in
theorem w_c2 : (Jvm.Cond.code ({ cls := "java/lang/String", name := "<init>", desc := "([C)V" } : Jvm.MethodName) jdk_42_method_3_code (2 : Nat) (Option.none : Option Jvm.ClassFile.FieldType)).before args0 about1 = true := code_word (m := ⟨7, 1⟩) (meth := k7m1) (c := k7c1) (by decide +kernel) rfl rfl rfl (by decide +kernel)
set_option maxRecDepth 65536 in
theorem w_c3 : (Jvm.Cond.code ({ cls := "java/lang/String", name := "<init>", desc := "([CIILjava/lang/Void;)V" } : Jvm.MethodName) jdk_42_method_149_code (6 : Nat) (Option.none : Option Jvm.ClassFile.FieldType)).before args0 about1 = true := code_word (m := ⟨7, 6⟩) (meth := k7m6) (c := k7c6) (by decide +kernel) rfl rfl rfl (by decide +kernel)
set_option maxRecDepth 65536 in
theorem w_c4 : (Jvm.Cond.code ({ cls := "java/lang/Object", name := "<init>", desc := "()V" } : Jvm.MethodName) object_method_1_code (1 : Nat) (Option.none : Option Jvm.ClassFile.FieldType)).before args0 about1 = true := code_word (m := ⟨0, 0⟩) (meth := k0m0) (c := k0c0) (by decide +kernel) rfl rfl rfl (by decide +kernel)
set_option maxRecDepth 65536 in
theorem w_c5 : (Jvm.Cond.code ({ cls := "java/lang/StringUTF16", name := "compress", desc := "([CII)[B" } : Jvm.MethodName) jdk_52_method_16_code (6 : Nat) (Option.some (Jvm.ClassFile.FieldType.array Jvm.ClassFile.FieldType.byte))).before args0 about1 = true := code_word (m := ⟨8, 2⟩) (meth := k8m2) (c := k8c2) (by decide +kernel) rfl rfl rfl (by decide +kernel)
set_option maxRecDepth 65536 in
theorem w_c6 : (Jvm.Cond.code ({ cls := "java/lang/StringUTF16", name := "compress", desc := "([CI[BII)I" } : Jvm.MethodName) jdk_52_method_21_code (7 : Nat) (Option.some Jvm.ClassFile.FieldType.int)).before args0 about1 = true := code_word (m := ⟨8, 3⟩) (meth := k8m3) (c := k8c3) (by decide +kernel) rfl rfl rfl (by decide +kernel)
set_option maxRecDepth 65536 in
theorem w_c7 : (Jvm.Cond.code ({ cls := "java/lang/StringUTF16", name := "coderFromArrayLen", desc := "([BI)B" } : Jvm.MethodName) jdk_52_method_15_code (2 : Nat) (Option.some Jvm.ClassFile.FieldType.byte)).before args0 about1 = true := code_word (m := ⟨8, 1⟩) (meth := k8m1) (c := k8c1) (by decide +kernel) rfl rfl rfl (by decide +kernel)
set_option maxRecDepth 65536 in
theorem w_c8 : (Jvm.Cond.code ({ cls := "com/example/digitwarden/digitwarden/model/Alphabet", name := "<init>", desc := "(Ljava/lang/String;Ljava/lang/String;)V" } : Jvm.MethodName) prog_8_method_2_code (7 : Nat) (Option.none : Option Jvm.ClassFile.FieldType)).before args0 about1 = true := code_word (m := ⟨9, 0⟩) (meth := k9m0) (c := k9c0) (by decide +kernel) rfl rfl rfl (by decide +kernel)
set_option maxRecDepth 65536 in
theorem w_c9 : (Jvm.Cond.code ({ cls := "java/lang/String", name := "length", desc := "()I" } : Jvm.MethodName) jdk_42_method_54_code (1 : Nat) (Option.some Jvm.ClassFile.FieldType.int)).before args0 about1 = true := code_word (m := ⟨7, 3⟩) (meth := k7m3) (c := k7c3) (by decide +kernel) rfl rfl rfl (by decide +kernel)
set_option maxRecDepth 65536 in
theorem w_c10 : (Jvm.Cond.code ({ cls := "java/lang/String", name := "coder", desc := "()B" } : Jvm.MethodName) jdk_42_method_152_code (1 : Nat) (Option.some Jvm.ClassFile.FieldType.byte)).before args0 about1 = true := code_word (m := ⟨7, 8⟩) (meth := k7m8) (c := k7c8) (by decide +kernel) rfl rfl rfl (by decide +kernel)
set_option maxRecDepth 65536 in
theorem w_c11 : (Jvm.Cond.code ({ cls := "java/lang/StringBuilder", name := "<init>", desc := "()V" } : Jvm.MethodName) jdk_67_method_1_code (1 : Nat) (Option.none : Option Jvm.ClassFile.FieldType)).before args0 about1 = true := code_word (m := ⟨12, 0⟩) (meth := k12m0) (c := k12c0) (by decide +kernel) rfl rfl rfl (by decide +kernel)
set_option maxRecDepth 65536 in
theorem w_c12 : (Jvm.Cond.code ({ cls := "java/lang/AbstractStringBuilder", name := "<init>", desc := "(I)V" } : Jvm.MethodName) jdk_68_method_2_code (2 : Nat) (Option.none : Option Jvm.ClassFile.FieldType)).before args0 about1 = true := code_word (m := ⟨11, 1⟩) (meth := k11m1) (c := k11c1) (by decide +kernel) rfl rfl rfl (by decide +kernel)
set_option maxRecDepth 65536 in
theorem w_c13 : (Jvm.Cond.code ({ cls := "java/lang/StringBuilder", name := "append", desc := "(Ljava/lang/String;)Ljava/lang/StringBuilder;" } : Jvm.MethodName) jdk_67_method_7_code (2 : Nat) (Option.some (Jvm.ClassFile.FieldType.object "java/lang/StringBuilder"))).before args0 about1 = true := code_word (m := ⟨12, 1⟩) (meth := k12m1) (c := k12c1) (by decide +kernel) rfl rfl rfl (by decide +kernel)
set_option maxRecDepth 65536 in
theorem w_c14 : (Jvm.Cond.code ({ cls := "java/lang/AbstractStringBuilder", name := "append", desc := "(Ljava/lang/String;)Ljava/lang/AbstractStringBuilder;" } : Jvm.MethodName) jdk_68_method_22_code (3 : Nat) (Option.some (Jvm.ClassFile.FieldType.object "java/lang/AbstractStringBuilder"))).before args0 about1 = true := code_word (m := ⟨11, 4⟩) (meth := k11m4) (c := k11c4) (by decide +kernel) rfl rfl rfl (by decide +kernel)
set_option maxRecDepth 65536 in
theorem w_c15 : (Jvm.Cond.code ({ cls := "java/lang/AbstractStringBuilder", name := "ensureCapacityInternal", desc := "(I)V" } : Jvm.MethodName) jdk_68_method_9_code (3 : Nat) (Option.none : Option Jvm.ClassFile.FieldType)).before args0 about1 = true := code_word (m := ⟨11, 3⟩) (meth := k11m3) (c := k11c3) (by decide +kernel) rfl rfl rfl (by decide +kernel)
set_option maxRecDepth 65536 in
theorem w_c16 : (Jvm.Cond.code ({ cls := "java/lang/AbstractStringBuilder", name := "putStringAt", desc := "(ILjava/lang/String;)V" } : Jvm.MethodName) jdk_68_method_73_code (3 : Nat) (Option.none : Option Jvm.ClassFile.FieldType)).before args0 about1 = true := code_word (m := ⟨11, 8⟩) (meth := k11m8) (c := k11c8) (by decide +kernel) rfl rfl rfl (by decide +kernel)
set_option maxRecDepth 65536 in
theorem w_c17 : (Jvm.Cond.code ({ cls := "java/lang/AbstractStringBuilder", name := "inflateIfNeededFor", desc := "(Ljava/lang/String;)V" } : Jvm.MethodName) jdk_68_method_71_code (2 : Nat) (Option.none : Option Jvm.ClassFile.FieldType)).before args0 about1 = true := code_word (m := ⟨11, 7⟩) (meth := k11m7) (c := k11c7) (by decide +kernel) rfl rfl rfl (by decide +kernel)
set_option maxRecDepth 65536 in
theorem w_c18 : (Jvm.Cond.code ({ cls := "java/lang/String", name := "getBytes", desc := "([BIB)V" } : Jvm.MethodName) jdk_42_method_147_code (4 : Nat) (Option.none : Option Jvm.ClassFile.FieldType)).before args0 about1 = true := code_word (m := ⟨7, 5⟩) (meth := k7m5) (c := k7c5) (by decide +kernel) rfl rfl rfl (by decide +kernel)
set_option maxRecDepth 65536 in
theorem w_c19 : (Jvm.Cond.code ({ cls := "java/lang/StringBuilder", name := "toString", desc := "()Ljava/lang/String;" } : Jvm.MethodName) jdk_67_method_42_code (1 : Nat) (Option.some (Jvm.ClassFile.FieldType.object "java/lang/String"))).before args0 about1 = true := code_word (m := ⟨12, 2⟩) (meth := k12m2) (c := k12c2) (by decide +kernel) rfl rfl rfl (by decide +kernel)
set_option maxRecDepth 65536 in
theorem w_c20 : (Jvm.Cond.code ({ cls := "java/lang/String", name := "<init>", desc := "(Ljava/lang/StringBuilder;)V" } : Jvm.MethodName) jdk_42_method_53_code (2 : Nat) (Option.none : Option Jvm.ClassFile.FieldType)).before args0 about1 = true := code_word (m := ⟨7, 2⟩) (meth := k7m2) (c := k7c2) (by decide +kernel) rfl rfl rfl (by decide +kernel)
set_option maxRecDepth 65536 in
theorem w_c21 : (Jvm.Cond.code ({ cls := "java/lang/String", name := "<init>", desc := "(Ljava/lang/AbstractStringBuilder;Ljava/lang/Void;)V" } : Jvm.MethodName) jdk_42_method_150_code (5 : Nat) (Option.none : Option Jvm.ClassFile.FieldType)).before args0 about1 = true := code_word (m := ⟨7, 7⟩) (meth := k7m7) (c := k7c7) (by decide +kernel) rfl rfl rfl (by decide +kernel)
set_option maxRecDepth 65536 in
theorem w_c22 : (Jvm.Cond.code ({ cls := "java/lang/AbstractStringBuilder", name := "getValue", desc := "()[B" } : Jvm.MethodName) jdk_68_method_64_code (1 : Nat) (Option.some (Jvm.ClassFile.FieldType.array Jvm.ClassFile.FieldType.byte))).before args0 about1 = true := code_word (m := ⟨11, 5⟩) (meth := k11m5) (c := k11c5) (by decide +kernel) rfl rfl rfl (by decide +kernel)
set_option maxRecDepth 65536 in
theorem w_c23 : (Jvm.Cond.code ({ cls := "java/lang/StringBuilder", name := "length", desc := "()I" } : Jvm.MethodName) jdk_67_method_93_code (1 : Nat) (Option.some Jvm.ClassFile.FieldType.int)).before args0 about1 = true := code_word (m := ⟨12, 3⟩) (meth := k12m3) (c := k12c3) (by decide +kernel) rfl rfl rfl (by decide +kernel)
set_option maxRecDepth 65536 in
theorem w_c24 : (Jvm.Cond.code ({ cls := "java/lang/AbstractStringBuilder", name := "length", desc := "()I" } : Jvm.MethodName) jdk_68_method_6_code (1 : Nat) (Option.some Jvm.ClassFile.FieldType.int)).before args0 about1 = true := code_word (m := ⟨11, 2⟩) (meth := k11m2) (c := k11c2) (by decide +kernel) rfl rfl rfl (by decide +kernel)
set_option maxRecDepth 65536 in
theorem w_c25 : (Jvm.Cond.code ({ cls := "java/lang/AbstractStringBuilder", name := "isLatin1", desc := "()Z" } : Jvm.MethodName) jdk_68_method_68_code (1 : Nat) (Option.some Jvm.ClassFile.FieldType.boolean)).before args0 about1 = true := code_word (m := ⟨11, 6⟩) (meth := k11m6) (c := k11c6) (by decide +kernel) rfl rfl rfl (by decide +kernel)
set_option maxRecDepth 65536 in
theorem w_c26 : (Jvm.Cond.code ({ cls := "java/util/Arrays", name := "copyOfRange", desc := "([BII)[B" } : Jvm.MethodName) jdk_65_method_132_code (3 : Nat) (Option.some (Jvm.ClassFile.FieldType.array Jvm.ClassFile.FieldType.byte))).before args0 about1 = true := code_word (m := ⟨14, 3⟩) (meth := k14m3) (c := k14c3) (by decide +kernel) rfl rfl rfl (by decide +kernel)
set_option maxRecDepth 65536 in
theorem w_c27 : (Jvm.Cond.code ({ cls := "java/util/Arrays", name := "copyOfRangeByte", desc := "([BII)[B" } : Jvm.MethodName) jdk_65_method_133_code (5 : Nat) (Option.some (Jvm.ClassFile.FieldType.array Jvm.ClassFile.FieldType.byte))).before args0 about1 = true := code_word (m := ⟨14, 4⟩) (meth := k14m4) (c := k14c4) (by decide +kernel) rfl rfl rfl (by decide +kernel)
set_option maxRecDepth 65536 in
theorem w_c28 : (Jvm.Cond.code ({ cls := "java/util/Arrays", name := "checkLength", desc := "(II)V" } : Jvm.MethodName) jdk_65_method_131_code (2 : Nat) (Option.none : Option Jvm.ClassFile.FieldType)).before args0 about1 = true := code_word (m := ⟨14, 2⟩) (meth := k14m2) (c := k14c2) (by decide +kernel) rfl rfl rfl (by decide +kernel)
set_option maxRecDepth 65536 in
theorem w_c29 : (Jvm.Cond.code ({ cls := "java/lang/Math", name := "min", desc := "(II)I" } : Jvm.MethodName) jdk_29_method_69_code (2 : Nat) (Option.some Jvm.ClassFile.FieldType.int)).before args0 about1 = true := code_word (m := ⟨15, 1⟩) (meth := k15m1) (c := k15c1) (by decide +kernel) rfl rfl rfl (by decide +kernel)
set_option maxRecDepth 65536 in
theorem w_c30 : (Jvm.Cond.code ({ cls := "java/util/Arrays", name := "fill", desc := "([II)V" } : Jvm.MethodName) jdk_65_method_103_code (4 : Nat) (Option.none : Option Jvm.ClassFile.FieldType)).before args0 about1 = true := code_word (m := ⟨14, 1⟩) (meth := k14m1) (c := k14c1) (by decide +kernel) rfl rfl rfl (by decide +kernel)
set_option maxRecDepth 65536 in
theorem w_c31 : (Jvm.Cond.code ({ cls := "java/lang/String", name := "charAt", desc := "(I)C" } : Jvm.MethodName) jdk_42_method_56_code (2 : Nat) (Option.some Jvm.ClassFile.FieldType.char)).before args0 about1 = true := code_word (m := ⟨7, 4⟩) (meth := k7m4) (c := k7c4) (by decide +kernel) rfl rfl rfl (by decide +kernel)
set_option maxRecDepth 65536 in
theorem w_c32 : (Jvm.Cond.code ({ cls := "java/lang/String", name := "isLatin1", desc := "()Z" } : Jvm.MethodName) jdk_42_method_154_code (1 : Nat) (Option.some Jvm.ClassFile.FieldType.boolean)).before args0 about1 = true := code_word (m := ⟨7, 9⟩) (meth := k7m9) (c := k7c9) (by decide +kernel) rfl rfl rfl (by decide +kernel)
set_option maxRecDepth 65536 in
theorem w_c33 : (Jvm.Cond.code ({ cls := "java/lang/StringLatin1", name := "charAt", desc := "([BI)C" } : Jvm.MethodName) jdk_43_method_2_code (2 : Nat) (Option.some Jvm.ClassFile.FieldType.char)).before args0 about1 = true := code_word (m := ⟨16, 1⟩) (meth := k16m1) (c := k16c1) (by decide +kernel) rfl rfl rfl (by decide +kernel)
set_option maxRecDepth 65536 in
theorem w_c34 : (Jvm.Cond.code ({ cls := "java/lang/String", name := "checkIndex", desc := "(II)V" } : Jvm.MethodName) jdk_42_method_155_code (2 : Nat) (Option.none : Option Jvm.ClassFile.FieldType)).before args0 about1 = true := code_word (m := ⟨7, 10⟩) (meth := k7m10) (c := k7c10) (by decide +kernel) rfl rfl rfl (by decide +kernel)
set_option maxRecDepth 65536 in
theorem w_c35 : (Jvm.Cond.code ({ cls := "jdk/internal/util/Preconditions", name := "checkIndex", desc := "(IILjava/util/function/BiFunction;)I" } : Jvm.MethodName) jdk_41_method_11_code (3 : Nat) (Option.some Jvm.ClassFile.FieldType.int)).before args0 about1 = true := code_word (m := ⟨17, 1⟩) (meth := k17m1) (c := k17c1) (by decide +kernel) rfl rfl rfl (by decide +kernel)
set_option maxRecDepth 65536 in
theorem w_c36 : (Jvm.Cond.code ({ cls := "com/example/digitwarden/digitwarden/model/Alphabet", name := "isSeparator", desc := "(C)Z" } : Jvm.MethodName) prog_8_method_3_code (1 : Nat) (Option.some Jvm.ClassFile.FieldType.boolean)).before args0 about1 = true := code_word (m := ⟨9, 1⟩) (meth := k9m1) (c := k9c1) (by decide +kernel) rfl rfl rfl (by decide +kernel)
set_option maxRecDepth 65536 in
theorem w_c37 : (Jvm.Cond.code ({ cls := "com/example/digitwarden/digitwarden/model/Alphabet", name := "valueOf", desc := "(C)I" } : Jvm.MethodName) prog_8_method_5_code (2 : Nat) (Option.some Jvm.ClassFile.FieldType.int)).before args0 about1 = true := code_word (m := ⟨9, 2⟩) (meth := k9m2) (c := k9c2) (by decide +kernel) rfl rfl rfl (by decide +kernel)
def codes1 : List Jvm.Cond := [Jvm.Cond.code x code maxLocals ret, Jvm.Cond.code ({ cls := "com/example/digitwarden/digitwarden/model/AlphabetValueOfPinLaw", name := "pick", desc := "(I)C" } : Jvm.MethodName) method_2_code (1 : Nat) (Option.some Jvm.ClassFile.FieldType.char), Jvm.Cond.code ({ cls := "java/lang/String", name := "<init>", desc := "([C)V" } : Jvm.MethodName) jdk_42_method_3_code (2 : Nat) (Option.none : Option Jvm.ClassFile.FieldType), Jvm.Cond.code ({ cls := "java/lang/String", name := "<init>", desc := "([CIILjava/lang/Void;)V" } : Jvm.MethodName) jdk_42_method_149_code (6 : Nat) (Option.none : Option Jvm.ClassFile.FieldType), Jvm.Cond.code ({ cls := "java/lang/Object", name := "<init>", desc := "()V" } : Jvm.MethodName) object_method_1_code (1 : Nat) (Option.none : Option Jvm.ClassFile.FieldType), Jvm.Cond.code ({ cls := "java/lang/StringUTF16", name := "compress", desc := "([CII)[B" } : Jvm.MethodName) jdk_52_method_16_code (6 : Nat) (Option.some (Jvm.ClassFile.FieldType.array Jvm.ClassFile.FieldType.byte)), Jvm.Cond.code ({ cls := "java/lang/StringUTF16", name := "compress", desc := "([CI[BII)I" } : Jvm.MethodName) jdk_52_method_21_code (7 : Nat) (Option.some Jvm.ClassFile.FieldType.int), Jvm.Cond.code ({ cls := "java/lang/StringUTF16", name := "coderFromArrayLen", desc := "([BI)B" } : Jvm.MethodName) jdk_52_method_15_code (2 : Nat) (Option.some Jvm.ClassFile.FieldType.byte), Jvm.Cond.code ({ cls := "com/example/digitwarden/digitwarden/model/Alphabet", name := "<init>", desc := "(Ljava/lang/String;Ljava/lang/String;)V" } : Jvm.MethodName) prog_8_method_2_code (7 : Nat) (Option.none : Option Jvm.ClassFile.FieldType), Jvm.Cond.code ({ cls := "java/lang/String", name := "length", desc := "()I" } : Jvm.MethodName) jdk_42_method_54_code (1 : Nat) (Option.some Jvm.ClassFile.FieldType.int), Jvm.Cond.code ({ cls := "java/lang/String", name := "coder", desc := "()B" } : Jvm.MethodName) jdk_42_method_152_code (1 : Nat) (Option.some Jvm.ClassFile.FieldType.byte), Jvm.Cond.code ({ cls := "java/lang/StringBuilder", name := "<init>", desc := "()V" } : Jvm.MethodName) jdk_67_method_1_code (1 : Nat) (Option.none : Option Jvm.ClassFile.FieldType), Jvm.Cond.code ({ cls := "java/lang/AbstractStringBuilder", name := "<init>", desc := "(I)V" } : Jvm.MethodName) jdk_68_method_2_code (2 : Nat) (Option.none : Option Jvm.ClassFile.FieldType), Jvm.Cond.code ({ cls := "java/lang/StringBuilder", name := "append", desc := "(Ljava/lang/String;)Ljava/lang/StringBuilder;" } : Jvm.MethodName) jdk_67_method_7_code (2 : Nat) (Option.some (Jvm.ClassFile.FieldType.object "java/lang/StringBuilder")), Jvm.Cond.code ({ cls := "java/lang/AbstractStringBuilder", name := "append", desc := "(Ljava/lang/String;)Ljava/lang/AbstractStringBuilder;" } : Jvm.MethodName) jdk_68_method_22_code (3 : Nat) (Option.some (Jvm.ClassFile.FieldType.object "java/lang/AbstractStringBuilder")), Jvm.Cond.code ({ cls := "java/lang/AbstractStringBuilder", name := "ensureCapacityInternal", desc := "(I)V" } : Jvm.MethodName) jdk_68_method_9_code (3 : Nat) (Option.none : Option Jvm.ClassFile.FieldType), Jvm.Cond.code ({ cls := "java/lang/AbstractStringBuilder", name := "putStringAt", desc := "(ILjava/lang/String;)V" } : Jvm.MethodName) jdk_68_method_73_code (3 : Nat) (Option.none : Option Jvm.ClassFile.FieldType), Jvm.Cond.code ({ cls := "java/lang/AbstractStringBuilder", name := "inflateIfNeededFor", desc := "(Ljava/lang/String;)V" } : Jvm.MethodName) jdk_68_method_71_code (2 : Nat) (Option.none : Option Jvm.ClassFile.FieldType), Jvm.Cond.code ({ cls := "java/lang/String", name := "getBytes", desc := "([BIB)V" } : Jvm.MethodName) jdk_42_method_147_code (4 : Nat) (Option.none : Option Jvm.ClassFile.FieldType), Jvm.Cond.code ({ cls := "java/lang/StringBuilder", name := "toString", desc := "()Ljava/lang/String;" } : Jvm.MethodName) jdk_67_method_42_code (1 : Nat) (Option.some (Jvm.ClassFile.FieldType.object "java/lang/String")), Jvm.Cond.code ({ cls := "java/lang/String", name := "<init>", desc := "(Ljava/lang/StringBuilder;)V" } : Jvm.MethodName) jdk_42_method_53_code (2 : Nat) (Option.none : Option Jvm.ClassFile.FieldType), Jvm.Cond.code ({ cls := "java/lang/String", name := "<init>", desc := "(Ljava/lang/AbstractStringBuilder;Ljava/lang/Void;)V" } : Jvm.MethodName) jdk_42_method_150_code (5 : Nat) (Option.none : Option Jvm.ClassFile.FieldType), Jvm.Cond.code ({ cls := "java/lang/AbstractStringBuilder", name := "getValue", desc := "()[B" } : Jvm.MethodName) jdk_68_method_64_code (1 : Nat) (Option.some (Jvm.ClassFile.FieldType.array Jvm.ClassFile.FieldType.byte)), Jvm.Cond.code ({ cls := "java/lang/StringBuilder", name := "length", desc := "()I" } : Jvm.MethodName) jdk_67_method_93_code (1 : Nat) (Option.some Jvm.ClassFile.FieldType.int), Jvm.Cond.code ({ cls := "java/lang/AbstractStringBuilder", name := "length", desc := "()I" } : Jvm.MethodName) jdk_68_method_6_code (1 : Nat) (Option.some Jvm.ClassFile.FieldType.int), Jvm.Cond.code ({ cls := "java/lang/AbstractStringBuilder", name := "isLatin1", desc := "()Z" } : Jvm.MethodName) jdk_68_method_68_code (1 : Nat) (Option.some Jvm.ClassFile.FieldType.boolean), Jvm.Cond.code ({ cls := "java/util/Arrays", name := "copyOfRange", desc := "([BII)[B" } : Jvm.MethodName) jdk_65_method_132_code (3 : Nat) (Option.some (Jvm.ClassFile.FieldType.array Jvm.ClassFile.FieldType.byte)), Jvm.Cond.code ({ cls := "java/util/Arrays", name := "copyOfRangeByte", desc := "([BII)[B" } : Jvm.MethodName) jdk_65_method_133_code (5 : Nat) (Option.some (Jvm.ClassFile.FieldType.array Jvm.ClassFile.FieldType.byte)), Jvm.Cond.code ({ cls := "java/util/Arrays", name := "checkLength", desc := "(II)V" } : Jvm.MethodName) jdk_65_method_131_code (2 : Nat) (Option.none : Option Jvm.ClassFile.FieldType), Jvm.Cond.code ({ cls := "java/lang/Math", name := "min", desc := "(II)I" } : Jvm.MethodName) jdk_29_method_69_code (2 : Nat) (Option.some Jvm.ClassFile.FieldType.int), Jvm.Cond.code ({ cls := "java/util/Arrays", name := "fill", desc := "([II)V" } : Jvm.MethodName) jdk_65_method_103_code (4 : Nat) (Option.none : Option Jvm.ClassFile.FieldType), Jvm.Cond.code ({ cls := "java/lang/String", name := "charAt", desc := "(I)C" } : Jvm.MethodName) jdk_42_method_56_code (2 : Nat) (Option.some Jvm.ClassFile.FieldType.char), Jvm.Cond.code ({ cls := "java/lang/String", name := "isLatin1", desc := "()Z" } : Jvm.MethodName) jdk_42_method_154_code (1 : Nat) (Option.some Jvm.ClassFile.FieldType.boolean), Jvm.Cond.code ({ cls := "java/lang/StringLatin1", name := "charAt", desc := "([BI)C" } : Jvm.MethodName) jdk_43_method_2_code (2 : Nat) (Option.some Jvm.ClassFile.FieldType.char), Jvm.Cond.code ({ cls := "java/lang/String", name := "checkIndex", desc := "(II)V" } : Jvm.MethodName) jdk_42_method_155_code (2 : Nat) (Option.none : Option Jvm.ClassFile.FieldType), Jvm.Cond.code ({ cls := "jdk/internal/util/Preconditions", name := "checkIndex", desc := "(IILjava/util/function/BiFunction;)I" } : Jvm.MethodName) jdk_41_method_11_code (3 : Nat) (Option.some Jvm.ClassFile.FieldType.int), Jvm.Cond.code ({ cls := "com/example/digitwarden/digitwarden/model/Alphabet", name := "isSeparator", desc := "(C)Z" } : Jvm.MethodName) prog_8_method_3_code (1 : Nat) (Option.some Jvm.ClassFile.FieldType.boolean), Jvm.Cond.code ({ cls := "com/example/digitwarden/digitwarden/model/Alphabet", name := "valueOf", desc := "(C)I" } : Jvm.MethodName) prog_8_method_5_code (2 : Nat) (Option.some Jvm.ClassFile.FieldType.int)]
set_option maxRecDepth 65536 in
theorem codes_eq : words1.filter isCode = codes1 := rfl
theorem w_codes : ∀ c ∈ words1.filter isCode, c.before args0 about1 = true := by
  rw [codes_eq]
  intro c hc
  simp only [codes1, List.mem_cons, List.not_mem_nil, or_false] at hc
  rcases hc with rfl | rfl | rfl | rfl | rfl | rfl | rfl | rfl | rfl | rfl | rfl | rfl | rfl | rfl | rfl | rfl | rfl | rfl | rfl | rfl | rfl | rfl | rfl | rfl | rfl | rfl | rfl | rfl | rfl | rfl | rfl | rfl | rfl | rfl | rfl | rfl | rfl | rfl
  · exact w_c0
  · exact w_c1
  · exact w_c2
  · exact w_c3
  · exact w_c4
  · exact w_c5
  · exact w_c6
  · exact w_c7
  · exact w_c8
  · exact w_c9
  · exact w_c10
  · exact w_c11
  · exact w_c12
  · exact w_c13
  · exact w_c14
  · exact w_c15
  · exact w_c16
  · exact w_c17
  · exact w_c18
  · exact w_c19
  · exact w_c20
  · exact w_c21
  · exact w_c22
  · exact w_c23
  · exact w_c24
  · exact w_c25
  · exact w_c26
  · exact w_c27
  · exact w_c28
  · exact w_c29
  · exact w_c30
  · exact w_c31
  · exact w_c32
  · exact w_c33
  · exact w_c34
  · exact w_c35
  · exact w_c36
  · exact w_c37
set_option maxRecDepth 65536 in
theorem w_t1 : (words1.take 24).all (fun c => isCode c || c.before args0 about1) = true := by decide +kernel
set_option maxRecDepth 65536 in
theorem w_t2 : ((words1.drop 24).take 24).all (fun c => isCode c || c.before args0 about1) = true := by decide +kernel
set_option maxRecDepth 65536 in
theorem w_t3 : (((words1.drop 24).drop 24).take 24).all (fun c => isCode c || c.before args0 about1) = true := by decide +kernel
set_option maxRecDepth 65536 in
theorem w_t4 : ((((words1.drop 24).drop 24).drop 24).take 24).all (fun c => isCode c || c.before args0 about1) = true := by decide +kernel
set_option maxRecDepth 65536 in
theorem w_t5 : (((((words1.drop 24).drop 24).drop 24).drop 24).take 24).all (fun c => isCode c || c.before args0 about1) = true := by decide +kernel
set_option maxRecDepth 65536 in
theorem w_t6 : ((((((words1.drop 24).drop 24).drop 24).drop 24).drop 24).take 24).all (fun c => isCode c || c.before args0 about1) = true := by decide +kernel
set_option maxRecDepth 65536 in
theorem w_t7 : (((((((words1.drop 24).drop 24).drop 24).drop 24).drop 24).drop 24).take 24).all (fun c => isCode c || c.before args0 about1) = true := by decide +kernel
set_option maxRecDepth 65536 in
theorem w_t8 : ((((((((words1.drop 24).drop 24).drop 24).drop 24).drop 24).drop 24).drop 24).take 24).all (fun c => isCode c || c.before args0 about1) = true := by decide +kernel
set_option maxRecDepth 65536 in
theorem w_t9 : ((((((((words1.drop 24).drop 24).drop 24).drop 24).drop 24).drop 24).drop 24).drop 24).all (fun c => isCode c || c.before args0 about1) = true := by decide +kernel
theorem w_tables : (allAtoms (Jvm.Cond.code x code maxLocals ret :: tables_1)).before args0 about1 = true := by
  rw [allAtoms_all]
  show words1.all (fun c => c.before args0 about1) = true
  refine all_split ?_ w_codes
  rw [← List.take_append_drop 24 words1, List.all_append, w_t1, ← List.take_append_drop 24 (words1.drop 24), List.all_append, w_t2, ← List.take_append_drop 24 ((words1.drop 24).drop 24), List.all_append, w_t3, ← List.take_append_drop 24 (((words1.drop 24).drop 24).drop 24), List.all_append, w_t4, ← List.take_append_drop 24 ((((words1.drop 24).drop 24).drop 24).drop 24), List.all_append, w_t5, ← List.take_append_drop 24 (((((words1.drop 24).drop 24).drop 24).drop 24).drop 24), List.all_append, w_t6, ← List.take_append_drop 24 ((((((words1.drop 24).drop 24).drop 24).drop 24).drop 24).drop 24), List.all_append, w_t7, ← List.take_append_drop 24 (((((((words1.drop 24).drop 24).drop 24).drop 24).drop 24).drop 24).drop 24), List.all_append, w_t8, w_t9]
  rfl
set_option maxRecDepth 65536 in
theorem w_rest : rest_1_c.before args0 about1 = true := by decide +kernel
set_option maxRecDepth 65536 in
theorem w_case : (Jvm.Cond.and given_1 narrow_1).before args0 about1 = true := by decide +kernel
set_option maxRecDepth 65536 in
theorem w_consts : constsHeld consts_1 about1 := Jvm.Lit.constsHeldB_iff.mp (by decide +kernel)
theorem w_applies : (headSpec (Jvm.Cond.code x code maxLocals ret :: tables_1) room_1).applies x e0.platform about1 = true :=
  (Spec.applies_iff w_frames).mpr ⟨w_running, w_runnable, w_alone, w_named, w_hears, w_ripe, w_room, w_tables⟩
theorem atStart : AtStart classFile x code maxLocals ret World_1 tables_1 room_1 Calls_1 rest_1 Pre_1 launch0 p0 e0 about1 theMethod args0 below0 :=
  ⟨lists_1, trivial, launch0.admits_env _ _ _, launch0.least_env, fairChoices_fair.cas, fairChoices_fair.clock, w_frames, w_args, w_heap, w_applies, ⟨w_consts, trivial⟩, w_rest, w_case⟩
end start1
theorem witness_1 : WitnessClaimed_1 := ⟨start1.p0, start1.e0, start1.about1, start1.theMethod, start1.args0, start1.below0, start1.atStart⟩
end Jvm.Pilot.@@N@@
