import JvmDerived
import JvmDerived.Pilot.@@N@@Statement
import JvmDerived.Pilot.@@N@@Code
set_option linter.unusedVariables false
set_option linter.unusedSimpArgs false
namespace Jvm.Pilot.@@N@@
open Jvm Jvm.ClassFile Sem Op Lib Jvm.Free Jvm.Stand Jvm.LawKit Jvm.RoadKit Bundle Jvm.Pilot.@@N@@.Jvm.D
section OwnKit
variable {p : Program} {l : Launch} {e : Env} {R : Room} {s : State} {m : MethodId} {args : Array Value} {below : List Frame} {meth : Method} {c : Code} {T : State} {locs : List Loc} {cells slots : Nat}
/-- from the state u the run comes to an end of the invocation at which G holds -/
def Go (tb : Tables) (e : Env) (below : List Frame) (G : Outcome → State → Prop) (u : State) : Prop := ∃ s₂ o, Steps tb e below u s₂ ∧ s₂.status = .running ∧ Ended s₂ below o ∧ G o s₂
def End (Q : Option Value → Heap → List Loc → Prop) (s : State) (C S : Nat) (o : Outcome) (u : State) : Prop := ∃ v L, o = .returned v ∧ Q v u.heap L ∧ FrameEnd s o u L C S
theorem go {tb : Tables} {G : Outcome → State → Prop} {u u' : State} (st : ∀ t, Steps tb e below u' t → Steps tb e below u t) (k : Go tb e below G u') : Go tb e below G u := by
  obtain ⟨s₂, o, h1, h2⟩ := k
  exact ⟨s₂, o, st _ h1, h2⟩
theorem goT {tb : Tables} {G : Outcome → State → Prop} {u u' : State} (st : Steps tb e below u u') (k : Go tb e below G u') : Go tb e below G u := go (fun _ h => st.trans h) k
theorem own_fin (X : Stand p l e R s m args below meth c T locs cells slots) (hlk : meth.locks = false) {v : Option Value} (hv : meth.sig.returnType = none → v = none) {Q : Option Value → Heap → List Loc → Prop} {C S : Nat} (hq : Q v T.heap locs) (hc : cells ≤ C) (hs : slots ≤ S) {u : State}
    (st : ∀ fs, (∀ (f : JFrame) (acts : List Action), f.method = m → f.locked = none → f.entered = [] → (doReturn e (T.setTop f) acts v).1 = T.setFrames fs) → Steps p.tables e below u (T.setFrames fs)) : Go p.tables e below (End Q s C S) u := by
  obtain ⟨fs, hr, hrun, hended, hW, hsame⟩ := X.leave (v := v) hv hlk
  exact ⟨_, _, st fs hr, hrun, hended, _, _, rfl, hq, ⟨_, rfl⟩, hW, hsame.mono hc hs⟩
theorem own_retI (X : Stand p l e R s m args below meth c T locs cells slots) (hx : p.tables.exec = Jvm.exec) {pc : Nat} {Ls : Array Slot} {z : Int32} {rest : List Value} (hret : meth.sig.returnType = some .int) (hd : decode c.code pc = .ok (.ireturn, 1)) {fs : List Frame}
    (hl : ∀ (f : JFrame) (acts : List Action), f.method = m → f.locked = none → f.entered = [] → (doReturn e (T.setTop f) acts (some (.int z))).1 = T.setFrames fs) : Steps p.tables e below (T.setTop (mkF m pc Ls (.int z :: rest))) (T.setFrames fs) := by
  have hm' : T.vm.method? m = some meth := X.method'
  have hn : narrow .int (.int z) = .int z := rfl
  show Steps p.tables e below (T.setTop { method := m, pc := pc, locals := Ls, stack := _ :: rest, locked := none }) _
  jvm_step X.here [X.here.top, hx, hd, hm', hret, hn]
  first | (intro acts; rw [hl _ acts rfl rfl rfl]) | rw [hl _ _ rfl rfl rfl]
  exact Steps.refl _
theorem own_retA (X : Stand p l e R s m args below meth c T locs cells slots) (hx : p.tables.exec = Jvm.exec) {pc : Nat} {Ls : Array Slot} {z : Value} {t : FieldType} {rest : List Value} (hret : meth.sig.returnType = some t) (ht : t.isReference = true) (hz : z.isRef = true) (hd : decode c.code pc = .ok (.areturn, 1)) {fs : List Frame}
    (hl : ∀ (f : JFrame) (acts : List Action), f.method = m → f.locked = none → f.entered = [] → (doReturn e (T.setTop f) acts (some z)).1 = T.setFrames fs) : Steps p.tables e below (T.setTop (mkF m pc Ls (z :: rest))) (T.setFrames fs) := by
  have hm' : T.vm.method? m = some meth := X.method'
  show Steps p.tables e below (T.setTop { method := m, pc := pc, locals := Ls, stack := _ :: rest, locked := none }) _
  jvm_step X.here [X.here.top, hx, hd, hm', hret, ht, hz]
  first | (intro acts; rw [hl _ acts rfl rfl rfl]) | rw [hl _ _ rfl rfl rfl]
  exact Steps.refl _
theorem gI (X : Stand p l e R s m args below meth c T locs cells slots) (hx : p.tables.exec = Jvm.exec) (hlk : meth.locks = false) {pc : Nat} {Ls : Array Slot} {z : Int32} {rest : List Value} (hret : meth.sig.returnType = some .int) (hd : decode c.code pc = .ok (.ireturn, 1)) {Q : Option Value → Heap → List Loc → Prop} {C S : Nat} (hq : Q (some (.int z)) T.heap locs) (hc : cells ≤ C) (hs : slots ≤ S) :
    Go p.tables e below (End Q s C S) (T.setTop (mkF m pc Ls (.int z :: rest))) := own_fin X hlk (fun h => by rw [hret] at h; cases h) hq hc hs fun fs hr => own_retI X hx hret hd hr
theorem gN (X : Stand p l e R s m args below meth c T locs cells slots) (hx : p.tables.exec = Jvm.exec) (hlk : meth.locks = false) {pc : Nat} {Ls : Array Slot} {z : Int32} {t : FieldType} {rest : List Value} (hret : meth.sig.returnType = some t) (ht : t = .boolean ∨ t = .byte ∨ t = .char ∨ t = .short) (hn : nar t z = z) (hd : decode c.code pc = .ok (.ireturn, 1)) {Q : Option Value → Heap → List Loc → Prop} {C S : Nat} (hq : Q (some (.int z)) T.heap locs) (hc : cells ≤ C) (hs : slots ≤ S) :
    Go p.tables e below (End Q s C S) (T.setTop (mkF m pc Ls (.int z :: rest))) := own_fin X hlk (fun h => by rw [hret] at h; cases h) hq hc hs fun fs hr => retN X hx hret ht hd (by rw [hn]; exact hr)
theorem gJ (X : Stand p l e R s m args below meth c T locs cells slots) (hx : p.tables.exec = Jvm.exec) (hlk : meth.locks = false) {pc : Nat} {Ls : Array Slot} {z : Int64} (hret : meth.sig.returnType = some .long) (hd : decode c.code pc = .ok (.lreturn, 1)) {Q : Option Value → Heap → List Loc → Prop} {C S : Nat} (hq : Q (some (.long z)) T.heap locs) (hc : cells ≤ C) (hs : slots ≤ S) :
    Go p.tables e below (End Q s C S) (T.setTop (mkF m pc Ls [.long z])) := own_fin X hlk (fun h => by rw [hret] at h; cases h) hq hc hs fun fs hr => X.lreturnOut hx hret hd hr
theorem g0 (X : Stand p l e R s m args below meth c T locs cells slots) (hx : p.tables.exec = Jvm.exec) (hlk : meth.locks = false) {pc : Nat} {Ls : Array Slot} (hret : meth.sig.returnType = none) (hd : decode c.code pc = .ok (.return_, 1)) {Q : Option Value → Heap → List Loc → Prop} {C S : Nat} (hq : Q none T.heap locs) (hc : cells ≤ C) (hs : slots ≤ S) :
    Go p.tables e below (End Q s C S) (T.setTop (mkF m pc Ls [])) := own_fin X hlk (fun _ => rfl) hq hc hs fun fs hr => X.returnOut hx hret hd hr
theorem gA (X : Stand p l e R s m args below meth c T locs cells slots) (hx : p.tables.exec = Jvm.exec) (hlk : meth.locks = false) {pc : Nat} {Ls : Array Slot} {z : Value} {t : FieldType} {rest : List Value} (hret : meth.sig.returnType = some t) (ht : t.isReference = true) (hz : z.isRef = true) (hd : decode c.code pc = .ok (.areturn, 1)) {Q : Option Value → Heap → List Loc → Prop} {C S : Nat} (hq : Q (some z) T.heap locs) (hc : cells ≤ C) (hs : slots ≤ S) :
    Go p.tables e below (End Q s C S) (T.setTop (mkF m pc Ls (z :: rest))) := own_fin X hlk (fun h => by rw [hret] at h; cases h) hq hc hs fun fs hr => own_retA X hx hret ht hz hd hr
end OwnKit
/-- a body's contract out of its walk -/
theorem body {l : Launch} {y : MethodName} {bytes : ByteArray} {maxL : Nat} {ret : Option FieldType} {ws : List Jvm.Cond} {rm : Room} {as' : Array Value} {Z : State} {h0 : Heap} {Q : Option Value → Heap → List Loc → Prop} (pn : plainFor y = true)
    (k : ∀ (p : Program) (e : Env) (s : State) (m : MethodId) (below : List Frame) (meth : Method) (c : Code) (s₁ : State), p.tables.exec = Jvm.exec → c.code = bytes → c.maxLocals = maxL → s.vm.findClass y.cls = some m.cls → meth.name = y.name → meth.sig.returnType = ret → meth.locks = false → Z.Warmed39 s.vm → s₁.heap = h0 →
      Stand p l e rm s m as' below meth c s₁ [] 0 0 → Go p.tables e below (End Q s rm.cells rm.slots) (s₁.setTop (entryFrame m as' maxL))) :
    MetFree l y (head1 (Jvm.Cond.code y bytes maxL ret :: ws) rm) (fun a U => a = as' ∧ Z.Warmed39 U.vm ∧ U.heap = h0) (fun _ _ _ _ _ => True) (fun _ U o U' => ∃ v L, o = .returned v ∧ Q v U'.heap L ∧ FrameEnd U o U' L rm.cells rm.slots) := by
  refine MetFree.of_bodySF pn hisR ?_
  intro p e s m args below meth c s₁ Bd hml hP _
  obtain ⟨rfl, hZ, hh⟩ := hP
  obtain ⟨s₂, o, h1, h2, h3, h4⟩ := k p e s m below meth c s₁ Bd.exec Bd.bytes hml (findClass_of_methodNamed Bd.named) (name_of_methodNamed Bd.named Bd.method).1 Bd.returns Bd.notSynchronized hZ (by rw [← hh, Bd.state]; rfl) (Stand.of_body Bd)
  exact ⟨s₂, o, h1, h2, h3, h4⟩
/-- a boolean as an int -/
def B (P : Prop) [Decidable P] : Int32 := if P then 1 else 0
theorem Bt {P : Prop} [Decidable P] (h : P) : B P = 1 := if_pos h
theorem Bf {P : Prop} [Decidable P] (h : ¬ P) : B P = 0 := if_neg h
theorem B1 {P : Prop} [Decidable P] (h : P) : (1 : Int32) = B P := (if_pos h).symm
theorem B0 {P : Prop} [Decidable P] (h : ¬ P) : (0 : Int32) = B P := (if_neg h).symm
theorem B_iff {P Q : Prop} [Decidable P] [Decidable Q] (h : P ↔ Q) : B P = B Q := by simp only [B, h]
theorem B_nar {P : Prop} [Decidable P] : nar .boolean (B P) = B P := by by_cases h : P <;> simp only [B, h, if_true, if_false] <;> rfl
theorem bT {P : Prop} [Decidable P] (h : P) : ifCond.holds .ne (B P) = true ∧ ifCond.holds .eq (B P) = false := by rw [Bt h]; exact ⟨rfl, rfl⟩
theorem bF {P : Prop} [Decidable P] (h : ¬ P) : ifCond.holds .ne (B P) = false ∧ ifCond.holds .eq (B P) = true := by rw [Bf h]; exact ⟨rfl, rfl⟩
theorem lT {x y : Int64} (h : x < y) : ifCond.holds .lt (lcmpW x y) = true ∧ ifCond.holds .ge (lcmpW x y) = false ∧ ifCond.holds .gt (lcmpW y x) = true ∧ ifCond.holds .le (lcmpW y x) = false := by
  have h1 := tlt ((lw_lt x y).mpr h)
  have h2 := tlt ((lw_gt y x).mpr h)
  simp only [if0]; exact ⟨h1.1, h1.2.1, h2.2.2.1, h2.2.2.2⟩
theorem lF {x y : Int64} (h : ¬ x < y) : ifCond.holds .lt (lcmpW x y) = false ∧ ifCond.holds .ge (lcmpW x y) = true ∧ ifCond.holds .gt (lcmpW y x) = false ∧ ifCond.holds .le (lcmpW y x) = true := by
  have h1 := flt (fun q => h ((lw_lt x y).mp q))
  have h2 := flt (fun q => h ((lw_gt y x).mp q))
  simp only [if0]; exact ⟨h1.1, h1.2.1, h2.2.2.1, h2.2.2.2⟩
theorem lTe {x y : Int64} (h : x = y) : ifCond.holds .eq (lcmpW x y) = true ∧ ifCond.holds .ne (lcmpW x y) = false := by
  simp only [if0]; exact teq ((lw_eq x y).mpr h)
theorem lFe {x y : Int64} (h : ¬ x = y) : ifCond.holds .eq (lcmpW x y) = false ∧ ifCond.holds .ne (lcmpW x y) = true := by
  simp only [if0]; exact feq (fun q => h ((lw_eq x y).mp q))
theorem bTv {P : Prop} [Decidable P] {v : Int32} (hv : v = B P) (h : P) : ifCond.holds .ne v = true ∧ ifCond.holds .eq v = false := hv ▸ bT h
theorem bFv {P : Prop} [Decidable P] {v : Int32} (hv : v = B P) (h : ¬ P) : ifCond.holds .ne v = false ∧ ifCond.holds .eq v = true := hv ▸ bF h
theorem B_narv {P : Prop} [Decidable P] {v : Int32} (hv : v = B P) : nar .boolean v = v := hv ▸ B_nar
theorem own_fitb {v : Int32} (h : nar .boolean v = v) : fits .boolean (.int v) = true := h ▸ fits_nar_bool v
theorem ww {a0 : Array Value} {Z : State} (hw : ∀ d ∈ tables_1, d.before a0 Z = true) (i : Nat) {d : Jvm.Cond} (h : tables_1[i]? = some d) : d.before a0 Z = true := hw d (List.mem_of_getElem? h)
theorem own_or (a b c : Int64) : ((a = (0 : Int64)) ∧ ((b = (0 : Int64)) ∧ (c = (0 : Int64)))) ↔ (((a ||| b) ||| c) = (0 : Int64)) := by
  simp only [← Int64.toBitVec_inj, Int64.toBitVec_or]
  have h0 : (0 : Int64).toBitVec = 0#64 := rfl
  rw [h0, BitVec.or_eq_zero_iff, BitVec.or_eq_zero_iff, and_assoc]
theorem pn_java_lang_Record__init__2 : plainFor (⟨"java/lang/Record", "<init>", "()V"⟩ : MethodName) = true := by first | exact plainFor_of_name (by first | (simp [plainName, overriddenIn]; done) | decide +kernel) | decide +kernel
def Q_rm2 (Z : State) (o0 : Addr) (h0 : Heap) (n0 : Nat) (v : Option Value) (h : Heap) (L : List Loc) : Prop := v = none ∧ Fr n0 L ∧ h = h0
set_option maxRecDepth 65536 in
set_option maxHeartbeats 4000000 in
theorem ef_rm2 (m : MethodId) (o0 : Addr) : entryFrame m #[(.ref o0)] 1 = mkF m 0 #[.val (.ref o0)] [] := by first | (simp [entryFrame, mkF, argsToLocals, Value.category, maxLocals]; done) | rfl
theorem d2_0 : decode jdk_30_method_1_code 0 = .ok (.aload_n 0, 1) := by decide +kernel
theorem d2_1 : decode jdk_30_method_1_code 1 = .ok (.invokespecial 1, 3) := by decide +kernel
theorem d2_4 : decode jdk_30_method_1_code 4 = .ok (.return_, 1) := by decide +kernel
set_option maxRecDepth 65536 in
set_option maxHeartbeats 40000000 in
theorem rm2 (l : Launch) (Z : State) (a0 : Array Value) (hw : ∀ d ∈ tables_1, d.before a0 Z = true) (ws : List Jvm.Cond) (o0 : Addr) (h0 : Heap) (n0 : Nat) (Z0 : n0 ≤ h0.size)  :
    MetFree l (⟨"java/lang/Record", "<init>", "()V"⟩ : MethodName) (head1 (Jvm.Cond.code (⟨"java/lang/Record", "<init>", "()V"⟩ : MethodName) jdk_30_method_1_code 1 none :: ws) ({ frames := 1, cells := 0, slots := 0, locals := 12 } : Room)) (fun a U => a = #[(.ref o0)] ∧ Z.Warmed39 U.vm ∧ U.heap = h0) (fun _ _ _ _ _ => True) (fun _ U o U' => ∃ v L, o = .returned v ∧ Q_rm2 Z o0 h0 n0 v U'.heap L ∧ FrameEnd U o U' L ({ frames := 1, cells := 0, slots := 0, locals := 12 } : Room).cells ({ frames := 1, cells := 0, slots := 0, locals := 12 } : Room).slots) := by
  refine body pn_java_lang_Record__init__2 ?_
  intro p e s m below meth c s₁ hx hby hml hown hnm hret hlk hZ e0 X0
  replace hml : c.maxLocals = 1 := hml
  replace hown : s.vm.findClass "java/lang/Record" = some m.cls := hown
  replace hnm : meth.name = "<init>" := hnm
  replace hret : meth.sig.returnType = none := hret
  have N0 := Fr.nil n0
  rw [ef_rm2]
  obtain ⟨G, hG⟩ : ∃ G, G = End (Q_rm2 Z o0 h0 n0) s ({ frames := 1, cells := 0, slots := 0, locals := 12 } : Room).cells ({ frames := 1, cells := 0, slots := 0, locals := 12 } : Room).slots := ⟨_, rfl⟩
  rw [← hG]
  refine go (u' := s₁.setTop (mkF m 1 #[.val (.ref o0)] [(.ref o0)])) (fun _ ks_ => XS.aloadN X0.here hx rfl (hb hby d2_0) rfl rfl ks_) ?_
  obtain ⟨T1, X1, e1, st1⟩ := initO X0 hx hZ hown (ww hw 11 rfl) (ww hw 12 rfl) (ww hw 13 rfl) e0 (g := (mkF m 1 #[.val (.ref o0)] [(.ref o0)])) rfl (by rw [hml]; rfl) rfl (hb hby d2_1) (by decide) (W := 0) (by show 2 * 0 + _ ≤ _; exact Nat.le_of_eq rfl) (by decide)
  refine go (u' := T1.setTop (mkF m 4 #[.val (.ref o0)] [])) st1 ?_
  rw [hG]
  refine g0 X1 hx hlk hret (hb hby d2_4) ?_ (Nat.le_of_ble_eq_true rfl) (Nat.le_of_ble_eq_true rfl)
  show Q_rm2 Z o0 h0 n0 (none) T1.heap _
  rw [e1]
  exact ⟨rfl, N0, rfl⟩
theorem pd__40__41_V : parseMethodDescriptor "()V" = some ⟨[], none⟩ := by decide +kernel
theorem pn_com_example_traceweave_traceweave_replay_TokenCounts__init__1 : plainFor (⟨"com/example/traceweave/traceweave/replay/TokenCounts", "<init>", "(JJJJJ)V"⟩ : MethodName) = true := by first | exact plainFor_of_name (by first | (simp [plainName, overriddenIn]; done) | decide +kernel) | decide +kernel
def Q_rm1 (Z : State) (o0 : Addr) (q1 : Int64) (q2 : Int64) (q3 : Int64) (q4 : Int64) (q5 : Int64) (h0 : Heap) (n0 : Nat) (v : Option Value) (h : Heap) (L : List Loc) : Prop := v = none ∧ Fr n0 L ∧ Keep h0 h [o0] ∧ (Exa Z h o0 "com/example/traceweave/traceweave/replay/TokenCounts") ∧ (Fld Z h o0 "com/example/traceweave/traceweave/replay/TokenCounts" "produced" "J" (.long q1)) ∧ (Fld Z h o0 "com/example/traceweave/traceweave/replay/TokenCounts" "consumed" "J" (.long q2)) ∧ (Fld Z h o0 "com/example/traceweave/traceweave/replay/TokenCounts" "missing" "J" (.long q3)) ∧ (Fld Z h o0 "com/example/traceweave/traceweave/replay/TokenCounts" "remaining" "J" (.long q4)) ∧ (Fld Z h o0 "com/example/traceweave/traceweave/replay/TokenCounts" "skipped" "J" (.long q5))
set_option maxRecDepth 65536 in
set_option maxHeartbeats 4000000 in
theorem ef_rm1 (m : MethodId) (o0 : Addr) (q1 : Int64) (q2 : Int64) (q3 : Int64) (q4 : Int64) (q5 : Int64) : entryFrame m #[(.ref o0), (.long q1), (.long q2), (.long q3), (.long q4), (.long q5)] 11 = mkF m 0 #[.val (.ref o0), .val (.long q1), .second, .val (.long q2), .second, .val (.long q3), .second, .val (.long q4), .second, .val (.long q5), .second] [] := by first | (simp [entryFrame, mkF, argsToLocals, Value.category, maxLocals]; done) | rfl
theorem d1_0 : decode prog_51_method_1_code 0 = .ok (.aload_n 0, 1) := by decide +kernel
theorem d1_1 : decode prog_51_method_1_code 1 = .ok (.invokespecial 1, 3) := by decide +kernel
theorem d1_4 : decode prog_51_method_1_code 4 = .ok (.aload_n 0, 1) := by decide +kernel
theorem d1_5 : decode prog_51_method_1_code 5 = .ok (.lload_n 1, 1) := by decide +kernel
theorem d1_6 : decode prog_51_method_1_code 6 = .ok (.putfield 7, 3) := by decide +kernel
theorem d1_9 : decode prog_51_method_1_code 9 = .ok (.aload_n 0, 1) := by decide +kernel
theorem d1_10 : decode prog_51_method_1_code 10 = .ok (.lload_n 3, 1) := by decide +kernel
theorem d1_11 : decode prog_51_method_1_code 11 = .ok (.putfield 13, 3) := by decide +kernel
theorem d1_14 : decode prog_51_method_1_code 14 = .ok (.aload_n 0, 1) := by decide +kernel
theorem d1_15 : decode prog_51_method_1_code 15 = .ok (.lload 5, 2) := by decide +kernel
theorem d1_17 : decode prog_51_method_1_code 17 = .ok (.putfield 16, 3) := by decide +kernel
theorem d1_20 : decode prog_51_method_1_code 20 = .ok (.aload_n 0, 1) := by decide +kernel
theorem d1_21 : decode prog_51_method_1_code 21 = .ok (.lload 7, 2) := by decide +kernel
theorem d1_23 : decode prog_51_method_1_code 23 = .ok (.putfield 19, 3) := by decide +kernel
theorem d1_26 : decode prog_51_method_1_code 26 = .ok (.aload_n 0, 1) := by decide +kernel
theorem d1_27 : decode prog_51_method_1_code 27 = .ok (.lload 9, 2) := by decide +kernel
theorem d1_29 : decode prog_51_method_1_code 29 = .ok (.putfield 22, 3) := by decide +kernel
theorem d1_32 : decode prog_51_method_1_code 32 = .ok (.return_, 1) := by decide +kernel
set_option maxRecDepth 65536 in
set_option maxHeartbeats 40000000 in
theorem rm1 (l : Launch) (Z : State) (a0 : Array Value) (hw : ∀ d ∈ tables_1, d.before a0 Z = true) (ws : List Jvm.Cond) (o0 : Addr) (q1 : Int64) (q2 : Int64) (q3 : Int64) (q4 : Int64) (q5 : Int64) (h0 : Heap) (n0 : Nat) (Z0 : n0 ≤ h0.size) (g_o0 : n0 ≤ o0) (F0 : Exa Z h0 o0 "com/example/traceweave/traceweave/replay/TokenCounts") (F1 : Fld Z h0 o0 "com/example/traceweave/traceweave/replay/TokenCounts" "produced" "J" (.long (0 : Int64))) (F2 : Fld Z h0 o0 "com/example/traceweave/traceweave/replay/TokenCounts" "consumed" "J" (.long (0 : Int64))) (F3 : Fld Z h0 o0 "com/example/traceweave/traceweave/replay/TokenCounts" "missing" "J" (.long (0 : Int64))) (F4 : Fld Z h0 o0 "com/example/traceweave/traceweave/replay/TokenCounts" "remaining" "J" (.long (0 : Int64))) (F5 : Fld Z h0 o0 "com/example/traceweave/traceweave/replay/TokenCounts" "skipped" "J" (.long (0 : Int64))) :
    MetFree l (⟨"com/example/traceweave/traceweave/replay/TokenCounts", "<init>", "(JJJJJ)V"⟩ : MethodName) (head1 (Jvm.Cond.code (⟨"com/example/traceweave/traceweave/replay/TokenCounts", "<init>", "(JJJJJ)V"⟩ : MethodName) prog_51_method_1_code 11 none :: ws) ({ frames := 2, cells := 0, slots := 0, locals := 24 } : Room)) (fun a U => a = #[(.ref o0), (.long q1), (.long q2), (.long q3), (.long q4), (.long q5)] ∧ Z.Warmed39 U.vm ∧ U.heap = h0) (fun _ _ _ _ _ => True) (fun _ U o U' => ∃ v L, o = .returned v ∧ Q_rm1 Z o0 q1 q2 q3 q4 q5 h0 n0 v U'.heap L ∧ FrameEnd U o U' L ({ frames := 2, cells := 0, slots := 0, locals := 24 } : Room).cells ({ frames := 2, cells := 0, slots := 0, locals := 24 } : Room).slots) := by
  refine body pn_com_example_traceweave_traceweave_replay_TokenCounts__init__1 ?_
  intro p e s m below meth c s₁ hx hby hml hown hnm hret hlk hZ e0 X0
  replace hml : c.maxLocals = 11 := hml
  replace hown : s.vm.findClass "com/example/traceweave/traceweave/replay/TokenCounts" = some m.cls := hown
  replace hnm : meth.name = "<init>" := hnm
  replace hret : meth.sig.returnType = none := hret
  have N0 := Fr.nil n0
  rw [ef_rm1]
  obtain ⟨G, hG⟩ : ∃ G, G = End (Q_rm1 Z o0 q1 q2 q3 q4 q5 h0 n0) s ({ frames := 2, cells := 0, slots := 0, locals := 24 } : Room).cells ({ frames := 2, cells := 0, slots := 0, locals := 24 } : Room).slots := ⟨_, rfl⟩
  rw [← hG]
  refine go (u' := s₁.setTop (mkF m 1 #[.val (.ref o0), .val (.long q1), .second, .val (.long q2), .second, .val (.long q3), .second, .val (.long q4), .second, .val (.long q5), .second] [(.ref o0)])) (fun _ ks_ => XS.aloadN X0.here hx rfl (hb hby d1_0) rfl rfl ks_) ?_
  obtain ⟨_, _, ⟨T1, L1, k1, n1⟩, -, X1, ⟨Lc1, hQ1, l1, y1, z1⟩, st1⟩ := X0.specialBack hx (y := (⟨"java/lang/Record", "<init>", "()V"⟩ : MethodName)) rfl hown (mvT hZ (ww hw 6 rfl)) (mvT hZ (ww hw 7 rfl)) (mvT hZ (ww hw 10 rfl)) (by decide) (backOf (W := 0) (rm2 l Z a0 hw [] o0 h0 n0 Z0) hZ (ww hw 10 rfl) (ww hw 9 rfl) (by decide) (by decide)) (g := (mkF m 1 #[.val (.ref o0), .val (.long q1), .second, .val (.long q2), .second, .val (.long q3), .second, .val (.long q4), .second, .val (.long q5), .second] [(.ref o0)])) rfl (by rw [hml]; rfl) (Steps.refl _) (a := o0) (argsL := []) (rest := []) (lenOf pd__40__41_V rfl) rfl (by show 2 * 0 + _ ≤ _; exact Nat.le_of_eq rfl) (hb hby d1_1) (fun _ _ => ⟨rfl, e0, (by decide : 0 + 0 ≤ _), (by decide : 0 + 0 ≤ _)⟩)
  dsimp only [Pt.U, Pt.locs, Pt.cells, Pt.slots] at X1 l1 y1 z1 st1 hQ1
  subst l1 y1 z1
  obtain ⟨rfl, N1q, eq1⟩ := hQ1
  have N1 := Fr.app N0 N1q
  refine goT (u' := T1.setTop (mkF m 4 #[.val (.ref o0), .val (.long q1), .second, .val (.long q2), .second, .val (.long q3), .second, .val (.long q4), .second, .val (.long q5), .second] [])) st1 ?_
  refine go (u' := T1.setTop (mkF m 5 #[.val (.ref o0), .val (.long q1), .second, .val (.long q2), .second, .val (.long q3), .second, .val (.long q4), .second, .val (.long q5), .second] [(.ref o0)])) (fun _ ks_ => XS.aloadN X1.here hx rfl (hb hby d1_4) rfl rfl ks_) ?_
  refine go (u' := T1.setTop (mkF m 6 #[.val (.ref o0), .val (.long q1), .second, .val (.long q2), .second, .val (.long q3), .second, .val (.long q4), .second, .val (.long q5), .second] [(.long q1), (.ref o0)])) (fun _ ks_ => XS.lloadN X1.here hx rfl (hb hby d1_5) rfl  ks_) ?_
  obtain ⟨T2, h2, X2, e2, W2, st2⟩ := putF X1 hx hZ hown (host := "") (Or.inl (ww hw 14 rfl)) Via.refl eq1 F1 F0 (Or.inr ⟨(ww hw 15 rfl), rfl, hnm⟩) (ww hw 1 rfl) (ty := .long) (by decide) rfl rfl (g := (mkF m 6 #[.val (.ref o0), .val (.long q1), .second, .val (.long q2), .second, .val (.long q3), .second, .val (.long q4), .second, .val (.long q5), .second] [(.long q1), (.ref o0)])) rfl rfl (hb hby d1_6)
  have N2 := Fr.snoc X2 N1 g_o0
  have K2 : Keep h0 h2 [o0] := (Keep.refl h0 [o0]).wr W2 (Or.inl (List.mem_of_getElem? (i := 0) rfl))
  have Z2 : n0 ≤ h2.size := Nat.le_trans Z0 (Keep.of_wr W2).1
  have Fa3 : Exa Z h2 o0 "com/example/traceweave/traceweave/replay/TokenCounts" := F0.wr W2
  have Fa4 : Fld Z h2 o0 "com/example/traceweave/traceweave/replay/TokenCounts" "consumed" "J" (.long (0 : Int64)) := F2.other W2 (Or.inr (slot_ne (Or.inr (ww hw 17 rfl)) (Or.inr (ww hw 15 rfl)) (by decide) (t := .long) (t' := .long) (by decide) (by decide)))
  have Fa5 : Fld Z h2 o0 "com/example/traceweave/traceweave/replay/TokenCounts" "missing" "J" (.long (0 : Int64)) := F3.other W2 (Or.inr (slot_ne (Or.inr (ww hw 19 rfl)) (Or.inr (ww hw 15 rfl)) (by decide) (t := .long) (t' := .long) (by decide) (by decide)))
  have Fa6 : Fld Z h2 o0 "com/example/traceweave/traceweave/replay/TokenCounts" "remaining" "J" (.long (0 : Int64)) := F4.other W2 (Or.inr (slot_ne (Or.inr (ww hw 21 rfl)) (Or.inr (ww hw 15 rfl)) (by decide) (t := .long) (t' := .long) (by decide) (by decide)))
  have Fa7 : Fld Z h2 o0 "com/example/traceweave/traceweave/replay/TokenCounts" "skipped" "J" (.long (0 : Int64)) := F5.other W2 (Or.inr (slot_ne (Or.inr (ww hw 23 rfl)) (Or.inr (ww hw 15 rfl)) (by decide) (t := .long) (t' := .long) (by decide) (by decide)))
  have Fa8 : Fld Z h2 o0 "com/example/traceweave/traceweave/replay/TokenCounts" "produced" "J" (.long q1) := F1.same W2
  refine go (u' := T2.setTop (mkF m 9 #[.val (.ref o0), .val (.long q1), .second, .val (.long q2), .second, .val (.long q3), .second, .val (.long q4), .second, .val (.long q5), .second] [])) st2 ?_
  refine go (u' := T2.setTop (mkF m 10 #[.val (.ref o0), .val (.long q1), .second, .val (.long q2), .second, .val (.long q3), .second, .val (.long q4), .second, .val (.long q5), .second] [(.ref o0)])) (fun _ ks_ => XS.aloadN X2.here hx rfl (hb hby d1_9) rfl rfl ks_) ?_
  refine go (u' := T2.setTop (mkF m 11 #[.val (.ref o0), .val (.long q1), .second, .val (.long q2), .second, .val (.long q3), .second, .val (.long q4), .second, .val (.long q5), .second] [(.long q2), (.ref o0)])) (fun _ ks_ => XS.lloadN X2.here hx rfl (hb hby d1_10) rfl  ks_) ?_
  obtain ⟨T9, h9, X9, e9, W9, st9⟩ := putF X2 hx hZ hown (host := "") (Or.inl (ww hw 16 rfl)) Via.refl e2 Fa4 Fa3 (Or.inr ⟨(ww hw 17 rfl), rfl, hnm⟩) (ww hw 1 rfl) (ty := .long) (by decide) rfl rfl (g := (mkF m 11 #[.val (.ref o0), .val (.long q1), .second, .val (.long q2), .second, .val (.long q3), .second, .val (.long q4), .second, .val (.long q5), .second] [(.long q2), (.ref o0)])) rfl rfl (hb hby d1_11)
  have N9 := Fr.snoc X9 N2 g_o0
  have K9 : Keep h0 h9 [o0] := K2.wr W9 (Or.inl (List.mem_of_getElem? (i := 0) rfl))
  have Z9 : n0 ≤ h9.size := Nat.le_trans Z2 (Keep.of_wr W9).1
  have Fa10 : Exa Z h9 o0 "com/example/traceweave/traceweave/replay/TokenCounts" := Fa3.wr W9
  have Fa11 : Fld Z h9 o0 "com/example/traceweave/traceweave/replay/TokenCounts" "produced" "J" (.long q1) := Fa8.other W9 (Or.inr (slot_ne (Or.inr (ww hw 15 rfl)) (Or.inr (ww hw 17 rfl)) (by decide) (t := .long) (t' := .long) (by decide) (by decide)))
  have Fa12 : Fld Z h9 o0 "com/example/traceweave/traceweave/replay/TokenCounts" "missing" "J" (.long (0 : Int64)) := Fa5.other W9 (Or.inr (slot_ne (Or.inr (ww hw 19 rfl)) (Or.inr (ww hw 17 rfl)) (by decide) (t := .long) (t' := .long) (by decide) (by decide)))
  have Fa13 : Fld Z h9 o0 "com/example/traceweave/traceweave/replay/TokenCounts" "remaining" "J" (.long (0 : Int64)) := Fa6.other W9 (Or.inr (slot_ne (Or.inr (ww hw 21 rfl)) (Or.inr (ww hw 17 rfl)) (by decide) (t := .long) (t' := .long) (by decide) (by decide)))
  have Fa14 : Fld Z h9 o0 "com/example/traceweave/traceweave/replay/TokenCounts" "skipped" "J" (.long (0 : Int64)) := Fa7.other W9 (Or.inr (slot_ne (Or.inr (ww hw 23 rfl)) (Or.inr (ww hw 17 rfl)) (by decide) (t := .long) (t' := .long) (by decide) (by decide)))
  have Fa15 : Fld Z h9 o0 "com/example/traceweave/traceweave/replay/TokenCounts" "consumed" "J" (.long q2) := Fa4.same W9
  refine go (u' := T9.setTop (mkF m 14 #[.val (.ref o0), .val (.long q1), .second, .val (.long q2), .second, .val (.long q3), .second, .val (.long q4), .second, .val (.long q5), .second] [])) st9 ?_
  refine go (u' := T9.setTop (mkF m 15 #[.val (.ref o0), .val (.long q1), .second, .val (.long q2), .second, .val (.long q3), .second, .val (.long q4), .second, .val (.long q5), .second] [(.ref o0)])) (fun _ ks_ => XS.aloadN X9.here hx rfl (hb hby d1_14) rfl rfl ks_) ?_
  refine go (u' := T9.setTop (mkF m 17 #[.val (.ref o0), .val (.long q1), .second, .val (.long q2), .second, .val (.long q3), .second, .val (.long q4), .second, .val (.long q5), .second] [(.long q3), (.ref o0)])) (fun _ ks_ => XS.lload X9.here hx rfl (hb hby d1_15) rfl  ks_) ?_
  obtain ⟨T16, h16, X16, e16, W16, st16⟩ := putF X9 hx hZ hown (host := "") (Or.inl (ww hw 18 rfl)) Via.refl e9 Fa12 Fa10 (Or.inr ⟨(ww hw 19 rfl), rfl, hnm⟩) (ww hw 1 rfl) (ty := .long) (by decide) rfl rfl (g := (mkF m 17 #[.val (.ref o0), .val (.long q1), .second, .val (.long q2), .second, .val (.long q3), .second, .val (.long q4), .second, .val (.long q5), .second] [(.long q3), (.ref o0)])) rfl rfl (hb hby d1_17)
  have N16 := Fr.snoc X16 N9 g_o0
  have K16 : Keep h0 h16 [o0] := K9.wr W16 (Or.inl (List.mem_of_getElem? (i := 0) rfl))
  have Z16 : n0 ≤ h16.size := Nat.le_trans Z9 (Keep.of_wr W16).1
  have Fa17 : Exa Z h16 o0 "com/example/traceweave/traceweave/replay/TokenCounts" := Fa10.wr W16
  have Fa18 : Fld Z h16 o0 "com/example/traceweave/traceweave/replay/TokenCounts" "produced" "J" (.long q1) := Fa11.other W16 (Or.inr (slot_ne (Or.inr (ww hw 15 rfl)) (Or.inr (ww hw 19 rfl)) (by decide) (t := .long) (t' := .long) (by decide) (by decide)))
  have Fa19 : Fld Z h16 o0 "com/example/traceweave/traceweave/replay/TokenCounts" "consumed" "J" (.long q2) := Fa15.other W16 (Or.inr (slot_ne (Or.inr (ww hw 17 rfl)) (Or.inr (ww hw 19 rfl)) (by decide) (t := .long) (t' := .long) (by decide) (by decide)))
  have Fa20 : Fld Z h16 o0 "com/example/traceweave/traceweave/replay/TokenCounts" "remaining" "J" (.long (0 : Int64)) := Fa13.other W16 (Or.inr (slot_ne (Or.inr (ww hw 21 rfl)) (Or.inr (ww hw 19 rfl)) (by decide) (t := .long) (t' := .long) (by decide) (by decide)))
  have Fa21 : Fld Z h16 o0 "com/example/traceweave/traceweave/replay/TokenCounts" "skipped" "J" (.long (0 : Int64)) := Fa14.other W16 (Or.inr (slot_ne (Or.inr (ww hw 23 rfl)) (Or.inr (ww hw 19 rfl)) (by decide) (t := .long) (t' := .long) (by decide) (by decide)))
  have Fa22 : Fld Z h16 o0 "com/example/traceweave/traceweave/replay/TokenCounts" "missing" "J" (.long q3) := Fa12.same W16
  refine go (u' := T16.setTop (mkF m 20 #[.val (.ref o0), .val (.long q1), .second, .val (.long q2), .second, .val (.long q3), .second, .val (.long q4), .second, .val (.long q5), .second] [])) st16 ?_
  refine go (u' := T16.setTop (mkF m 21 #[.val (.ref o0), .val (.long q1), .second, .val (.long q2), .second, .val (.long q3), .second, .val (.long q4), .second, .val (.long q5), .second] [(.ref o0)])) (fun _ ks_ => XS.aloadN X16.here hx rfl (hb hby d1_20) rfl rfl ks_) ?_
  refine go (u' := T16.setTop (mkF m 23 #[.val (.ref o0), .val (.long q1), .second, .val (.long q2), .second, .val (.long q3), .second, .val (.long q4), .second, .val (.long q5), .second] [(.long q4), (.ref o0)])) (fun _ ks_ => XS.lload X16.here hx rfl (hb hby d1_21) rfl  ks_) ?_
  obtain ⟨T23, h23, X23, e23, W23, st23⟩ := putF X16 hx hZ hown (host := "") (Or.inl (ww hw 20 rfl)) Via.refl e16 Fa20 Fa17 (Or.inr ⟨(ww hw 21 rfl), rfl, hnm⟩) (ww hw 1 rfl) (ty := .long) (by decide) rfl rfl (g := (mkF m 23 #[.val (.ref o0), .val (.long q1), .second, .val (.long q2), .second, .val (.long q3), .second, .val (.long q4), .second, .val (.long q5), .second] [(.long q4), (.ref o0)])) rfl rfl (hb hby d1_23)
  have N23 := Fr.snoc X23 N16 g_o0
  have K23 : Keep h0 h23 [o0] := K16.wr W23 (Or.inl (List.mem_of_getElem? (i := 0) rfl))
  have Z23 : n0 ≤ h23.size := Nat.le_trans Z16 (Keep.of_wr W23).1
  have Fa24 : Exa Z h23 o0 "com/example/traceweave/traceweave/replay/TokenCounts" := Fa17.wr W23
  have Fa25 : Fld Z h23 o0 "com/example/traceweave/traceweave/replay/TokenCounts" "produced" "J" (.long q1) := Fa18.other W23 (Or.inr (slot_ne (Or.inr (ww hw 15 rfl)) (Or.inr (ww hw 21 rfl)) (by decide) (t := .long) (t' := .long) (by decide) (by decide)))
  have Fa26 : Fld Z h23 o0 "com/example/traceweave/traceweave/replay/TokenCounts" "consumed" "J" (.long q2) := Fa19.other W23 (Or.inr (slot_ne (Or.inr (ww hw 17 rfl)) (Or.inr (ww hw 21 rfl)) (by decide) (t := .long) (t' := .long) (by decide) (by decide)))
  have Fa27 : Fld Z h23 o0 "com/example/traceweave/traceweave/replay/TokenCounts" "missing" "J" (.long q3) := Fa22.other W23 (Or.inr (slot_ne (Or.inr (ww hw 19 rfl)) (Or.inr (ww hw 21 rfl)) (by decide) (t := .long) (t' := .long) (by decide) (by decide)))
  have Fa28 : Fld Z h23 o0 "com/example/traceweave/traceweave/replay/TokenCounts" "skipped" "J" (.long (0 : Int64)) := Fa21.other W23 (Or.inr (slot_ne (Or.inr (ww hw 23 rfl)) (Or.inr (ww hw 21 rfl)) (by decide) (t := .long) (t' := .long) (by decide) (by decide)))
  have Fa29 : Fld Z h23 o0 "com/example/traceweave/traceweave/replay/TokenCounts" "remaining" "J" (.long q4) := Fa20.same W23
  refine go (u' := T23.setTop (mkF m 26 #[.val (.ref o0), .val (.long q1), .second, .val (.long q2), .second, .val (.long q3), .second, .val (.long q4), .second, .val (.long q5), .second] [])) st23 ?_
  refine go (u' := T23.setTop (mkF m 27 #[.val (.ref o0), .val (.long q1), .second, .val (.long q2), .second, .val (.long q3), .second, .val (.long q4), .second, .val (.long q5), .second] [(.ref o0)])) (fun _ ks_ => XS.aloadN X23.here hx rfl (hb hby d1_26) rfl rfl ks_) ?_
  refine go (u' := T23.setTop (mkF m 29 #[.val (.ref o0), .val (.long q1), .second, .val (.long q2), .second, .val (.long q3), .second, .val (.long q4), .second, .val (.long q5), .second] [(.long q5), (.ref o0)])) (fun _ ks_ => XS.lload X23.here hx rfl (hb hby d1_27) rfl  ks_) ?_
  obtain ⟨T30, h30, X30, e30, W30, st30⟩ := putF X23 hx hZ hown (host := "") (Or.inl (ww hw 22 rfl)) Via.refl e23 Fa28 Fa24 (Or.inr ⟨(ww hw 23 rfl), rfl, hnm⟩) (ww hw 1 rfl) (ty := .long) (by decide) rfl rfl (g := (mkF m 29 #[.val (.ref o0), .val (.long q1), .second, .val (.long q2), .second, .val (.long q3), .second, .val (.long q4), .second, .val (.long q5), .second] [(.long q5), (.ref o0)])) rfl rfl (hb hby d1_29)
  have N30 := Fr.snoc X30 N23 g_o0
  have K30 : Keep h0 h30 [o0] := K23.wr W30 (Or.inl (List.mem_of_getElem? (i := 0) rfl))
  have Z30 : n0 ≤ h30.size := Nat.le_trans Z23 (Keep.of_wr W30).1
  have Fa31 : Exa Z h30 o0 "com/example/traceweave/traceweave/replay/TokenCounts" := Fa24.wr W30
  have Fa32 : Fld Z h30 o0 "com/example/traceweave/traceweave/replay/TokenCounts" "produced" "J" (.long q1) := Fa25.other W30 (Or.inr (slot_ne (Or.inr (ww hw 15 rfl)) (Or.inr (ww hw 23 rfl)) (by decide) (t := .long) (t' := .long) (by decide) (by decide)))
  have Fa33 : Fld Z h30 o0 "com/example/traceweave/traceweave/replay/TokenCounts" "consumed" "J" (.long q2) := Fa26.other W30 (Or.inr (slot_ne (Or.inr (ww hw 17 rfl)) (Or.inr (ww hw 23 rfl)) (by decide) (t := .long) (t' := .long) (by decide) (by decide)))
  have Fa34 : Fld Z h30 o0 "com/example/traceweave/traceweave/replay/TokenCounts" "missing" "J" (.long q3) := Fa27.other W30 (Or.inr (slot_ne (Or.inr (ww hw 19 rfl)) (Or.inr (ww hw 23 rfl)) (by decide) (t := .long) (t' := .long) (by decide) (by decide)))
  have Fa35 : Fld Z h30 o0 "com/example/traceweave/traceweave/replay/TokenCounts" "remaining" "J" (.long q4) := Fa29.other W30 (Or.inr (slot_ne (Or.inr (ww hw 21 rfl)) (Or.inr (ww hw 23 rfl)) (by decide) (t := .long) (t' := .long) (by decide) (by decide)))
  have Fa36 : Fld Z h30 o0 "com/example/traceweave/traceweave/replay/TokenCounts" "skipped" "J" (.long q5) := Fa28.same W30
  refine go (u' := T30.setTop (mkF m 32 #[.val (.ref o0), .val (.long q1), .second, .val (.long q2), .second, .val (.long q3), .second, .val (.long q4), .second, .val (.long q5), .second] [])) st30 ?_
  rw [hG]
  refine g0 X30 hx hlk hret (hb hby d1_32) ?_ (Nat.le_of_ble_eq_true rfl) (Nat.le_of_ble_eq_true rfl)
  show Q_rm1 Z o0 q1 q2 q3 q4 q5 h0 n0 (none) T30.heap _
  rw [e30]
  exact ⟨rfl, N30, K30, Fa31, Fa32, Fa33, Fa34, Fa35, Fa36⟩
theorem pn_com_example_traceweave_traceweave_replay_TokenCounts_fits_4 : plainFor (⟨"com/example/traceweave/traceweave/replay/TokenCounts", "fits", "()Z"⟩ : MethodName) = true := by first | exact plainFor_of_name (by first | (simp [plainName, overriddenIn]; done) | decide +kernel) | decide +kernel
def Q_rm4 (Z : State) (o0 : Addr) (mi : Int64) (re : Int64) (sk : Int64) (h0 : Heap) (n0 : Nat) (v : Option Value) (h : Heap) (L : List Loc) : Prop := v = some (.int (B ((mi = (0 : Int64)) ∧ ((re = (0 : Int64)) ∧ (sk = (0 : Int64)))))) ∧ Fr n0 L ∧ h = h0
set_option maxRecDepth 65536 in
set_option maxHeartbeats 4000000 in
theorem ef_rm4 (m : MethodId) (o0 : Addr) : entryFrame m #[(.ref o0)] 1 = mkF m 0 #[.val (.ref o0)] [] := by first | (simp [entryFrame, mkF, argsToLocals, Value.category, maxLocals]; done) | rfl
theorem d4_0 : decode prog_51_method_3_code 0 = .ok (.aload_n 0, 1) := by decide +kernel
theorem d4_1 : decode prog_51_method_3_code 1 = .ok (.getfield 16, 3) := by decide +kernel
theorem d4_4 : decode prog_51_method_3_code 4 = .ok (.lconst 0, 1) := by decide +kernel
theorem d4_5 : decode prog_51_method_3_code 5 = .ok (.lcmp, 1) := by decide +kernel
theorem d4_6 : decode prog_51_method_3_code 6 = .ok (.ifCond .ne 25, 3) := by decide +kernel
theorem d4_9 : decode prog_51_method_3_code 9 = .ok (.aload_n 0, 1) := by decide +kernel
theorem d4_10 : decode prog_51_method_3_code 10 = .ok (.getfield 19, 3) := by decide +kernel
theorem d4_13 : decode prog_51_method_3_code 13 = .ok (.lconst 0, 1) := by decide +kernel
theorem d4_14 : decode prog_51_method_3_code 14 = .ok (.lcmp, 1) := by decide +kernel
theorem d4_15 : decode prog_51_method_3_code 15 = .ok (.ifCond .ne 16, 3) := by decide +kernel
theorem d4_18 : decode prog_51_method_3_code 18 = .ok (.aload_n 0, 1) := by decide +kernel
theorem d4_19 : decode prog_51_method_3_code 19 = .ok (.getfield 22, 3) := by decide +kernel
theorem d4_22 : decode prog_51_method_3_code 22 = .ok (.lconst 0, 1) := by decide +kernel
theorem d4_23 : decode prog_51_method_3_code 23 = .ok (.lcmp, 1) := by decide +kernel
theorem d4_24 : decode prog_51_method_3_code 24 = .ok (.ifCond .ne 7, 3) := by decide +kernel
theorem d4_27 : decode prog_51_method_3_code 27 = .ok (.iconst 1, 1) := by decide +kernel
theorem d4_28 : decode prog_51_method_3_code 28 = .ok (.goto 4, 3) := by decide +kernel
theorem d4_31 : decode prog_51_method_3_code 31 = .ok (.iconst 0, 1) := by decide +kernel
theorem d4_32 : decode prog_51_method_3_code 32 = .ok (.ireturn, 1) := by decide +kernel
set_option maxRecDepth 65536 in
set_option maxHeartbeats 40000000 in
theorem rm4 (l : Launch) (Z : State) (a0 : Array Value) (hw : ∀ d ∈ tables_1, d.before a0 Z = true) (ws : List Jvm.Cond) (o0 : Addr) (mi : Int64) (re : Int64) (sk : Int64) (h0 : Heap) (n0 : Nat) (Z0 : n0 ≤ h0.size) (F0 : Fld Z h0 o0 "com/example/traceweave/traceweave/replay/TokenCounts" "missing" "J" (.long mi)) (F1 : Fld Z h0 o0 "com/example/traceweave/traceweave/replay/TokenCounts" "remaining" "J" (.long re)) (F2 : Fld Z h0 o0 "com/example/traceweave/traceweave/replay/TokenCounts" "skipped" "J" (.long sk)) :
    MetFree l (⟨"com/example/traceweave/traceweave/replay/TokenCounts", "fits", "()Z"⟩ : MethodName) (head1 (Jvm.Cond.code (⟨"com/example/traceweave/traceweave/replay/TokenCounts", "fits", "()Z"⟩ : MethodName) prog_51_method_3_code 1 (some .boolean) :: ws) ({ frames := 0, cells := 0, slots := 0, locals := 0 } : Room)) (fun a U => a = #[(.ref o0)] ∧ Z.Warmed39 U.vm ∧ U.heap = h0) (fun _ _ _ _ _ => True) (fun _ U o U' => ∃ v L, o = .returned v ∧ Q_rm4 Z o0 mi re sk h0 n0 v U'.heap L ∧ FrameEnd U o U' L ({ frames := 0, cells := 0, slots := 0, locals := 0 } : Room).cells ({ frames := 0, cells := 0, slots := 0, locals := 0 } : Room).slots) := by
  refine body pn_com_example_traceweave_traceweave_replay_TokenCounts_fits_4 ?_
  intro p e s m below meth c s₁ hx hby hml hown hnm hret hlk hZ e0 X0
  replace hml : c.maxLocals = 1 := hml
  replace hown : s.vm.findClass "com/example/traceweave/traceweave/replay/TokenCounts" = some m.cls := hown
  replace hnm : meth.name = "fits" := hnm
  replace hret : meth.sig.returnType = (some .boolean) := hret
  have N0 := Fr.nil n0
  rw [ef_rm4]
  obtain ⟨G, hG⟩ : ∃ G, G = End (Q_rm4 Z o0 mi re sk h0 n0) s ({ frames := 0, cells := 0, slots := 0, locals := 0 } : Room).cells ({ frames := 0, cells := 0, slots := 0, locals := 0 } : Room).slots := ⟨_, rfl⟩
  rw [← hG]
  refine go (u' := s₁.setTop (mkF m 1 #[.val (.ref o0)] [(.ref o0)])) (fun _ ks_ => XS.aloadN X0.here hx rfl (hb hby d4_0) rfl rfl ks_) ?_
  obtain ⟨T1, X1, e1, st1⟩ := getF X0 hx hZ hown (host := "") (Or.inl (ww hw 18 rfl)) Via.refl e0 F0 (g := (mkF m 1 #[.val (.ref o0)] [(.ref o0)])) rfl rfl (hb hby d4_1)
  refine go (u' := T1.setTop (mkF m 4 #[.val (.ref o0)] [(.long mi)])) st1 ?_
  refine go (u' := T1.setTop (mkF m 5 #[.val (.ref o0)] [(.long (0 : Int64)), (.long mi)])) (fun _ ks_ => XS.lconst X1.here hx rfl (hb hby d4_4) ks_) ?_
  refine go (u' := T1.setTop (mkF m 6 #[.val (.ref o0)] [(.int (lcmpW mi (0 : Int64)))])) (fun _ ks_ => XS.lcmp X1.here hx rfl (hb hby d4_5) rfl ks_) ?_
  by_cases c6_1 : mi = (0 : Int64)
  ·
    refine go (u' := T1.setTop (mkF m 9 #[.val (.ref o0)] [])) (fun _ ks_ => XS.ifNo X1.here hx rfl (hb hby d4_6) rfl (lTe c6_1).2 ks_) ?_
    refine go (u' := T1.setTop (mkF m 10 #[.val (.ref o0)] [(.ref o0)])) (fun _ ks_ => XS.aloadN X1.here hx rfl (hb hby d4_9) rfl rfl ks_) ?_
    obtain ⟨T2, X2, e2, st2⟩ := getF X1 hx hZ hown (host := "") (Or.inl (ww hw 20 rfl)) Via.refl e1 F1 (g := (mkF m 10 #[.val (.ref o0)] [(.ref o0)])) rfl rfl (hb hby d4_10)
    refine go (u' := T2.setTop (mkF m 13 #[.val (.ref o0)] [(.long re)])) st2 ?_
    refine go (u' := T2.setTop (mkF m 14 #[.val (.ref o0)] [(.long (0 : Int64)), (.long re)])) (fun _ ks_ => XS.lconst X2.here hx rfl (hb hby d4_13) ks_) ?_
    refine go (u' := T2.setTop (mkF m 15 #[.val (.ref o0)] [(.int (lcmpW re (0 : Int64)))])) (fun _ ks_ => XS.lcmp X2.here hx rfl (hb hby d4_14) rfl ks_) ?_
    by_cases c15_2 : re = (0 : Int64)
    ·
      refine go (u' := T2.setTop (mkF m 18 #[.val (.ref o0)] [])) (fun _ ks_ => XS.ifNo X2.here hx rfl (hb hby d4_15) rfl (lTe c15_2).2 ks_) ?_
      refine go (u' := T2.setTop (mkF m 19 #[.val (.ref o0)] [(.ref o0)])) (fun _ ks_ => XS.aloadN X2.here hx rfl (hb hby d4_18) rfl rfl ks_) ?_
      obtain ⟨T3, X3, e3, st3⟩ := getF X2 hx hZ hown (host := "") (Or.inl (ww hw 22 rfl)) Via.refl e2 F2 (g := (mkF m 19 #[.val (.ref o0)] [(.ref o0)])) rfl rfl (hb hby d4_19)
      refine go (u' := T3.setTop (mkF m 22 #[.val (.ref o0)] [(.long sk)])) st3 ?_
      refine go (u' := T3.setTop (mkF m 23 #[.val (.ref o0)] [(.long (0 : Int64)), (.long sk)])) (fun _ ks_ => XS.lconst X3.here hx rfl (hb hby d4_22) ks_) ?_
      refine go (u' := T3.setTop (mkF m 24 #[.val (.ref o0)] [(.int (lcmpW sk (0 : Int64)))])) (fun _ ks_ => XS.lcmp X3.here hx rfl (hb hby d4_23) rfl ks_) ?_
      by_cases c24_3 : sk = (0 : Int64)
      ·
        refine go (u' := T3.setTop (mkF m 27 #[.val (.ref o0)] [])) (fun _ ks_ => XS.ifNo X3.here hx rfl (hb hby d4_24) rfl (lTe c24_3).2 ks_) ?_
        refine go (u' := T3.setTop (mkF m 28 #[.val (.ref o0)] [(.int (1 : Int32))])) (fun _ ks_ => XS.iconst X3.here hx rfl (hb hby d4_27) ks_) ?_
        refine go (u' := T3.setTop (mkF m 32 #[.val (.ref o0)] [(.int (1 : Int32))])) (fun _ ks_ => XS.goto X3.here hx rfl (pc0 := 28) (pc' := 32) rfl (hb hby d4_28) (by decide) (by decide) ks_) ?_
        rw [hG]
        refine gN X3 hx hlk (t := .boolean) hret (by simp) rfl (hb hby d4_32) ?_ (Nat.le_of_ble_eq_true rfl) (Nat.le_of_ble_eq_true rfl)
        show Q_rm4 Z o0 mi re sk h0 n0 (some (.int (1 : Int32))) T3.heap _
        rw [e3]
        exact ⟨congrArg (fun z => some (Value.int z)) (B1 ⟨c6_1, ⟨c15_2, c24_3⟩⟩), N0, rfl⟩
      ·
        refine go (u' := T3.setTop (mkF m 31 #[.val (.ref o0)] [])) (fun _ ks_ => XS.ifYes X3.here hx rfl (pc0 := 24) (pc' := 31) rfl (hb hby d4_24) rfl (lFe c24_3).2 (by decide) (by decide) ks_) ?_
        refine go (u' := T3.setTop (mkF m 32 #[.val (.ref o0)] [(.int (0 : Int32))])) (fun _ ks_ => XS.iconst X3.here hx rfl (hb hby d4_31) ks_) ?_
        rw [hG]
        refine gN X3 hx hlk (t := .boolean) hret (by simp) rfl (hb hby d4_32) ?_ (Nat.le_of_ble_eq_true rfl) (Nat.le_of_ble_eq_true rfl)
        show Q_rm4 Z o0 mi re sk h0 n0 (some (.int (0 : Int32))) T3.heap _
        rw [e3]
        exact ⟨congrArg (fun z => some (Value.int z)) (B0 (fun q => (fun q => c24_3 q.2) q.2)), N0, rfl⟩
    ·
      refine go (u' := T2.setTop (mkF m 31 #[.val (.ref o0)] [])) (fun _ ks_ => XS.ifYes X2.here hx rfl (pc0 := 15) (pc' := 31) rfl (hb hby d4_15) rfl (lFe c15_2).2 (by decide) (by decide) ks_) ?_
      refine go (u' := T2.setTop (mkF m 32 #[.val (.ref o0)] [(.int (0 : Int32))])) (fun _ ks_ => XS.iconst X2.here hx rfl (hb hby d4_31) ks_) ?_
      rw [hG]
      refine gN X2 hx hlk (t := .boolean) hret (by simp) rfl (hb hby d4_32) ?_ (Nat.le_of_ble_eq_true rfl) (Nat.le_of_ble_eq_true rfl)
      show Q_rm4 Z o0 mi re sk h0 n0 (some (.int (0 : Int32))) T2.heap _
      rw [e2]
      exact ⟨congrArg (fun z => some (Value.int z)) (B0 (fun q => (fun q => c15_2 q.1) q.2)), N0, rfl⟩
  ·
    refine go (u' := T1.setTop (mkF m 31 #[.val (.ref o0)] [])) (fun _ ks_ => XS.ifYes X1.here hx rfl (pc0 := 6) (pc' := 31) rfl (hb hby d4_6) rfl (lFe c6_1).2 (by decide) (by decide) ks_) ?_
    refine go (u' := T1.setTop (mkF m 32 #[.val (.ref o0)] [(.int (0 : Int32))])) (fun _ ks_ => XS.iconst X1.here hx rfl (hb hby d4_31) ks_) ?_
    rw [hG]
    refine gN X1 hx hlk (t := .boolean) hret (by simp) rfl (hb hby d4_32) ?_ (Nat.le_of_ble_eq_true rfl) (Nat.le_of_ble_eq_true rfl)
    show Q_rm4 Z o0 mi re sk h0 n0 (some (.int (0 : Int32))) T1.heap _
    rw [e1]
    exact ⟨congrArg (fun z => some (Value.int z)) (B0 (fun q => c6_1 q.1)), N0, rfl⟩
theorem pd__40_JJJJJ_41_V : parseMethodDescriptor "(JJJJJ)V" = some ⟨[.long, .long, .long, .long, .long], none⟩ := by decide +kernel
theorem pd__40__41_Z : parseMethodDescriptor "()Z" = some ⟨[], some .boolean⟩ := by decide +kernel
theorem pn_com_example_traceweave_traceweave_replay_TokenCountsFitsPinLaw_law_0 : plainFor x = true := by first | exact plainFor_of_name (by first | (simp [plainName, overriddenIn]; done) | decide +kernel) | decide +kernel
def Q_rm0 (Z : State) (q0 : Int64) (q1 : Int64) (q2 : Int64) (q3 : Int64) (q4 : Int64) (p5 : Int32) (h0 : Heap) (n0 : Nat) (v : Option Value) (h : Heap) (L : List Loc) : Prop := v = some (.int (1 : Int32)) ∧ Fr n0 L
set_option maxRecDepth 65536 in
set_option maxHeartbeats 4000000 in
theorem ef_rm0 (m : MethodId) (q0 : Int64) (q1 : Int64) (q2 : Int64) (q3 : Int64) (q4 : Int64) (p5 : Int32) : entryFrame m #[(.long q0), (.long q1), (.long q2), (.long q3), (.long q4), (.int p5)] maxLocals = mkF m 0 #[.val (.long q0), .second, .val (.long q1), .second, .val (.long q2), .second, .val (.long q3), .second, .val (.long q4), .second, .val (.int p5), .unset, .unset, .unset, .unset, .unset, .unset, .unset, .unset, .unset] [] := by first | (simp [entryFrame, mkF, argsToLocals, Value.category, maxLocals]; done) | rfl
set_option maxRecDepth 65536 in
set_option maxHeartbeats 40000000 in
theorem rm0 (l : Launch) (Z : State) (a0 : Array Value) (hw : ∀ d ∈ tables_1, d.before a0 Z = true) (ws : List Jvm.Cond) (q0 : Int64) (q1 : Int64) (q2 : Int64) (q3 : Int64) (q4 : Int64) (p5 : Int32) (h0 : Heap) (n0 : Nat) (Z0 : n0 ≤ h0.size)  :
    MetFree l x (head1 (Jvm.Cond.code x code maxLocals ret :: ws) room_1) (fun a U => a = #[(.long q0), (.long q1), (.long q2), (.long q3), (.long q4), (.int p5)] ∧ Z.Warmed39 U.vm ∧ U.heap = h0) (fun _ _ _ _ _ => True) (fun _ U o U' => ∃ v L, o = .returned v ∧ Q_rm0 Z q0 q1 q2 q3 q4 p5 h0 n0 v U'.heap L ∧ FrameEnd U o U' L room_1.cells room_1.slots) := by
  refine body pn_com_example_traceweave_traceweave_replay_TokenCountsFitsPinLaw_law_0 ?_
  intro p e s m below meth c s₁ hx hby hml hown hnm hret hlk hZ e0 X0
  replace hml : c.maxLocals = 20 := hml
  replace hown : s.vm.findClass "com/example/traceweave/traceweave/replay/TokenCountsFitsPinLaw" = some m.cls := hown
  replace hnm : meth.name = "law" := hnm
  replace hret : meth.sig.returnType = (some .boolean) := hret
  have N0 := Fr.nil n0
  rw [ef_rm0]
  obtain ⟨G, hG⟩ : ∃ G, G = End (Q_rm0 Z q0 q1 q2 q3 q4 p5 h0 n0) s room_1.cells room_1.slots := ⟨_, rfl⟩
  rw [← hG]
  refine go (u' := s₁.setTop (mkF m 2 #[.val (.long q0), .second, .val (.long q1), .second, .val (.long q2), .second, .val (.long q3), .second, .val (.long q4), .second, .val (.int p5), .unset, .unset, .unset, .unset, .unset, .unset, .unset, .unset, .unset] [(.int p5)])) (fun _ ks_ => XS.iload X0.here hx rfl (hb hby at_0) rfl  ks_) ?_
  refine go (u' := s₁.setTop (mkF m 3 #[.val (.long q0), .second, .val (.long q1), .second, .val (.long q2), .second, .val (.long q3), .second, .val (.long q4), .second, .val (.int p5), .unset, .unset, .unset, .unset, .unset, .unset, .unset, .unset, .unset] [(.int (1 : Int32)), (.int p5)])) (fun _ ks_ => XS.iconst X0.here hx rfl (hb hby at_2) ks_) ?_
  refine go (u' := s₁.setTop (mkF m 4 #[.val (.long q0), .second, .val (.long q1), .second, .val (.long q2), .second, .val (.long q3), .second, .val (.long q4), .second, .val (.int p5), .unset, .unset, .unset, .unset, .unset, .unset, .unset, .unset, .unset] [(.int (p5 &&& (1 : Int32)))])) (fun _ ks_ => XS.iand X0.here hx rfl (hb hby at_3) rfl ks_) ?_
  have J13_1 : ∀ v13_1 : Int64, v13_1 = (if (p5 &&& (1 : Int32)) = (0 : Int32) then q2 else (0 : Int64)) → Go p.tables e below G (s₁.setTop (mkF m 13 #[.val (.long q0), .second, .val (.long q1), .second, .val (.long q2), .second, .val (.long q3), .second, .val (.long q4), .second, .val (.int p5), .unset, .unset, .unset, .unset, .unset, .unset, .unset, .unset, .unset] [(.long v13_1)])) := by
    intro v13_1 hv13_1
    refine go (u' := s₁.setTop (mkF m 15 #[.val (.long q0), .second, .val (.long q1), .second, .val (.long q2), .second, .val (.long q3), .second, .val (.long q4), .second, .val (.int p5), .val (.long v13_1), .second, .unset, .unset, .unset, .unset, .unset, .unset, .unset] [])) (fun _ ks_ => XS.lstore X0.here hx rfl (hb hby at_13) rfl  (l' := #[.val (.long q0), .second, .val (.long q1), .second, .val (.long q2), .second, .val (.long q3), .second, .val (.long q4), .second, .val (.int p5), .val (.long v13_1), .second, .unset, .unset, .unset, .unset, .unset, .unset, .unset]) rfl ks_) ?_
    refine go (u' := s₁.setTop (mkF m 17 #[.val (.long q0), .second, .val (.long q1), .second, .val (.long q2), .second, .val (.long q3), .second, .val (.long q4), .second, .val (.int p5), .val (.long v13_1), .second, .unset, .unset, .unset, .unset, .unset, .unset, .unset] [(.int p5)])) (fun _ ks_ => XS.iload X0.here hx rfl (hb hby at_15) rfl  ks_) ?_
    refine go (u' := s₁.setTop (mkF m 18 #[.val (.long q0), .second, .val (.long q1), .second, .val (.long q2), .second, .val (.long q3), .second, .val (.long q4), .second, .val (.int p5), .val (.long v13_1), .second, .unset, .unset, .unset, .unset, .unset, .unset, .unset] [(.int (2 : Int32)), (.int p5)])) (fun _ ks_ => XS.iconst X0.here hx rfl (hb hby at_17) ks_) ?_
    refine go (u' := s₁.setTop (mkF m 19 #[.val (.long q0), .second, .val (.long q1), .second, .val (.long q2), .second, .val (.long q3), .second, .val (.long q4), .second, .val (.int p5), .val (.long v13_1), .second, .unset, .unset, .unset, .unset, .unset, .unset, .unset] [(.int (p5 &&& (2 : Int32)))])) (fun _ ks_ => XS.iand X0.here hx rfl (hb hby at_18) rfl ks_) ?_
    have J28_2 : ∀ v28_2 : Int64, v28_2 = (if (p5 &&& (2 : Int32)) = (0 : Int32) then q3 else (0 : Int64)) → Go p.tables e below G (s₁.setTop (mkF m 28 #[.val (.long q0), .second, .val (.long q1), .second, .val (.long q2), .second, .val (.long q3), .second, .val (.long q4), .second, .val (.int p5), .val (.long v13_1), .second, .unset, .unset, .unset, .unset, .unset, .unset, .unset] [(.long v28_2)])) := by
      intro v28_2 hv28_2
      refine go (u' := s₁.setTop (mkF m 30 #[.val (.long q0), .second, .val (.long q1), .second, .val (.long q2), .second, .val (.long q3), .second, .val (.long q4), .second, .val (.int p5), .val (.long v13_1), .second, .val (.long v28_2), .second, .unset, .unset, .unset, .unset, .unset] [])) (fun _ ks_ => XS.lstore X0.here hx rfl (hb hby at_28) rfl  (l' := #[.val (.long q0), .second, .val (.long q1), .second, .val (.long q2), .second, .val (.long q3), .second, .val (.long q4), .second, .val (.int p5), .val (.long v13_1), .second, .val (.long v28_2), .second, .unset, .unset, .unset, .unset, .unset]) rfl ks_) ?_
      refine go (u' := s₁.setTop (mkF m 32 #[.val (.long q0), .second, .val (.long q1), .second, .val (.long q2), .second, .val (.long q3), .second, .val (.long q4), .second, .val (.int p5), .val (.long v13_1), .second, .val (.long v28_2), .second, .unset, .unset, .unset, .unset, .unset] [(.int p5)])) (fun _ ks_ => XS.iload X0.here hx rfl (hb hby at_30) rfl  ks_) ?_
      refine go (u' := s₁.setTop (mkF m 33 #[.val (.long q0), .second, .val (.long q1), .second, .val (.long q2), .second, .val (.long q3), .second, .val (.long q4), .second, .val (.int p5), .val (.long v13_1), .second, .val (.long v28_2), .second, .unset, .unset, .unset, .unset, .unset] [(.int (4 : Int32)), (.int p5)])) (fun _ ks_ => XS.iconst X0.here hx rfl (hb hby at_32) ks_) ?_
      refine go (u' := s₁.setTop (mkF m 34 #[.val (.long q0), .second, .val (.long q1), .second, .val (.long q2), .second, .val (.long q3), .second, .val (.long q4), .second, .val (.int p5), .val (.long v13_1), .second, .val (.long v28_2), .second, .unset, .unset, .unset, .unset, .unset] [(.int (p5 &&& (4 : Int32)))])) (fun _ ks_ => XS.iand X0.here hx rfl (hb hby at_33) rfl ks_) ?_
      have J43_3 : ∀ v43_3 : Int64, v43_3 = (if (p5 &&& (4 : Int32)) = (0 : Int32) then q4 else (0 : Int64)) → Go p.tables e below G (s₁.setTop (mkF m 43 #[.val (.long q0), .second, .val (.long q1), .second, .val (.long q2), .second, .val (.long q3), .second, .val (.long q4), .second, .val (.int p5), .val (.long v13_1), .second, .val (.long v28_2), .second, .unset, .unset, .unset, .unset, .unset] [(.long v43_3)])) := by
        intro v43_3 hv43_3
        refine go (u' := s₁.setTop (mkF m 45 #[.val (.long q0), .second, .val (.long q1), .second, .val (.long q2), .second, .val (.long q3), .second, .val (.long q4), .second, .val (.int p5), .val (.long v13_1), .second, .val (.long v28_2), .second, .val (.long v43_3), .second, .unset, .unset, .unset] [])) (fun _ ks_ => XS.lstore X0.here hx rfl (hb hby at_43) rfl  (l' := #[.val (.long q0), .second, .val (.long q1), .second, .val (.long q2), .second, .val (.long q3), .second, .val (.long q4), .second, .val (.int p5), .val (.long v13_1), .second, .val (.long v28_2), .second, .val (.long v43_3), .second, .unset, .unset, .unset]) rfl ks_) ?_
        refine go (u' := s₁.setTop (mkF m 47 #[.val (.long q0), .second, .val (.long q1), .second, .val (.long q2), .second, .val (.long q3), .second, .val (.long q4), .second, .val (.int p5), .val (.long v13_1), .second, .val (.long v28_2), .second, .val (.long v43_3), .second, .unset, .unset, .unset] [(.long v13_1)])) (fun _ ks_ => XS.lload X0.here hx rfl (hb hby at_45) rfl  ks_) ?_
        refine go (u' := s₁.setTop (mkF m 49 #[.val (.long q0), .second, .val (.long q1), .second, .val (.long q2), .second, .val (.long q3), .second, .val (.long q4), .second, .val (.int p5), .val (.long v13_1), .second, .val (.long v28_2), .second, .val (.long v43_3), .second, .unset, .unset, .unset] [(.long v28_2), (.long v13_1)])) (fun _ ks_ => XS.lload X0.here hx rfl (hb hby at_47) rfl  ks_) ?_
        refine go (u' := s₁.setTop (mkF m 50 #[.val (.long q0), .second, .val (.long q1), .second, .val (.long q2), .second, .val (.long q3), .second, .val (.long q4), .second, .val (.int p5), .val (.long v13_1), .second, .val (.long v28_2), .second, .val (.long v43_3), .second, .unset, .unset, .unset] [(.long (v13_1 ||| v28_2))])) (fun _ ks_ => XS.lor X0.here hx rfl (hb hby at_49) rfl ks_) ?_
        refine go (u' := s₁.setTop (mkF m 52 #[.val (.long q0), .second, .val (.long q1), .second, .val (.long q2), .second, .val (.long q3), .second, .val (.long q4), .second, .val (.int p5), .val (.long v13_1), .second, .val (.long v28_2), .second, .val (.long v43_3), .second, .unset, .unset, .unset] [(.long v43_3), (.long (v13_1 ||| v28_2))])) (fun _ ks_ => XS.lload X0.here hx rfl (hb hby at_50) rfl  ks_) ?_
        refine go (u' := s₁.setTop (mkF m 53 #[.val (.long q0), .second, .val (.long q1), .second, .val (.long q2), .second, .val (.long q3), .second, .val (.long q4), .second, .val (.int p5), .val (.long v13_1), .second, .val (.long v28_2), .second, .val (.long v43_3), .second, .unset, .unset, .unset] [(.long ((v13_1 ||| v28_2) ||| v43_3))])) (fun _ ks_ => XS.lor X0.here hx rfl (hb hby at_52) rfl ks_) ?_
        refine go (u' := s₁.setTop (mkF m 54 #[.val (.long q0), .second, .val (.long q1), .second, .val (.long q2), .second, .val (.long q3), .second, .val (.long q4), .second, .val (.int p5), .val (.long v13_1), .second, .val (.long v28_2), .second, .val (.long v43_3), .second, .unset, .unset, .unset] [(.long (0 : Int64)), (.long ((v13_1 ||| v28_2) ||| v43_3))])) (fun _ ks_ => XS.lconst X0.here hx rfl (hb hby at_53) ks_) ?_
        refine go (u' := s₁.setTop (mkF m 55 #[.val (.long q0), .second, .val (.long q1), .second, .val (.long q2), .second, .val (.long q3), .second, .val (.long q4), .second, .val (.int p5), .val (.long v13_1), .second, .val (.long v28_2), .second, .val (.long v43_3), .second, .unset, .unset, .unset] [(.int (lcmpW ((v13_1 ||| v28_2) ||| v43_3) (0 : Int64)))])) (fun _ ks_ => XS.lcmp X0.here hx rfl (hb hby at_54) rfl ks_) ?_
        have J63_4 : ∀ v63_4 : Int32, v63_4 = (B (((v13_1 ||| v28_2) ||| v43_3) = (0 : Int64))) → Go p.tables e below G (s₁.setTop (mkF m 63 #[.val (.long q0), .second, .val (.long q1), .second, .val (.long q2), .second, .val (.long q3), .second, .val (.long q4), .second, .val (.int p5), .val (.long v13_1), .second, .val (.long v28_2), .second, .val (.long v43_3), .second, .unset, .unset, .unset] [(.int v63_4)])) := by
          intro v63_4 hv63_4
          subst hv63_4
          refine go (u' := s₁.setTop (mkF m 65 #[.val (.long q0), .second, .val (.long q1), .second, .val (.long q2), .second, .val (.long q3), .second, .val (.long q4), .second, .val (.int p5), .val (.long v13_1), .second, .val (.long v28_2), .second, .val (.long v43_3), .second, .val (.int (B (((v13_1 ||| v28_2) ||| v43_3) = (0 : Int64)))), .unset, .unset] [])) (fun _ ks_ => XS.istore X0.here hx rfl (hb hby at_63) rfl  (l' := #[.val (.long q0), .second, .val (.long q1), .second, .val (.long q2), .second, .val (.long q3), .second, .val (.long q4), .second, .val (.int p5), .val (.long v13_1), .second, .val (.long v28_2), .second, .val (.long v43_3), .second, .val (.int (B (((v13_1 ||| v28_2) ||| v43_3) = (0 : Int64)))), .unset, .unset]) rfl ks_) ?_
          obtain ⟨T1, h1, X1, e1, E1, A1, D1, -, st1⟩ := newO X0 hx hZ hown (ww hw 0 rfl) (ww hw 1 rfl) (ww hw 2 rfl) e0 (g := (mkF m 65 #[.val (.long q0), .second, .val (.long q1), .second, .val (.long q2), .second, .val (.long q3), .second, .val (.long q4), .second, .val (.int p5), .val (.long v13_1), .second, .val (.long v28_2), .second, .val (.long v43_3), .second, .val (.int (B (((v13_1 ||| v28_2) ||| v43_3) = (0 : Int64)))), .unset, .unset] [])) rfl (hb hby at_65) (by decide) (by decide)
          obtain ⟨b1, g1⟩ : ∃ z, z = h0.size := ⟨_, rfl⟩
          rw [← g1] at A1 D1 st1
          have g_b1 : n0 ≤ b1 := Nat.le_trans Z0 (Nat.le_of_eq g1.symm)
          have sz_b1 : h0.size ≤ b1 := Nat.le_trans (Keep.refl h0 []).1 (Nat.le_of_eq g1.symm)
          have K1 : Keep h0 h1 [] := (Keep.refl h0 []).ext E1
          have Z1 : n0 ≤ h1.size := Nat.le_trans Z0 E1.1
          have Fa2 : Fld Z h1 b1 "com/example/traceweave/traceweave/replay/TokenCounts" "produced" "J" (.long (0 : Int64)) := D1 (Or.inr (ww hw 15 rfl)) (ty := .long) (by decide)
          have Fa3 : Fld Z h1 b1 "com/example/traceweave/traceweave/replay/TokenCounts" "consumed" "J" (.long (0 : Int64)) := D1 (Or.inr (ww hw 17 rfl)) (ty := .long) (by decide)
          have Fa4 : Fld Z h1 b1 "com/example/traceweave/traceweave/replay/TokenCounts" "missing" "J" (.long (0 : Int64)) := D1 (Or.inr (ww hw 19 rfl)) (ty := .long) (by decide)
          have Fa5 : Fld Z h1 b1 "com/example/traceweave/traceweave/replay/TokenCounts" "remaining" "J" (.long (0 : Int64)) := D1 (Or.inr (ww hw 21 rfl)) (ty := .long) (by decide)
          have Fa6 : Fld Z h1 b1 "com/example/traceweave/traceweave/replay/TokenCounts" "skipped" "J" (.long (0 : Int64)) := D1 (Or.inr (ww hw 23 rfl)) (ty := .long) (by decide)
          refine go (u' := T1.setTop (mkF m 68 #[.val (.long q0), .second, .val (.long q1), .second, .val (.long q2), .second, .val (.long q3), .second, .val (.long q4), .second, .val (.int p5), .val (.long v13_1), .second, .val (.long v28_2), .second, .val (.long v43_3), .second, .val (.int (B (((v13_1 ||| v28_2) ||| v43_3) = (0 : Int64)))), .unset, .unset] [(.ref b1)])) st1 ?_
          refine go (u' := T1.setTop (mkF m 69 #[.val (.long q0), .second, .val (.long q1), .second, .val (.long q2), .second, .val (.long q3), .second, .val (.long q4), .second, .val (.int p5), .val (.long v13_1), .second, .val (.long v28_2), .second, .val (.long v43_3), .second, .val (.int (B (((v13_1 ||| v28_2) ||| v43_3) = (0 : Int64)))), .unset, .unset] [(.ref b1), (.ref b1)])) (fun _ ks_ => XS.dup X1.here hx rfl (hb hby at_68) rfl rfl ks_) ?_
          refine go (u' := T1.setTop (mkF m 70 #[.val (.long q0), .second, .val (.long q1), .second, .val (.long q2), .second, .val (.long q3), .second, .val (.long q4), .second, .val (.int p5), .val (.long v13_1), .second, .val (.long v28_2), .second, .val (.long v43_3), .second, .val (.int (B (((v13_1 ||| v28_2) ||| v43_3) = (0 : Int64)))), .unset, .unset] [(.long q0), (.ref b1), (.ref b1)])) (fun _ ks_ => XS.lloadN X1.here hx rfl (hb hby at_69) rfl  ks_) ?_
          refine go (u' := T1.setTop (mkF m 71 #[.val (.long q0), .second, .val (.long q1), .second, .val (.long q2), .second, .val (.long q3), .second, .val (.long q4), .second, .val (.int p5), .val (.long v13_1), .second, .val (.long v28_2), .second, .val (.long v43_3), .second, .val (.int (B (((v13_1 ||| v28_2) ||| v43_3) = (0 : Int64)))), .unset, .unset] [(.long q1), (.long q0), (.ref b1), (.ref b1)])) (fun _ ks_ => XS.lloadN X1.here hx rfl (hb hby at_70) rfl  ks_) ?_
          refine go (u' := T1.setTop (mkF m 73 #[.val (.long q0), .second, .val (.long q1), .second, .val (.long q2), .second, .val (.long q3), .second, .val (.long q4), .second, .val (.int p5), .val (.long v13_1), .second, .val (.long v28_2), .second, .val (.long v43_3), .second, .val (.int (B (((v13_1 ||| v28_2) ||| v43_3) = (0 : Int64)))), .unset, .unset] [(.long v13_1), (.long q1), (.long q0), (.ref b1), (.ref b1)])) (fun _ ks_ => XS.lload X1.here hx rfl (hb hby at_71) rfl  ks_) ?_
          refine go (u' := T1.setTop (mkF m 75 #[.val (.long q0), .second, .val (.long q1), .second, .val (.long q2), .second, .val (.long q3), .second, .val (.long q4), .second, .val (.int p5), .val (.long v13_1), .second, .val (.long v28_2), .second, .val (.long v43_3), .second, .val (.int (B (((v13_1 ||| v28_2) ||| v43_3) = (0 : Int64)))), .unset, .unset] [(.long v28_2), (.long v13_1), (.long q1), (.long q0), (.ref b1), (.ref b1)])) (fun _ ks_ => XS.lload X1.here hx rfl (hb hby at_73) rfl  ks_) ?_
          refine go (u' := T1.setTop (mkF m 77 #[.val (.long q0), .second, .val (.long q1), .second, .val (.long q2), .second, .val (.long q3), .second, .val (.long q4), .second, .val (.int p5), .val (.long v13_1), .second, .val (.long v28_2), .second, .val (.long v43_3), .second, .val (.int (B (((v13_1 ||| v28_2) ||| v43_3) = (0 : Int64)))), .unset, .unset] [(.long v43_3), (.long v28_2), (.long v13_1), (.long q1), (.long q0), (.ref b1), (.ref b1)])) (fun _ ks_ => XS.lload X1.here hx rfl (hb hby at_75) rfl  ks_) ?_
          obtain ⟨_, _, ⟨T7, L7, k7, n7⟩, -, X7, ⟨Lc7, hQ7, l7, y7, z7⟩, st7⟩ := X1.specialBack hx (y := (⟨"com/example/traceweave/traceweave/replay/TokenCounts", "<init>", "(JJJJJ)V"⟩ : MethodName)) rfl hown (mvT hZ (ww hw 3 rfl)) (mvT hZ (ww hw 4 rfl)) (mvT hZ (ww hw 5 rfl)) (by decide) (backOf (W := 1) (rm1 l Z a0 hw [] b1 q0 q1 v13_1 v28_2 v43_3 h1 n0 Z1 g_b1 A1 Fa2 Fa3 Fa4 Fa5 Fa6) hZ (ww hw 5 rfl) (ww hw 2 rfl) (by decide) (by decide)) (g := (mkF m 77 #[.val (.long q0), .second, .val (.long q1), .second, .val (.long q2), .second, .val (.long q3), .second, .val (.long q4), .second, .val (.int p5), .val (.long v13_1), .second, .val (.long v28_2), .second, .val (.long v43_3), .second, .val (.int (B (((v13_1 ||| v28_2) ||| v43_3) = (0 : Int64)))), .unset, .unset] [(.long v43_3), (.long v28_2), (.long v13_1), (.long q1), (.long q0), (.ref b1), (.ref b1)])) rfl (by rw [hml]; rfl) (Steps.refl _) (a := b1) (argsL := [(.long q0), (.long q1), (.long v13_1), (.long v28_2), (.long v43_3)]) (rest := [(.ref b1)]) (lenOf pd__40_JJJJJ_41_V rfl) rfl (by show 2 * 0 + _ ≤ _; exact Nat.le_of_eq rfl) (hb hby at_77) (fun _ _ => ⟨rfl, e1, (by decide : 1 + 0 ≤ _), (by decide : 5 + 0 ≤ _)⟩)
          dsimp only [Pt.U, Pt.locs, Pt.cells, Pt.slots] at X7 l7 y7 z7 st7 hQ7
          subst l7 y7 z7
          obtain ⟨rfl, N7q, Kq7, Fa8, Fa9, Fa10, Fa11, Fa12, Fa13⟩ := hQ7
          have N7 := Fr.app N0 N7q
          have K7 : Keep h0 T7.heap [] := K1.trans Kq7 (allS (P := fun x => x ∈ [] ∨ h0.size ≤ x) (Or.inr sz_b1) all0)
          have Z7 : n0 ≤ T7.heap.size := Nat.le_trans Z1 Kq7.1
          have Fa14 : Exa Z T7.heap b1 "com/example/traceweave/traceweave/replay/TokenCounts" := A1.keep Kq7
          refine goT (u' := T7.setTop (mkF m 80 #[.val (.long q0), .second, .val (.long q1), .second, .val (.long q2), .second, .val (.long q3), .second, .val (.long q4), .second, .val (.int p5), .val (.long v13_1), .second, .val (.long v28_2), .second, .val (.long v43_3), .second, .val (.int (B (((v13_1 ||| v28_2) ||| v43_3) = (0 : Int64)))), .unset, .unset] [(.ref b1)])) st7 ?_
          refine go (u' := T7.setTop (mkF m 82 #[.val (.long q0), .second, .val (.long q1), .second, .val (.long q2), .second, .val (.long q3), .second, .val (.long q4), .second, .val (.int p5), .val (.long v13_1), .second, .val (.long v28_2), .second, .val (.long v43_3), .second, .val (.int (B (((v13_1 ||| v28_2) ||| v43_3) = (0 : Int64)))), .val (.ref b1), .unset] [])) (fun _ ks_ => XS.astore X7.here hx rfl (hb hby at_80) rfl rfl (l' := #[.val (.long q0), .second, .val (.long q1), .second, .val (.long q2), .second, .val (.long q3), .second, .val (.long q4), .second, .val (.int p5), .val (.long v13_1), .second, .val (.long v28_2), .second, .val (.long v43_3), .second, .val (.int (B (((v13_1 ||| v28_2) ||| v43_3) = (0 : Int64)))), .val (.ref b1), .unset]) rfl ks_) ?_
          obtain ⟨T15, h15, X15, e15, E15, A15, D15, -, st15⟩ := newO X7 hx hZ hown (ww hw 0 rfl) (ww hw 1 rfl) (ww hw 2 rfl) (rfl : T7.heap = _) (g := (mkF m 82 #[.val (.long q0), .second, .val (.long q1), .second, .val (.long q2), .second, .val (.long q3), .second, .val (.long q4), .second, .val (.int p5), .val (.long v13_1), .second, .val (.long v28_2), .second, .val (.long v43_3), .second, .val (.int (B (((v13_1 ||| v28_2) ||| v43_3) = (0 : Int64)))), .val (.ref b1), .unset] [])) rfl (hb hby at_82) (by decide) (by decide)
          obtain ⟨b15, g15⟩ : ∃ z, z = T7.heap.size := ⟨_, rfl⟩
          rw [← g15] at A15 D15 st15
          have ne_b1_b15 : b1 ≠ b15 := Nat.ne_of_lt (Nat.lt_of_lt_of_le Fa8.lt (Nat.le_of_eq g15.symm))
          have g_b15 : n0 ≤ b15 := Nat.le_trans Z7 (Nat.le_of_eq g15.symm)
          have sz_b15 : h0.size ≤ b15 := Nat.le_trans K7.1 (Nat.le_of_eq g15.symm)
          have K15 : Keep h0 h15 [] := K7.ext E15
          have Fa16 : Exa Z h15 b1 "com/example/traceweave/traceweave/replay/TokenCounts" := Fa8.ext E15
          have Fa17 : Fld Z h15 b1 "com/example/traceweave/traceweave/replay/TokenCounts" "produced" "J" (.long q0) := Fa9.ext E15
          have Fa18 : Fld Z h15 b1 "com/example/traceweave/traceweave/replay/TokenCounts" "consumed" "J" (.long q1) := Fa10.ext E15
          have Fa19 : Fld Z h15 b1 "com/example/traceweave/traceweave/replay/TokenCounts" "missing" "J" (.long v13_1) := Fa11.ext E15
          have Fa20 : Fld Z h15 b1 "com/example/traceweave/traceweave/replay/TokenCounts" "remaining" "J" (.long v28_2) := Fa12.ext E15
          have Fa21 : Fld Z h15 b1 "com/example/traceweave/traceweave/replay/TokenCounts" "skipped" "J" (.long v43_3) := Fa13.ext E15
          have Z15 : n0 ≤ h15.size := Nat.le_trans Z7 E15.1
          have Fa22 : Fld Z h15 b15 "com/example/traceweave/traceweave/replay/TokenCounts" "produced" "J" (.long (0 : Int64)) := D15 (Or.inr (ww hw 15 rfl)) (ty := .long) (by decide)
          have Fa23 : Fld Z h15 b15 "com/example/traceweave/traceweave/replay/TokenCounts" "consumed" "J" (.long (0 : Int64)) := D15 (Or.inr (ww hw 17 rfl)) (ty := .long) (by decide)
          have Fa24 : Fld Z h15 b15 "com/example/traceweave/traceweave/replay/TokenCounts" "missing" "J" (.long (0 : Int64)) := D15 (Or.inr (ww hw 19 rfl)) (ty := .long) (by decide)
          have Fa25 : Fld Z h15 b15 "com/example/traceweave/traceweave/replay/TokenCounts" "remaining" "J" (.long (0 : Int64)) := D15 (Or.inr (ww hw 21 rfl)) (ty := .long) (by decide)
          have Fa26 : Fld Z h15 b15 "com/example/traceweave/traceweave/replay/TokenCounts" "skipped" "J" (.long (0 : Int64)) := D15 (Or.inr (ww hw 23 rfl)) (ty := .long) (by decide)
          refine go (u' := T15.setTop (mkF m 85 #[.val (.long q0), .second, .val (.long q1), .second, .val (.long q2), .second, .val (.long q3), .second, .val (.long q4), .second, .val (.int p5), .val (.long v13_1), .second, .val (.long v28_2), .second, .val (.long v43_3), .second, .val (.int (B (((v13_1 ||| v28_2) ||| v43_3) = (0 : Int64)))), .val (.ref b1), .unset] [(.ref b15)])) st15 ?_
          refine go (u' := T15.setTop (mkF m 86 #[.val (.long q0), .second, .val (.long q1), .second, .val (.long q2), .second, .val (.long q3), .second, .val (.long q4), .second, .val (.int p5), .val (.long v13_1), .second, .val (.long v28_2), .second, .val (.long v43_3), .second, .val (.int (B (((v13_1 ||| v28_2) ||| v43_3) = (0 : Int64)))), .val (.ref b1), .unset] [(.ref b15), (.ref b15)])) (fun _ ks_ => XS.dup X15.here hx rfl (hb hby at_85) rfl rfl ks_) ?_
          refine go (u' := T15.setTop (mkF m 87 #[.val (.long q0), .second, .val (.long q1), .second, .val (.long q2), .second, .val (.long q3), .second, .val (.long q4), .second, .val (.int p5), .val (.long v13_1), .second, .val (.long v28_2), .second, .val (.long v43_3), .second, .val (.int (B (((v13_1 ||| v28_2) ||| v43_3) = (0 : Int64)))), .val (.ref b1), .unset] [(.long q1), (.ref b15), (.ref b15)])) (fun _ ks_ => XS.lloadN X15.here hx rfl (hb hby at_86) rfl  ks_) ?_
          refine go (u' := T15.setTop (mkF m 88 #[.val (.long q0), .second, .val (.long q1), .second, .val (.long q2), .second, .val (.long q3), .second, .val (.long q4), .second, .val (.int p5), .val (.long v13_1), .second, .val (.long v28_2), .second, .val (.long v43_3), .second, .val (.int (B (((v13_1 ||| v28_2) ||| v43_3) = (0 : Int64)))), .val (.ref b1), .unset] [(.long q0), (.long q1), (.ref b15), (.ref b15)])) (fun _ ks_ => XS.lloadN X15.here hx rfl (hb hby at_87) rfl  ks_) ?_
          refine go (u' := T15.setTop (mkF m 89 #[.val (.long q0), .second, .val (.long q1), .second, .val (.long q2), .second, .val (.long q3), .second, .val (.long q4), .second, .val (.int p5), .val (.long v13_1), .second, .val (.long v28_2), .second, .val (.long v43_3), .second, .val (.int (B (((v13_1 ||| v28_2) ||| v43_3) = (0 : Int64)))), .val (.ref b1), .unset] [(.long (q1 ^^^ q0)), (.ref b15), (.ref b15)])) (fun _ ks_ => XS.lxor X15.here hx rfl (hb hby at_88) rfl ks_) ?_
          refine go (u' := T15.setTop (mkF m 90 #[.val (.long q0), .second, .val (.long q1), .second, .val (.long q2), .second, .val (.long q3), .second, .val (.long q4), .second, .val (.int p5), .val (.long v13_1), .second, .val (.long v28_2), .second, .val (.long v43_3), .second, .val (.int (B (((v13_1 ||| v28_2) ||| v43_3) = (0 : Int64)))), .val (.ref b1), .unset] [(.long q0), (.long (q1 ^^^ q0)), (.ref b15), (.ref b15)])) (fun _ ks_ => XS.lloadN X15.here hx rfl (hb hby at_89) rfl  ks_) ?_
          refine go (u' := T15.setTop (mkF m 91 #[.val (.long q0), .second, .val (.long q1), .second, .val (.long q2), .second, .val (.long q3), .second, .val (.long q4), .second, .val (.int p5), .val (.long v13_1), .second, .val (.long v28_2), .second, .val (.long v43_3), .second, .val (.int (B (((v13_1 ||| v28_2) ||| v43_3) = (0 : Int64)))), .val (.ref b1), .unset] [(.long (1 : Int64)), (.long q0), (.long (q1 ^^^ q0)), (.ref b15), (.ref b15)])) (fun _ ks_ => XS.lconst X15.here hx rfl (hb hby at_90) ks_) ?_
          refine go (u' := T15.setTop (mkF m 92 #[.val (.long q0), .second, .val (.long q1), .second, .val (.long q2), .second, .val (.long q3), .second, .val (.long q4), .second, .val (.int p5), .val (.long v13_1), .second, .val (.long v28_2), .second, .val (.long v43_3), .second, .val (.int (B (((v13_1 ||| v28_2) ||| v43_3) = (0 : Int64)))), .val (.ref b1), .unset] [(.long (q0 + (1 : Int64))), (.long (q1 ^^^ q0)), (.ref b15), (.ref b15)])) (fun _ ks_ => XS.ladd X15.here hx rfl (hb hby at_91) rfl ks_) ?_
          refine go (u' := T15.setTop (mkF m 94 #[.val (.long q0), .second, .val (.long q1), .second, .val (.long q2), .second, .val (.long q3), .second, .val (.long q4), .second, .val (.int p5), .val (.long v13_1), .second, .val (.long v28_2), .second, .val (.long v43_3), .second, .val (.int (B (((v13_1 ||| v28_2) ||| v43_3) = (0 : Int64)))), .val (.ref b1), .unset] [(.long v13_1), (.long (q0 + (1 : Int64))), (.long (q1 ^^^ q0)), (.ref b15), (.ref b15)])) (fun _ ks_ => XS.lload X15.here hx rfl (hb hby at_92) rfl  ks_) ?_
          refine go (u' := T15.setTop (mkF m 96 #[.val (.long q0), .second, .val (.long q1), .second, .val (.long q2), .second, .val (.long q3), .second, .val (.long q4), .second, .val (.int p5), .val (.long v13_1), .second, .val (.long v28_2), .second, .val (.long v43_3), .second, .val (.int (B (((v13_1 ||| v28_2) ||| v43_3) = (0 : Int64)))), .val (.ref b1), .unset] [(.long v28_2), (.long v13_1), (.long (q0 + (1 : Int64))), (.long (q1 ^^^ q0)), (.ref b15), (.ref b15)])) (fun _ ks_ => XS.lload X15.here hx rfl (hb hby at_94) rfl  ks_) ?_
          refine go (u' := T15.setTop (mkF m 98 #[.val (.long q0), .second, .val (.long q1), .second, .val (.long q2), .second, .val (.long q3), .second, .val (.long q4), .second, .val (.int p5), .val (.long v13_1), .second, .val (.long v28_2), .second, .val (.long v43_3), .second, .val (.int (B (((v13_1 ||| v28_2) ||| v43_3) = (0 : Int64)))), .val (.ref b1), .unset] [(.long v43_3), (.long v28_2), (.long v13_1), (.long (q0 + (1 : Int64))), (.long (q1 ^^^ q0)), (.ref b15), (.ref b15)])) (fun _ ks_ => XS.lload X15.here hx rfl (hb hby at_96) rfl  ks_) ?_
          obtain ⟨_, _, ⟨T27, L27, k27, n27⟩, -, X27, ⟨Lc27, hQ27, l27, y27, z27⟩, st27⟩ := X15.specialBack hx (y := (⟨"com/example/traceweave/traceweave/replay/TokenCounts", "<init>", "(JJJJJ)V"⟩ : MethodName)) rfl hown (mvT hZ (ww hw 3 rfl)) (mvT hZ (ww hw 4 rfl)) (mvT hZ (ww hw 5 rfl)) (by decide) (backOf (W := 1) (rm1 l Z a0 hw [] b15 (q1 ^^^ q0) (q0 + (1 : Int64)) v13_1 v28_2 v43_3 h15 n0 Z15 g_b15 A15 Fa22 Fa23 Fa24 Fa25 Fa26) hZ (ww hw 5 rfl) (ww hw 2 rfl) (by decide) (by decide)) (g := (mkF m 98 #[.val (.long q0), .second, .val (.long q1), .second, .val (.long q2), .second, .val (.long q3), .second, .val (.long q4), .second, .val (.int p5), .val (.long v13_1), .second, .val (.long v28_2), .second, .val (.long v43_3), .second, .val (.int (B (((v13_1 ||| v28_2) ||| v43_3) = (0 : Int64)))), .val (.ref b1), .unset] [(.long v43_3), (.long v28_2), (.long v13_1), (.long (q0 + (1 : Int64))), (.long (q1 ^^^ q0)), (.ref b15), (.ref b15)])) rfl (by rw [hml]; rfl) (Steps.refl _) (a := b15) (argsL := [(.long (q1 ^^^ q0)), (.long (q0 + (1 : Int64))), (.long v13_1), (.long v28_2), (.long v43_3)]) (rest := [(.ref b15)]) (lenOf pd__40_JJJJJ_41_V rfl) rfl (by show 2 * 0 + _ ≤ _; exact Nat.le_of_eq rfl) (hb hby at_98) (fun _ _ => ⟨rfl, e15, (by decide : 2 + 0 ≤ _), (by decide : 10 + 0 ≤ _)⟩)
          dsimp only [Pt.U, Pt.locs, Pt.cells, Pt.slots] at X27 l27 y27 z27 st27 hQ27
          subst l27 y27 z27
          obtain ⟨rfl, N27q, Kq27, Fa28, Fa29, Fa30, Fa31, Fa32, Fa33⟩ := hQ27
          have N27 := Fr.app N7 N27q
          have K27 : Keep h0 T27.heap [] := K15.trans Kq27 (allS (P := fun x => x ∈ [] ∨ h0.size ≤ x) (Or.inr sz_b15) all0)
          have Z27 : n0 ≤ T27.heap.size := Nat.le_trans Z15 Kq27.1
          have Fa34 : Exa Z T27.heap b1 "com/example/traceweave/traceweave/replay/TokenCounts" := Fa16.keep Kq27
          have Fa35 : Fld Z T27.heap b1 "com/example/traceweave/traceweave/replay/TokenCounts" "produced" "J" (.long q0) := Fa17.keep Kq27 (ninS ne_b1_b15 nin0)
          have Fa36 : Fld Z T27.heap b1 "com/example/traceweave/traceweave/replay/TokenCounts" "consumed" "J" (.long q1) := Fa18.keep Kq27 (ninS ne_b1_b15 nin0)
          have Fa37 : Fld Z T27.heap b1 "com/example/traceweave/traceweave/replay/TokenCounts" "missing" "J" (.long v13_1) := Fa19.keep Kq27 (ninS ne_b1_b15 nin0)
          have Fa38 : Fld Z T27.heap b1 "com/example/traceweave/traceweave/replay/TokenCounts" "remaining" "J" (.long v28_2) := Fa20.keep Kq27 (ninS ne_b1_b15 nin0)
          have Fa39 : Fld Z T27.heap b1 "com/example/traceweave/traceweave/replay/TokenCounts" "skipped" "J" (.long v43_3) := Fa21.keep Kq27 (ninS ne_b1_b15 nin0)
          have Fa40 : Exa Z T27.heap b15 "com/example/traceweave/traceweave/replay/TokenCounts" := A15.keep Kq27
          refine goT (u' := T27.setTop (mkF m 101 #[.val (.long q0), .second, .val (.long q1), .second, .val (.long q2), .second, .val (.long q3), .second, .val (.long q4), .second, .val (.int p5), .val (.long v13_1), .second, .val (.long v28_2), .second, .val (.long v43_3), .second, .val (.int (B (((v13_1 ||| v28_2) ||| v43_3) = (0 : Int64)))), .val (.ref b1), .unset] [(.ref b15)])) st27 ?_
          refine go (u' := T27.setTop (mkF m 103 #[.val (.long q0), .second, .val (.long q1), .second, .val (.long q2), .second, .val (.long q3), .second, .val (.long q4), .second, .val (.int p5), .val (.long v13_1), .second, .val (.long v28_2), .second, .val (.long v43_3), .second, .val (.int (B (((v13_1 ||| v28_2) ||| v43_3) = (0 : Int64)))), .val (.ref b1), .val (.ref b15)] [])) (fun _ ks_ => XS.astore X27.here hx rfl (hb hby at_101) rfl rfl (l' := #[.val (.long q0), .second, .val (.long q1), .second, .val (.long q2), .second, .val (.long q3), .second, .val (.long q4), .second, .val (.int p5), .val (.long v13_1), .second, .val (.long v28_2), .second, .val (.long v43_3), .second, .val (.int (B (((v13_1 ||| v28_2) ||| v43_3) = (0 : Int64)))), .val (.ref b1), .val (.ref b15)]) rfl ks_) ?_
          refine go (u' := T27.setTop (mkF m 105 #[.val (.long q0), .second, .val (.long q1), .second, .val (.long q2), .second, .val (.long q3), .second, .val (.long q4), .second, .val (.int p5), .val (.long v13_1), .second, .val (.long v28_2), .second, .val (.long v43_3), .second, .val (.int (B (((v13_1 ||| v28_2) ||| v43_3) = (0 : Int64)))), .val (.ref b1), .val (.ref b15)] [(.ref b1)])) (fun _ ks_ => XS.aload X27.here hx rfl (hb hby at_103) rfl rfl ks_) ?_
          obtain ⟨cq41, kq41, q41a, q41b, q41c⟩ := isOf hZ (rfl : T27.heap = _) Fa34
          obtain ⟨_, _, ⟨T41, L41, k41, n41⟩, -, X41, ⟨Lc41, hQ41, l41, y41, z41⟩, st41⟩ := X27.virtualBack hx (y := (⟨"com/example/traceweave/traceweave/replay/TokenCounts", "fits", "()Z"⟩ : MethodName)) (z := (⟨"com/example/traceweave/traceweave/replay/TokenCounts", "fits", "()Z"⟩ : MethodName)) hown (mvT hZ (ww hw 24 rfl)) (mvT hZ (ww hw 25 rfl)) (notFace_of_selects (args := #[]) (mvT hZ (ww hw 27 rfl))) (mvT hZ (ww hw 27 rfl)) (mvT hZ (ww hw 26 rfl)) (by decide) (backOf (W := 0) (rm4 l Z a0 hw [] b1 v13_1 v28_2 v43_3 T27.heap n0 Z27 Fa37 Fa38 Fa39) hZ (ww hw 28 rfl) (ww hw 2 rfl) (by decide) (by decide)) q41a q41c (g := (mkF m 105 #[.val (.long q0), .second, .val (.long q1), .second, .val (.long q2), .second, .val (.long q3), .second, .val (.long q4), .second, .val (.int p5), .val (.long v13_1), .second, .val (.long v28_2), .second, .val (.long v43_3), .second, .val (.int (B (((v13_1 ||| v28_2) ||| v43_3) = (0 : Int64)))), .val (.ref b1), .val (.ref b15)] [(.ref b1)])) rfl (by rw [hml]; rfl) (Steps.refl _) (argsL := []) (rest := []) (lenOf pd__40__41_Z rfl) rfl (by show 2 * 0 + _ ≤ _; exact Nat.le_of_eq rfl) (hb hby at_105) (fun _ _ => ⟨rfl, (rfl : T27.heap = _), (by decide : 2 + 0 ≤ _), (by decide : 10 + 0 ≤ _)⟩)
          dsimp only [Pt.U, Pt.locs, Pt.cells, Pt.slots] at X41 l41 y41 z41 st41 hQ41
          subst l41 y41 z41
          obtain ⟨rfl, N41q, eq41⟩ := hQ41
          have N41 := Fr.app N27 N41q
          refine goT (u' := T41.setTop (mkF m 108 #[.val (.long q0), .second, .val (.long q1), .second, .val (.long q2), .second, .val (.long q3), .second, .val (.long q4), .second, .val (.int p5), .val (.long v13_1), .second, .val (.long v28_2), .second, .val (.long v43_3), .second, .val (.int (B (((v13_1 ||| v28_2) ||| v43_3) = (0 : Int64)))), .val (.ref b1), .val (.ref b15)] [(.int (B ((v13_1 = (0 : Int64)) ∧ ((v28_2 = (0 : Int64)) ∧ (v43_3 = (0 : Int64))))))])) st41 ?_
          refine go (u' := T41.setTop (mkF m 110 #[.val (.long q0), .second, .val (.long q1), .second, .val (.long q2), .second, .val (.long q3), .second, .val (.long q4), .second, .val (.int p5), .val (.long v13_1), .second, .val (.long v28_2), .second, .val (.long v43_3), .second, .val (.int (B (((v13_1 ||| v28_2) ||| v43_3) = (0 : Int64)))), .val (.ref b1), .val (.ref b15)] [(.int (B (((v13_1 ||| v28_2) ||| v43_3) = (0 : Int64)))), (.int (B ((v13_1 = (0 : Int64)) ∧ ((v28_2 = (0 : Int64)) ∧ (v43_3 = (0 : Int64))))))])) (fun _ ks_ => XS.iload X41.here hx rfl (hb hby at_108) rfl  ks_) ?_
          refine go (u' := T41.setTop (mkF m 113 #[.val (.long q0), .second, .val (.long q1), .second, .val (.long q2), .second, .val (.long q3), .second, .val (.long q4), .second, .val (.int p5), .val (.long v13_1), .second, .val (.long v28_2), .second, .val (.long v43_3), .second, .val (.int (B (((v13_1 ||| v28_2) ||| v43_3) = (0 : Int64)))), .val (.ref b1), .val (.ref b15)] [])) (fun _ ks_ => XS.icmpNo X41.here hx rfl (hb hby at_110) rfl (teq (show (B ((v13_1 = (0 : Int64)) ∧ ((v28_2 = (0 : Int64)) ∧ (v43_3 = (0 : Int64))))) = (B (((v13_1 ||| v28_2) ||| v43_3) = (0 : Int64))) from (B_iff (own_or _ _ _)))).2 ks_) ?_
          refine go (u' := T41.setTop (mkF m 115 #[.val (.long q0), .second, .val (.long q1), .second, .val (.long q2), .second, .val (.long q3), .second, .val (.long q4), .second, .val (.int p5), .val (.long v13_1), .second, .val (.long v28_2), .second, .val (.long v43_3), .second, .val (.int (B (((v13_1 ||| v28_2) ||| v43_3) = (0 : Int64)))), .val (.ref b1), .val (.ref b15)] [(.ref b15)])) (fun _ ks_ => XS.aload X41.here hx rfl (hb hby at_113) rfl rfl ks_) ?_
          obtain ⟨cq42, kq42, q42a, q42b, q42c⟩ := isOf hZ eq41 Fa28
          obtain ⟨_, _, ⟨T42, L42, k42, n42⟩, -, X42, ⟨Lc42, hQ42, l42, y42, z42⟩, st42⟩ := X41.virtualBack hx (y := (⟨"com/example/traceweave/traceweave/replay/TokenCounts", "fits", "()Z"⟩ : MethodName)) (z := (⟨"com/example/traceweave/traceweave/replay/TokenCounts", "fits", "()Z"⟩ : MethodName)) hown (mvT hZ (ww hw 24 rfl)) (mvT hZ (ww hw 25 rfl)) (notFace_of_selects (args := #[]) (mvT hZ (ww hw 27 rfl))) (mvT hZ (ww hw 27 rfl)) (mvT hZ (ww hw 26 rfl)) (by decide) (backOf (W := 0) (rm4 l Z a0 hw [] b15 v13_1 v28_2 v43_3 T27.heap n0 Z27 Fa31 Fa32 Fa33) hZ (ww hw 28 rfl) (ww hw 2 rfl) (by decide) (by decide)) q42a q42c (g := (mkF m 115 #[.val (.long q0), .second, .val (.long q1), .second, .val (.long q2), .second, .val (.long q3), .second, .val (.long q4), .second, .val (.int p5), .val (.long v13_1), .second, .val (.long v28_2), .second, .val (.long v43_3), .second, .val (.int (B (((v13_1 ||| v28_2) ||| v43_3) = (0 : Int64)))), .val (.ref b1), .val (.ref b15)] [(.ref b15)])) rfl (by rw [hml]; rfl) (Steps.refl _) (argsL := []) (rest := []) (lenOf pd__40__41_Z rfl) rfl (by show 2 * 0 + _ ≤ _; exact Nat.le_of_eq rfl) (hb hby at_115) (fun _ _ => ⟨rfl, eq41, (by decide : 2 + 0 ≤ _), (by decide : 10 + 0 ≤ _)⟩)
          dsimp only [Pt.U, Pt.locs, Pt.cells, Pt.slots] at X42 l42 y42 z42 st42 hQ42
          subst l42 y42 z42
          obtain ⟨rfl, N42q, eq42⟩ := hQ42
          have N42 := Fr.app N41 N42q
          refine goT (u' := T42.setTop (mkF m 118 #[.val (.long q0), .second, .val (.long q1), .second, .val (.long q2), .second, .val (.long q3), .second, .val (.long q4), .second, .val (.int p5), .val (.long v13_1), .second, .val (.long v28_2), .second, .val (.long v43_3), .second, .val (.int (B (((v13_1 ||| v28_2) ||| v43_3) = (0 : Int64)))), .val (.ref b1), .val (.ref b15)] [(.int (B ((v13_1 = (0 : Int64)) ∧ ((v28_2 = (0 : Int64)) ∧ (v43_3 = (0 : Int64))))))])) st42 ?_
          refine go (u' := T42.setTop (mkF m 120 #[.val (.long q0), .second, .val (.long q1), .second, .val (.long q2), .second, .val (.long q3), .second, .val (.long q4), .second, .val (.int p5), .val (.long v13_1), .second, .val (.long v28_2), .second, .val (.long v43_3), .second, .val (.int (B (((v13_1 ||| v28_2) ||| v43_3) = (0 : Int64)))), .val (.ref b1), .val (.ref b15)] [(.int (B (((v13_1 ||| v28_2) ||| v43_3) = (0 : Int64)))), (.int (B ((v13_1 = (0 : Int64)) ∧ ((v28_2 = (0 : Int64)) ∧ (v43_3 = (0 : Int64))))))])) (fun _ ks_ => XS.iload X42.here hx rfl (hb hby at_118) rfl  ks_) ?_
          refine go (u' := T42.setTop (mkF m 123 #[.val (.long q0), .second, .val (.long q1), .second, .val (.long q2), .second, .val (.long q3), .second, .val (.long q4), .second, .val (.int p5), .val (.long v13_1), .second, .val (.long v28_2), .second, .val (.long v43_3), .second, .val (.int (B (((v13_1 ||| v28_2) ||| v43_3) = (0 : Int64)))), .val (.ref b1), .val (.ref b15)] [])) (fun _ ks_ => XS.icmpNo X42.here hx rfl (hb hby at_120) rfl (teq (show (B ((v13_1 = (0 : Int64)) ∧ ((v28_2 = (0 : Int64)) ∧ (v43_3 = (0 : Int64))))) = (B (((v13_1 ||| v28_2) ||| v43_3) = (0 : Int64))) from (B_iff (own_or _ _ _)))).2 ks_) ?_
          refine go (u' := T42.setTop (mkF m 124 #[.val (.long q0), .second, .val (.long q1), .second, .val (.long q2), .second, .val (.long q3), .second, .val (.long q4), .second, .val (.int p5), .val (.long v13_1), .second, .val (.long v28_2), .second, .val (.long v43_3), .second, .val (.int (B (((v13_1 ||| v28_2) ||| v43_3) = (0 : Int64)))), .val (.ref b1), .val (.ref b15)] [(.int (1 : Int32))])) (fun _ ks_ => XS.iconst X42.here hx rfl (hb hby at_123) ks_) ?_
          refine go (u' := T42.setTop (mkF m 128 #[.val (.long q0), .second, .val (.long q1), .second, .val (.long q2), .second, .val (.long q3), .second, .val (.long q4), .second, .val (.int p5), .val (.long v13_1), .second, .val (.long v28_2), .second, .val (.long v43_3), .second, .val (.int (B (((v13_1 ||| v28_2) ||| v43_3) = (0 : Int64)))), .val (.ref b1), .val (.ref b15)] [(.int (1 : Int32))])) (fun _ ks_ => XS.goto X42.here hx rfl (pc0 := 124) (pc' := 128) rfl (hb hby at_124) (by decide) (by decide) ks_) ?_
          rw [hG]
          refine gN X42 hx hlk (t := .boolean) hret (by simp) rfl (hb hby at_128) ?_ (Nat.le_of_ble_eq_true rfl) (Nat.le_of_ble_eq_true rfl)
          show Q_rm0 Z q0 q1 q2 q3 q4 p5 h0 n0 (some (.int (1 : Int32))) T42.heap _
          rw [eq42]
          exact ⟨rfl, N42⟩
        by_cases c55_1 : ((v13_1 ||| v28_2) ||| v43_3) = (0 : Int64)
        ·
          refine go (u' := s₁.setTop (mkF m 58 #[.val (.long q0), .second, .val (.long q1), .second, .val (.long q2), .second, .val (.long q3), .second, .val (.long q4), .second, .val (.int p5), .val (.long v13_1), .second, .val (.long v28_2), .second, .val (.long v43_3), .second, .unset, .unset, .unset] [])) (fun _ ks_ => XS.ifNo X0.here hx rfl (hb hby at_55) rfl (lTe c55_1).2 ks_) ?_
          refine go (u' := s₁.setTop (mkF m 59 #[.val (.long q0), .second, .val (.long q1), .second, .val (.long q2), .second, .val (.long q3), .second, .val (.long q4), .second, .val (.int p5), .val (.long v13_1), .second, .val (.long v28_2), .second, .val (.long v43_3), .second, .unset, .unset, .unset] [(.int (1 : Int32))])) (fun _ ks_ => XS.iconst X0.here hx rfl (hb hby at_58) ks_) ?_
          refine go (u' := s₁.setTop (mkF m 63 #[.val (.long q0), .second, .val (.long q1), .second, .val (.long q2), .second, .val (.long q3), .second, .val (.long q4), .second, .val (.int p5), .val (.long v13_1), .second, .val (.long v28_2), .second, .val (.long v43_3), .second, .unset, .unset, .unset] [(.int (1 : Int32))])) (fun _ ks_ => XS.goto X0.here hx rfl (pc0 := 59) (pc' := 63) rfl (hb hby at_59) (by decide) (by decide) ks_) ?_
          exact J63_4 _ (B1 c55_1)
        ·
          refine go (u' := s₁.setTop (mkF m 62 #[.val (.long q0), .second, .val (.long q1), .second, .val (.long q2), .second, .val (.long q3), .second, .val (.long q4), .second, .val (.int p5), .val (.long v13_1), .second, .val (.long v28_2), .second, .val (.long v43_3), .second, .unset, .unset, .unset] [])) (fun _ ks_ => XS.ifYes X0.here hx rfl (pc0 := 55) (pc' := 62) rfl (hb hby at_55) rfl (lFe c55_1).2 (by decide) (by decide) ks_) ?_
          refine go (u' := s₁.setTop (mkF m 63 #[.val (.long q0), .second, .val (.long q1), .second, .val (.long q2), .second, .val (.long q3), .second, .val (.long q4), .second, .val (.int p5), .val (.long v13_1), .second, .val (.long v28_2), .second, .val (.long v43_3), .second, .unset, .unset, .unset] [(.int (0 : Int32))])) (fun _ ks_ => XS.iconst X0.here hx rfl (hb hby at_62) ks_) ?_
          exact J63_4 _ (B0 c55_1)
      by_cases c34_2 : (p5 &&& (4 : Int32)) = (0 : Int32)
      ·
        refine go (u' := s₁.setTop (mkF m 41 #[.val (.long q0), .second, .val (.long q1), .second, .val (.long q2), .second, .val (.long q3), .second, .val (.long q4), .second, .val (.int p5), .val (.long v13_1), .second, .val (.long v28_2), .second, .unset, .unset, .unset, .unset, .unset] [])) (fun _ ks_ => XS.ifYes X0.here hx rfl (pc0 := 34) (pc' := 41) rfl (hb hby at_34) rfl ((if0 _ _).trans (teq c34_2).1) (by decide) (by decide) ks_) ?_
        refine go (u' := s₁.setTop (mkF m 43 #[.val (.long q0), .second, .val (.long q1), .second, .val (.long q2), .second, .val (.long q3), .second, .val (.long q4), .second, .val (.int p5), .val (.long v13_1), .second, .val (.long v28_2), .second, .unset, .unset, .unset, .unset, .unset] [(.long q4)])) (fun _ ks_ => XS.lload X0.here hx rfl (hb hby at_41) rfl  ks_) ?_
        exact J43_3 _ ((if_pos c34_2)).symm
      ·
        refine go (u' := s₁.setTop (mkF m 37 #[.val (.long q0), .second, .val (.long q1), .second, .val (.long q2), .second, .val (.long q3), .second, .val (.long q4), .second, .val (.int p5), .val (.long v13_1), .second, .val (.long v28_2), .second, .unset, .unset, .unset, .unset, .unset] [])) (fun _ ks_ => XS.ifNo X0.here hx rfl (hb hby at_34) rfl ((if0 _ _).trans (feq c34_2).1) ks_) ?_
        refine go (u' := s₁.setTop (mkF m 38 #[.val (.long q0), .second, .val (.long q1), .second, .val (.long q2), .second, .val (.long q3), .second, .val (.long q4), .second, .val (.int p5), .val (.long v13_1), .second, .val (.long v28_2), .second, .unset, .unset, .unset, .unset, .unset] [(.long (0 : Int64))])) (fun _ ks_ => XS.lconst X0.here hx rfl (hb hby at_37) ks_) ?_
        refine go (u' := s₁.setTop (mkF m 43 #[.val (.long q0), .second, .val (.long q1), .second, .val (.long q2), .second, .val (.long q3), .second, .val (.long q4), .second, .val (.int p5), .val (.long v13_1), .second, .val (.long v28_2), .second, .unset, .unset, .unset, .unset, .unset] [(.long (0 : Int64))])) (fun _ ks_ => XS.goto X0.here hx rfl (pc0 := 38) (pc' := 43) rfl (hb hby at_38) (by decide) (by decide) ks_) ?_
        exact J43_3 _ ((if_neg c34_2)).symm
    by_cases c19_3 : (p5 &&& (2 : Int32)) = (0 : Int32)
    ·
      refine go (u' := s₁.setTop (mkF m 26 #[.val (.long q0), .second, .val (.long q1), .second, .val (.long q2), .second, .val (.long q3), .second, .val (.long q4), .second, .val (.int p5), .val (.long v13_1), .second, .unset, .unset, .unset, .unset, .unset, .unset, .unset] [])) (fun _ ks_ => XS.ifYes X0.here hx rfl (pc0 := 19) (pc' := 26) rfl (hb hby at_19) rfl ((if0 _ _).trans (teq c19_3).1) (by decide) (by decide) ks_) ?_
      refine go (u' := s₁.setTop (mkF m 28 #[.val (.long q0), .second, .val (.long q1), .second, .val (.long q2), .second, .val (.long q3), .second, .val (.long q4), .second, .val (.int p5), .val (.long v13_1), .second, .unset, .unset, .unset, .unset, .unset, .unset, .unset] [(.long q3)])) (fun _ ks_ => XS.lload X0.here hx rfl (hb hby at_26) rfl  ks_) ?_
      exact J28_2 _ ((if_pos c19_3)).symm
    ·
      refine go (u' := s₁.setTop (mkF m 22 #[.val (.long q0), .second, .val (.long q1), .second, .val (.long q2), .second, .val (.long q3), .second, .val (.long q4), .second, .val (.int p5), .val (.long v13_1), .second, .unset, .unset, .unset, .unset, .unset, .unset, .unset] [])) (fun _ ks_ => XS.ifNo X0.here hx rfl (hb hby at_19) rfl ((if0 _ _).trans (feq c19_3).1) ks_) ?_
      refine go (u' := s₁.setTop (mkF m 23 #[.val (.long q0), .second, .val (.long q1), .second, .val (.long q2), .second, .val (.long q3), .second, .val (.long q4), .second, .val (.int p5), .val (.long v13_1), .second, .unset, .unset, .unset, .unset, .unset, .unset, .unset] [(.long (0 : Int64))])) (fun _ ks_ => XS.lconst X0.here hx rfl (hb hby at_22) ks_) ?_
      refine go (u' := s₁.setTop (mkF m 28 #[.val (.long q0), .second, .val (.long q1), .second, .val (.long q2), .second, .val (.long q3), .second, .val (.long q4), .second, .val (.int p5), .val (.long v13_1), .second, .unset, .unset, .unset, .unset, .unset, .unset, .unset] [(.long (0 : Int64))])) (fun _ ks_ => XS.goto X0.here hx rfl (pc0 := 23) (pc' := 28) rfl (hb hby at_23) (by decide) (by decide) ks_) ?_
      exact J28_2 _ ((if_neg c19_3)).symm
  by_cases c4_4 : (p5 &&& (1 : Int32)) = (0 : Int32)
  ·
    refine go (u' := s₁.setTop (mkF m 11 #[.val (.long q0), .second, .val (.long q1), .second, .val (.long q2), .second, .val (.long q3), .second, .val (.long q4), .second, .val (.int p5), .unset, .unset, .unset, .unset, .unset, .unset, .unset, .unset, .unset] [])) (fun _ ks_ => XS.ifYes X0.here hx rfl (pc0 := 4) (pc' := 11) rfl (hb hby at_4) rfl ((if0 _ _).trans (teq c4_4).1) (by decide) (by decide) ks_) ?_
    refine go (u' := s₁.setTop (mkF m 13 #[.val (.long q0), .second, .val (.long q1), .second, .val (.long q2), .second, .val (.long q3), .second, .val (.long q4), .second, .val (.int p5), .unset, .unset, .unset, .unset, .unset, .unset, .unset, .unset, .unset] [(.long q2)])) (fun _ ks_ => XS.lload X0.here hx rfl (hb hby at_11) rfl  ks_) ?_
    exact J13_1 _ ((if_pos c4_4)).symm
  ·
    refine go (u' := s₁.setTop (mkF m 7 #[.val (.long q0), .second, .val (.long q1), .second, .val (.long q2), .second, .val (.long q3), .second, .val (.long q4), .second, .val (.int p5), .unset, .unset, .unset, .unset, .unset, .unset, .unset, .unset, .unset] [])) (fun _ ks_ => XS.ifNo X0.here hx rfl (hb hby at_4) rfl ((if0 _ _).trans (feq c4_4).1) ks_) ?_
    refine go (u' := s₁.setTop (mkF m 8 #[.val (.long q0), .second, .val (.long q1), .second, .val (.long q2), .second, .val (.long q3), .second, .val (.long q4), .second, .val (.int p5), .unset, .unset, .unset, .unset, .unset, .unset, .unset, .unset, .unset] [(.long (0 : Int64))])) (fun _ ks_ => XS.lconst X0.here hx rfl (hb hby at_7) ks_) ?_
    refine go (u' := s₁.setTop (mkF m 13 #[.val (.long q0), .second, .val (.long q1), .second, .val (.long q2), .second, .val (.long q3), .second, .val (.long q4), .second, .val (.int p5), .unset, .unset, .unset, .unset, .unset, .unset, .unset, .unset, .unset] [(.long (0 : Int64))])) (fun _ ks_ => XS.goto X0.here hx rfl (pc0 := 8) (pc' := 13) rfl (hb hby at_8) (by decide) (by decide) ks_) ?_
    exact J13_1 _ ((if_neg c4_4)).symm
set_option maxRecDepth 65536 in
set_option maxHeartbeats 40000000 in
theorem comes_1 {Post : Tables → Env → Array Value → State → Outcome → State → Prop} (hpost : ∀ tb e args s v u, (limb_1_1.after args s (.returned v) u = true ∧ limb_1_2.after args s (.returned v) u = true ∧ True) → FrameEnd s (.returned v) u (Jvm.fieldLocs frame_1_writes args s ++ Jvm.arrayLocs frame_1_arrays args s ++ Jvm.staticLocs frame_1_statics s) 16 128 → Post tb e args s (.returned v) u) :
    ArmFor flags0 classFile x code maxLocals ret World_1 tables_1 room_1 Calls_1 rest_1 Pre_1 Post := by
  intro l hfl _ _ p e ha hc hk s m args below hf hA hF happ hP
  obtain ⟨hcalls, hrest, hpre⟩ := hP
  obtain ⟨-, -, -, hnamed, -, -, -, hat⟩ := (Spec.applies_iff hf).mp happ
  obtain ⟨hg, hn⟩ := and_e (Cond.before_iff.mp (show (Jvm.Cond.and given_1 narrow_1).before args s = true from hpre))
  obtain ⟨hcount, r0⟩ := and_e hg
  obtain ⟨a0, r1⟩ := and_e r0
  obtain ⟨a1, r2⟩ := and_e r1
  obtain ⟨a2, r3⟩ := and_e r2
  obtain ⟨a3, r4⟩ := and_e r3
  obtain ⟨a4, r5⟩ := and_e r4
  obtain ⟨w0, w1, w2, w3, w4, w5, rfl⟩ : ∃ w0 w1 w2 w3 w4 w5 : Value, args = #[w0, w1, w2, w3, w4, w5] := by
    have hs : args.size = 6 := by simpa [Cond.value, given_1] using hcount
    obtain ⟨L⟩ := args
    match L, hs with
    | [w0, w1, w2, w3, w4, w5], _ => exact ⟨w0, w1, w2, w3, w4, w5, rfl⟩
  have hw := fun d (hd : d ∈ tables_1) => atoms_spec (ws := Jvm.Cond.code x code maxLocals ret :: tables_1) hat d (List.mem_cons_of_mem _ hd)
  have hfit : Fit s := fun {y c} hc i hi => by
    obtain ⟨ha, rfl⟩ := Array.getElem?_eq_some_iff.mp hc
    have q := List.all_eq_true.mp ((Array.all_eq_true_iff_forall_mem.mp hF) _ (Array.getElem_mem ha)) i (List.mem_range.mpr hi)
    simpa [Array.getElem?_eq_getElem hi] using q
  obtain ⟨x0, e0⟩ := isL_v a0
  obtain rfl : w0 = (.long x0) := Option.some.inj e0
  obtain ⟨x1, e1⟩ := isL_v a1
  obtain rfl : w1 = (.long x1) := Option.some.inj e1
  obtain ⟨x2, e2⟩ := isL_v a2
  obtain rfl : w2 = (.long x2) := Option.some.inj e2
  obtain ⟨x3, e3⟩ := isL_v a3
  obtain rfl : w3 = (.long x3) := Option.some.inj e3
  obtain ⟨x4, e4⟩ := isL_v a4
  obtain rfl : w4 = (.long x4) := Option.some.inj e4
  obtain ⟨x5, e5⟩ := is_v r5
  obtain rfl : w5 = (.int x5) := Option.some.inj e5
  obtain ⟨n, o, h1, h2, h3, _, L, rfl, ⟨rfl, N⟩, hq⟩ := rm0 l s _ hw tables_1 x0 x1 x2 x3 x4 x5 s.heap s.heap.size (Nat.le_refl _)  p e ha hc hk s m _ below hf ((Spec.applies_iff_loose hf).mp happ).1 ⟨rfl, State.Warmed39.refl s, rfl⟩ trivial
  refine ⟨n, _, h1, h2, h3, hpost _ _ _ _ _ _ ⟨Cond.after_iff.mpr rfl, Cond.after_iff.mpr (eq_i res_at (Term.int_eval (1)) rfl), trivial⟩ ⟨hq.1, hq.2.1, (hq.2.2.sift fun y hy => Or.inr (N y hy)).mono (by decide) (by decide)⟩⟩
theorem main_1_1 : Claimed_1_1 := comes_1 fun _ _ _ _ _ _ h hF => ⟨h.1, hF⟩
theorem main_1_2 : Claimed_1_2 := comes_1 fun _ _ _ _ _ _ h hF => ⟨h.2.1, hF⟩
end Jvm.Pilot.@@N@@
namespace Jvm.Pilot.@@N@@
open Jvm Jvm.ClassFile Sem Op Lib Jvm.Free Jvm.Stand Jvm.Pilot.@@N@@.Jvm.D
/-! MADE BY PROGRAM (witnessworld.py) out of the Statement's table words and the real class files: 10 classes; the members and pool entries that the words name. The judged class is class 1, her method 1. -/
namespace start1
open Jvm.ClassFile
def u (s : String) : CpInfo := .utf8 (stringToUtf16 s)
/-- a pool by its gaps: so many unusable entries, then the entry; so many at the end -/
def gap : Nat → List CpInfo → List CpInfo
  | 0, r => r
  | n + 1, r => .unusable :: gap n r
def poolList (es : List (Nat × CpInfo)) (last : Nat) : List CpInfo := es.foldr (fun e r => gap e.1 (e.2 :: r)) (gap last [])
def pool (es : List (Nat × CpInfo)) (last : Nat) : Array CpInfo := ⟨poolList es last⟩
def fileOf (pool : Array CpInfo) (this : Nat) (attrs : Array Attribute := #[]) (ms : Array MethodInfo := #[]) (fl : Nat := 33) (sup : Nat := 0) (ifs : Array Nat := #[]) (fds : Array FieldInfo := #[]) : ClassFile where
  minorVersion := 0
  majorVersion := 65
  constantPool := pool
  accessFlags := fl
  thisClass := this
  superClass := sup
  interfaces := ifs
  fields := fds
  methods := ms
  attributes := attrs
def plain (name : String) (sup : Option ClassId) : Class where
  name := name
  kind := .ordinary
  loader := none
  accessFlags := 33
  super := sup
  interfaces := #[]
  cf := none
  fields := #[]
  methods := #[]
  instanceTypes := #[]
  staticTypes := #[]
  resolved := #[]
  callSites := []
  init := .initialized
  statics := none
  mirror := none

def pool0 : Array CpInfo := pool [(5, u "<init>"), (0, u "()V"), (1, .class_ 10), (1, u "java/lang/Object")] 113

def k0c0 : Code := { maxStack := 0, maxLocals := 1, code := object_method_1_code, exceptionTable := #[], attributes := #[] }
def k0m0 : Method := { name := "<init>", desc := "()V", sig := { parameters := [], returnType := none }, accessFlags := 1, code := some k0c0 }
/-- java/lang/Object -/
def k0 : Class := { plain "java/lang/Object" none with
  accessFlags := 33
  interfaces := #[]
  cf := some (fileOf pool0 8 #[] #[{ accessFlags := 1, nameIndex := 5, descriptorIndex := 6, attributes := #[] }] 33 0 #[] #[])
  fields := #[]
  methods := #[k0m0]
  instanceTypes := #[]
  staticTypes := #[]
  resolved := Array.replicate 124 none
  statics := none }

def pool1 : Array CpInfo := pool [(2, .class_ 4), (1, u "java/lang/Object"), (0, u "<init>"), (0, u "()V"), (0, .class_ 8), (0, u "com/example/traceweave/traceweave/replay/TokenCounts"), (0, .methodref 7 10), (0, .nameAndType 5 11), (0, u "(JJJJJ)V"), (0, .methodref 7 13), (0, .nameAndType 14 15), (0, u "fits"), (0, u "()Z"), (0, .class_ 17), (0, u "com/example/traceweave/traceweave/replay/TokenCountsFitsPinLaw"), (2, u "law"), (0, u "(JJJJJI)Z")] 3

def k1m0 : Method := { name := "<init>", desc := "()V", sig := { parameters := [], returnType := none }, accessFlags := 1, code := none }
def k1c1 : Code := { maxStack := 12, maxLocals := 20, code := code, exceptionTable := #[], attributes := #[] }
def k1m1 : Method := { name := "law", desc := "(JJJJJI)Z", sig := { parameters := [.long, .long, .long, .long, .long, .int], returnType := some .boolean }, accessFlags := 9, code := some k1c1 }
/-- com/example/traceweave/traceweave/replay/TokenCountsFitsPinLaw -/
def k1 : Class := { plain "com/example/traceweave/traceweave/replay/TokenCountsFitsPinLaw" (some 0) with
  accessFlags := 49
  interfaces := #[]
  cf := some (fileOf pool1 16 #[] #[{ accessFlags := 1, nameIndex := 5, descriptorIndex := 6, attributes := #[] }, { accessFlags := 9, nameIndex := 20, descriptorIndex := 21, attributes := #[] }] 49 2 #[] #[])
  fields := #[]
  methods := #[k1m0, k1m1]
  instanceTypes := #[]
  staticTypes := #[]
  resolved := Array.replicate 25 none
  statics := none }

def pool2 : Array CpInfo := pool [(1, .methodref 2 3), (0, .class_ 4), (0, .nameAndType 5 6), (0, u "java/lang/Object"), (0, u "<init>"), (0, u "()V"), (0, .class_ 8), (0, u "java/lang/Record")] 13

def k2c0 : Code := { maxStack := 1, maxLocals := 1, code := jdk_30_method_1_code, exceptionTable := #[], attributes := #[] }
def k2m0 : Method := { name := "<init>", desc := "()V", sig := { parameters := [], returnType := none }, accessFlags := 4, code := some k2c0 }
/-- java/lang/Record -/
def k2 : Class := { plain "java/lang/Record" (some 0) with
  accessFlags := 1057
  interfaces := #[]
  cf := some (fileOf pool2 7 #[] #[{ accessFlags := 4, nameIndex := 5, descriptorIndex := 6, attributes := #[] }] 1057 2 #[] #[])
  fields := #[]
  methods := #[k2m0]
  instanceTypes := #[]
  staticTypes := #[]
  resolved := Array.replicate 22 none
  statics := none }

def pool3 : Array CpInfo := pool [(1, .methodref 2 3), (0, .class_ 4), (0, .nameAndType 5 6), (0, u "java/lang/Record"), (0, u "<init>"), (0, u "()V"), (0, .fieldref 8 9), (0, .class_ 10), (0, .nameAndType 11 12), (0, u "com/example/traceweave/traceweave/replay/TokenCounts"), (0, u "produced"), (0, u "J"), (0, .fieldref 8 14), (0, .nameAndType 15 12), (0, u "consumed"), (0, .fieldref 8 17), (0, .nameAndType 18 12), (0, u "missing"), (0, .fieldref 8 20), (0, .nameAndType 21 12), (0, u "remaining"), (0, .fieldref 8 23), (0, .nameAndType 24 12), (0, u "skipped"), (2, u "(JJJJJ)V"), (40, u "NONE"), (0, u "Lcom/example/traceweave/traceweave/replay/TokenCounts;"), (5, u "fits"), (0, u "()Z")] 32

def k3c0 : Code := { maxStack := 3, maxLocals := 11, code := prog_51_method_1_code, exceptionTable := #[], attributes := #[] }
def k3m0 : Method := { name := "<init>", desc := "(JJJJJ)V", sig := { parameters := [.long, .long, .long, .long, .long], returnType := none }, accessFlags := 1, code := some k3c0 }
def k3c1 : Code := { maxStack := 4, maxLocals := 1, code := prog_51_method_3_code, exceptionTable := #[], attributes := #[] }
def k3m1 : Method := { name := "fits", desc := "()Z", sig := { parameters := [], returnType := some .boolean }, accessFlags := 1, code := some k3c1 }
/-- com/example/traceweave/traceweave/replay/TokenCounts -/
def k3 : Class := { plain "com/example/traceweave/traceweave/replay/TokenCounts" (some 2) with
  accessFlags := 49
  interfaces := #[]
  cf := some (fileOf pool3 8 #[] #[{ accessFlags := 1, nameIndex := 5, descriptorIndex := 27, attributes := #[] }, { accessFlags := 1, nameIndex := 75, descriptorIndex := 76, attributes := #[] }] 49 2 #[] #[{ accessFlags := 18, nameIndex := 11, descriptorIndex := 12, attributes := #[] }, { accessFlags := 18, nameIndex := 15, descriptorIndex := 12, attributes := #[] }, { accessFlags := 18, nameIndex := 18, descriptorIndex := 12, attributes := #[] }, { accessFlags := 18, nameIndex := 21, descriptorIndex := 12, attributes := #[] }, { accessFlags := 18, nameIndex := 24, descriptorIndex := 12, attributes := #[] }, { accessFlags := 25, nameIndex := 68, descriptorIndex := 69, attributes := #[] }])
  fields := #[{ name := "produced", type := .long, accessFlags := 18, slot := 0, constantValue := 0 }, { name := "consumed", type := .long, accessFlags := 18, slot := 1, constantValue := 0 }, { name := "missing", type := .long, accessFlags := 18, slot := 2, constantValue := 0 }, { name := "remaining", type := .long, accessFlags := 18, slot := 3, constantValue := 0 }, { name := "skipped", type := .long, accessFlags := 18, slot := 4, constantValue := 0 }, { name := "NONE", type := (.object "com/example/traceweave/traceweave/replay/TokenCounts"), accessFlags := 25, slot := 0, constantValue := 0 }]
  methods := #[k3m0, k3m1]
  instanceTypes := #[.long, .long, .long, .long, .long]
  staticTypes := #[(.object "com/example/traceweave/traceweave/replay/TokenCounts")]
  resolved := Array.replicate 109 none
  statics := none }

def pool4 : Array CpInfo := pool [(1, u "java/lang/Cloneable"), (0, .class_ 1), (0, u "java/lang/Object"), (0, .class_ 3)] 3

/-- java/lang/Cloneable -/
def k4 : Class := { plain "java/lang/Cloneable" (some 0) with
  accessFlags := 1537
  interfaces := #[]
  cf := some (fileOf pool4 2 #[] #[] 1537 4 #[] #[])
  fields := #[]
  methods := #[]
  instanceTypes := #[]
  staticTypes := #[]
  resolved := Array.replicate 8 none
  statics := none }

def pool5 : Array CpInfo := pool [(1, u "java/io/Serializable"), (0, .class_ 1), (0, u "java/lang/Object"), (0, .class_ 3)] 3

/-- java/io/Serializable -/
def k5 : Class := { plain "java/io/Serializable" (some 0) with
  accessFlags := 1537
  interfaces := #[]
  cf := some (fileOf pool5 2 #[] #[] 1537 4 #[] #[])
  fields := #[]
  methods := #[]
  instanceTypes := #[]
  staticTypes := #[]
  resolved := Array.replicate 8 none
  statics := none }

/-- the primitive byte -/
def k6 : Class := { plain "byte" none with kind := .primitive 'B', accessFlags := 0x411 }
/-- [B -/
def k7 : Class := { plain "[B" (some 0) with kind := .array 6 .byte, interfaces := #[4, 5], accessFlags := 1041 }

/-- the primitive int -/
def k8 : Class := { plain "int" none with kind := .primitive 'I', accessFlags := 0x411 }
/-- [I -/
def k9 : Class := { plain "[I" (some 0) with kind := .array 8 .int, interfaces := #[4, 5], accessFlags := 1041 }

def heap : Heap := #[]
def classes : Array Class := #[k0, k1, k2, k3, k4, k5, k6, k7, k8, k9]
def interned : List (Array UInt16 × Addr) := []
def slotsUsed : Nat := 0
def theMethod : MethodId := ⟨1, 1⟩
def args0 : Array Value := #[.long 1, .long 5, .long 3, .long 0, .long 7, .int 3]
def aboutOver (below : List Frame) : State where
  vm := { classes := classes, interned := interned.toArray }
  heap := heap
  slotsUsed := slotsUsed
  threads := #[{ frames := .invoking theMethod args0 :: below }]
def below0 : List Frame := [.native { method := ⟨0, 0⟩, args := #[] }]
def about1 : State := aboutOver below0
def p0 : Program := .bare "" "" ""
def e0 : Env := launch0.env 0 0 0
theorem w_frames : about1.frames = Frame.invoking theMethod args0 :: below0 := rfl
set_option maxRecDepth 65536 in
theorem w_args : argsFit about1.vm theMethod args0 = true := by decide +kernel
set_option maxRecDepth 65536 in
theorem w_heap : heapFits about1 = true := by decide +kernel
set_option maxRecDepth 65536 in
theorem w_runnable : about1.curStatus? = some .runnable := by decide +kernel
set_option maxRecDepth 65536 in
theorem w_alone : about1.alone = true := by decide +kernel
set_option maxRecDepth 65536 in
theorem w_named : about1.methodNamed? x = some theMethod := by decide +kernel
set_option maxRecDepth 65536 in
theorem w_hears : about1.hears theMethod below0 = true := by decide +kernel
set_option maxRecDepth 65536 in
theorem w_ripe : about1.ripe theMethod args0 below0 = true := by decide +kernel
theorem w_running : about1.status = .running := rfl
set_option maxRecDepth 65536 in
theorem w_room : about1.hasRoom e0.platform room_1 = true :=
  launch0.hasRoom_least _ room_1 (by decide +kernel) (by decide +kernel) (by decide +kernel) (by decide +kernel) (by decide +kernel) (by decide +kernel)
theorem allAtoms_all (ts : List Jvm.Cond) (a : Array Jvm.Value) (st : Jvm.State) : (allAtoms ts).before a st = ts.all (fun c => c.before a st) := by
  induction ts with
  | nil => rfl
  | cons c t ih =>
    show (Jvm.Cond.and c (allAtoms t)).before a st = _
    rw [Jvm.Cond.before_and, ih, List.all_cons]
def words1 : List Jvm.Cond := Jvm.Cond.code x code maxLocals ret :: tables_1
/-- a 'code' word, met by the world's own term for the bytes: nothing is compared byte by byte -/
theorem code_word {y : MethodName} {bytes : ByteArray} {mx : Nat} {rt : Option FieldType} {a : Array Value} {s : State} {m : MethodId} {meth : Method} {c : Code} (h1 : s.methodNamed? y = some m) (h2 : s.vm.method? m = some meth) (h3 : meth.code = some c) (h4 : c.code = bytes)
    (h5 : (c.maxLocals == mx && c.exceptionTable.isEmpty && decide (c.maxStack ≤ mostOperands) && decide (meth.sig.returnType = rt) && !meth.locks && decide (parseMethodDescriptor y.desc = some meth.sig)) = true) : (Jvm.Cond.code y bytes mx rt).before a s = true := by
  simp only [Bool.and_eq_true, beq_iff_eq, Bool.not_eq_true', decide_eq_true_eq] at h5
  obtain ⟨⟨⟨⟨⟨g1, g2⟩, g3⟩, g4⟩, g5⟩, g6⟩ := h5
  simp [Cond.before, Cond.holds, Cond.value, h1, h2, h3, h4, g1, g2, g3, g4, g5, g6]
def isCode : Jvm.Cond → Bool
  | .code _ _ _ _ => true
  | _ => false
theorem all_split {L : List Jvm.Cond} {P : Jvm.Cond → Bool} (h1 : L.all (fun c => isCode c || P c) = true) (h2 : ∀ c ∈ L.filter isCode, P c = true) : L.all P = true := by
  refine List.all_eq_true.mpr fun c hc => ?_
  have h := List.all_eq_true.mp h1 c hc
  rcases Bool.eq_false_or_eq_true (isCode c) with hi | hi
  · exact h2 c (List.mem_filter.mpr ⟨hc, hi⟩)
  · simpa [hi] using h
set_option maxRecDepth 65536 in
theorem w_c0 : (Jvm.Cond.code x code maxLocals ret).before args0 about1 = true := code_word (m := ⟨1, 1⟩) (meth := k1m1) (c := k1c1) (by decide +kernel) rfl rfl rfl (by decide +kernel)
set_option maxRecDepth 65536 in
theorem w_c1 : (Jvm.Cond.code ({ cls := "com/example/traceweave/traceweave/replay/TokenCounts", name := "<init>", desc := "(JJJJJ)V" } : Jvm.MethodName) prog_51_method_1_code (11 : Nat) (Option.none : Option Jvm.ClassFile.FieldType)).before args0 about1 = true := code_word (m := ⟨3, 0⟩) (meth := k3m0) (c := k3c0) (by decide +kernel) rfl rfl rfl (by decide +kernel)
set_option maxRecDepth 65536 in
theorem w_c2 : (Jvm.Cond.code ({ cls := "java/lang/Record", name := "<init>", desc := "()V" } : Jvm.MethodName) jdk_30_method_1_code (1 : Nat) (Option.none : Option Jvm.ClassFile.FieldType)).before args0 about1 = true := code_word (m := ⟨2, 0⟩) (meth := k2m0) (c := k2c0) (by decide +kernel) rfl rfl rfl (by decide +kernel)
set_option maxRecDepth 65536 in
theorem w_c3 : (Jvm.Cond.code ({ cls := "java/lang/Object", name := "<init>", desc := "()V" } : Jvm.MethodName) object_method_1_code (1 : Nat) (Option.none : Option Jvm.ClassFile.FieldType)).before args0 about1 = true := code_word (m := ⟨0, 0⟩) (meth := k0m0) (c := k0c0) (by decide +kernel) rfl rfl rfl (by decide +kernel)
set_option maxRecDepth 65536 in
theorem w_c4 : (Jvm.Cond.code ({ cls := "com/example/traceweave/traceweave/replay/TokenCounts", name := "fits", desc := "()Z" } : Jvm.MethodName) prog_51_method_3_code (1 : Nat) (Option.some Jvm.ClassFile.FieldType.boolean)).before args0 about1 = true := code_word (m := ⟨3, 1⟩) (meth := k3m1) (c := k3c1) (by decide +kernel) rfl rfl rfl (by decide +kernel)
def codes1 : List Jvm.Cond := [Jvm.Cond.code x code maxLocals ret, Jvm.Cond.code ({ cls := "com/example/traceweave/traceweave/replay/TokenCounts", name := "<init>", desc := "(JJJJJ)V" } : Jvm.MethodName) prog_51_method_1_code (11 : Nat) (Option.none : Option Jvm.ClassFile.FieldType), Jvm.Cond.code ({ cls := "java/lang/Record", name := "<init>", desc := "()V" } : Jvm.MethodName) jdk_30_method_1_code (1 : Nat) (Option.none : Option Jvm.ClassFile.FieldType), Jvm.Cond.code ({ cls := "java/lang/Object", name := "<init>", desc := "()V" } : Jvm.MethodName) object_method_1_code (1 : Nat) (Option.none : Option Jvm.ClassFile.FieldType), Jvm.Cond.code ({ cls := "com/example/traceweave/traceweave/replay/TokenCounts", name := "fits", desc := "()Z" } : Jvm.MethodName) prog_51_method_3_code (1 : Nat) (Option.some Jvm.ClassFile.FieldType.boolean)]
set_option maxRecDepth 65536 in
theorem codes_eq : words1.filter isCode = codes1 := rfl
theorem w_codes : ∀ c ∈ words1.filter isCode, c.before args0 about1 = true := by
  rw [codes_eq]
  intro c hc
  simp only [codes1, List.mem_cons, List.not_mem_nil, or_false] at hc
  rcases hc with rfl | rfl | rfl | rfl | rfl
  · exact w_c0
  · exact w_c1
  · exact w_c2
  · exact w_c3
  · exact w_c4
set_option maxRecDepth 65536 in
theorem w_t1 : (words1.take 24).all (fun c => isCode c || c.before args0 about1) = true := by decide +kernel
set_option maxRecDepth 65536 in
theorem w_t2 : (words1.drop 24).all (fun c => isCode c || c.before args0 about1) = true := by decide +kernel
theorem w_tables : (allAtoms (Jvm.Cond.code x code maxLocals ret :: tables_1)).before args0 about1 = true := by
  rw [allAtoms_all]
  show words1.all (fun c => c.before args0 about1) = true
  refine all_split ?_ w_codes
  rw [← List.take_append_drop 24 words1, List.all_append, w_t1, w_t2]
  rfl
set_option maxRecDepth 65536 in
theorem w_case : (Jvm.Cond.and given_1 narrow_1).before args0 about1 = true := by decide +kernel
theorem w_applies : (headSpec (Jvm.Cond.code x code maxLocals ret :: tables_1) room_1).applies x e0.platform about1 = true :=
  (Spec.applies_iff w_frames).mpr ⟨w_running, w_runnable, w_alone, w_named, w_hears, w_ripe, w_room, w_tables⟩
theorem atStart : AtStart classFile x code maxLocals ret World_1 tables_1 room_1 Calls_1 rest_1 Pre_1 launch0 p0 e0 about1 theMethod args0 below0 :=
  ⟨lists_1, trivial, launch0.admits_env _ _ _, launch0.least_env, fairChoices_fair.cas, fairChoices_fair.clock, w_frames, w_args, w_heap, w_applies, trivial, trivial, w_case⟩
end start1
theorem witness_1 : WitnessClaimed_1 := ⟨start1.p0, start1.e0, start1.about1, start1.theMethod, start1.args0, start1.below0, start1.atStart⟩
end Jvm.Pilot.@@N@@
