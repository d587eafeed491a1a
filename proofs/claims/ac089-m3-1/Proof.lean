import JvmDerived
import JvmDerived.Pilot.@@N@@Statement
import JvmDerived.Pilot.@@N@@Code
set_option linter.unusedVariables false
set_option linter.unusedSimpArgs false
namespace Jvm.Pilot.@@N@@
open Jvm Jvm.ClassFile Sem Op Lib Jvm.Free Jvm.Stand Jvm.LawKit Jvm.RoadKit Bundle Jvm.Pilot.@@N@@.Jvm.D
section OwnKit
variable {p : Program} {l : Launch} {e : Env} {R : Room} {s : State} {m : MethodId} {args : Array Value} {below : List Frame} {meth : Method} {c : Code} {T : State} {locs : List Loc} {cells slots : Nat}
/-- from the state u the run comes to an end of the invocation at which G holds -/
def Go (tb : Tables) (e : Env) (below : List Frame) (G : Outcome → State → Prop) (u : State) : Prop := ∃ s₂ o, Steps tb e below u s₂ ∧ s₂.status = .running ∧ Ended s₂ below o ∧ G o s₂
def End (Q : Option Value → Heap → List Loc → Prop) (s : State) (C S : Nat) (o : Outcome) (u : State) : Prop := ∃ v L, o = .returned v ∧ Q v u.heap L ∧ FrameEnd s o u L C S
theorem go {tb : Tables} {G : Outcome → State → Prop} {u u' : State} (st : ∀ t, Steps tb e below u' t → Steps tb e below u t) (k : Go tb e below G u') : Go tb e below G u := by
  obtain ⟨s₂, o, h1, h2⟩ := k
  exact ⟨s₂, o, st _ h1, h2⟩
theorem goT {tb : Tables} {G : Outcome → State → Prop} {u u' : State} (st : Steps tb e below u u') (k : Go tb e below G u') : Go tb e below G u := go (fun _ h => st.trans h) k
theorem own_fin (X : Stand p l e R s m args below meth c T locs cells slots) (hlk : meth.locks = false) {v : Option Value} (hv : meth.sig.returnType = none → v = none) {Q : Option Value → Heap → List Loc → Prop} {C S : Nat} (hq : Q v T.heap locs) (hc : cells ≤ C) (hs : slots ≤ S) {u : State}
    (st : ∀ fs, (∀ (f : JFrame) (acts : List Action), f.method = m → f.locked = none → f.entered = [] → (doReturn e (T.setTop f) acts v).1 = T.setFrames fs) → Steps p.tables e below u (T.setFrames fs)) : Go p.tables e below (End Q s C S) u := by
  obtain ⟨fs, hr, hrun, hended, hW, hsame⟩ := X.leave (v := v) hv hlk
  exact ⟨_, _, st fs hr, hrun, hended, _, _, rfl, hq, ⟨_, rfl⟩, hW, hsame.mono hc hs⟩
theorem own_retI (X : Stand p l e R s m args below meth c T locs cells slots) (hx : p.tables.exec = Jvm.exec) {pc : Nat} {Ls : Array Slot} {z : Int32} {rest : List Value} (hret : meth.sig.returnType = some .int) (hd : decode c.code pc = .ok (.ireturn, 1)) {fs : List Frame}
    (hl : ∀ (f : JFrame) (acts : List Action), f.method = m → f.locked = none → f.entered = [] → (doReturn e (T.setTop f) acts (some (.int z))).1 = T.setFrames fs) : Steps p.tables e below (T.setTop (mkF m pc Ls (.int z :: rest))) (T.setFrames fs) := by
  have hm' : T.vm.method? m = some meth := X.method'
  have hn : narrow .int (.int z) = .int z := rfl
  show Steps p.tables e below (T.setTop { method := m, pc := pc, locals := Ls, stack := _ :: rest, locked := none }) _
  jvm_step X.here [X.here.top, hx, hd, hm', hret, hn]
  first | (intro acts; rw [hl _ acts rfl rfl rfl]) | rw [hl _ _ rfl rfl rfl]
  exact Steps.refl _
theorem own_retA (X : Stand p l e R s m args below meth c T locs cells slots) (hx : p.tables.exec = Jvm.exec) {pc : Nat} {Ls : Array Slot} {z : Value} {t : FieldType} {rest : List Value} (hret : meth.sig.returnType = some t) (ht : t.isReference = true) (hz : z.isRef = true) (hd : decode c.code pc = .ok (.areturn, 1)) {fs : List Frame}
    (hl : ∀ (f : JFrame) (acts : List Action), f.method = m → f.locked = none → f.entered = [] → (doReturn e (T.setTop f) acts (some z)).1 = T.setFrames fs) : Steps p.tables e below (T.setTop (mkF m pc Ls (z :: rest))) (T.setFrames fs) := by
  have hm' : T.vm.method? m = some meth := X.method'
  show Steps p.tables e below (T.setTop { method := m, pc := pc, locals := Ls, stack := _ :: rest, locked := none }) _
  jvm_step X.here [X.here.top, hx, hd, hm', hret, ht, hz]
  first | (intro acts; rw [hl _ acts rfl rfl rfl]) | rw [hl _ _ rfl rfl rfl]
  exact Steps.refl _
theorem gI (X : Stand p l e R s m args below meth c T locs cells slots) (hx : p.tables.exec = Jvm.exec) (hlk : meth.locks = false) {pc : Nat} {Ls : Array Slot} {z : Int32} {rest : List Value} (hret : meth.sig.returnType = some .int) (hd : decode c.code pc = .ok (.ireturn, 1)) {Q : Option Value → Heap → List Loc → Prop} {C S : Nat} (hq : Q (some (.int z)) T.heap locs) (hc : cells ≤ C) (hs : slots ≤ S) :
    Go p.tables e below (End Q s C S) (T.setTop (mkF m pc Ls (.int z :: rest))) := own_fin X hlk (fun h => by rw [hret] at h; cases h) hq hc hs fun fs hr => own_retI X hx hret hd hr
theorem gN (X : Stand p l e R s m args below meth c T locs cells slots) (hx : p.tables.exec = Jvm.exec) (hlk : meth.locks = false) {pc : Nat} {Ls : Array Slot} {z : Int32} {t : FieldType} {rest : List Value} (hret : meth.sig.returnType = some t) (ht : t = .boolean ∨ t = .byte ∨ t = .char ∨ t = .short) (hn : nar t z = z) (hd : decode c.code pc = .ok (.ireturn, 1)) {Q : Option Value → Heap → List Loc → Prop} {C S : Nat} (hq : Q (some (.int z)) T.heap locs) (hc : cells ≤ C) (hs : slots ≤ S) :
    Go p.tables e below (End Q s C S) (T.setTop (mkF m pc Ls (.int z :: rest))) := own_fin X hlk (fun h => by rw [hret] at h; cases h) hq hc hs fun fs hr => retN X hx hret ht hd (by rw [hn]; exact hr)
theorem gJ (X : Stand p l e R s m args below meth c T locs cells slots) (hx : p.tables.exec = Jvm.exec) (hlk : meth.locks = false) {pc : Nat} {Ls : Array Slot} {z : Int64} (hret : meth.sig.returnType = some .long) (hd : decode c.code pc = .ok (.lreturn, 1)) {Q : Option Value → Heap → List Loc → Prop} {C S : Nat} (hq : Q (some (.long z)) T.heap locs) (hc : cells ≤ C) (hs : slots ≤ S) :
    Go p.tables e below (End Q s C S) (T.setTop (mkF m pc Ls [.long z])) := own_fin X hlk (fun h => by rw [hret] at h; cases h) hq hc hs fun fs hr => X.lreturnOut hx hret hd hr
theorem g0 (X : Stand p l e R s m args below meth c T locs cells slots) (hx : p.tables.exec = Jvm.exec) (hlk : meth.locks = false) {pc : Nat} {Ls : Array Slot} (hret : meth.sig.returnType = none) (hd : decode c.code pc = .ok (.return_, 1)) {Q : Option Value → Heap → List Loc → Prop} {C S : Nat} (hq : Q none T.heap locs) (hc : cells ≤ C) (hs : slots ≤ S) :
    Go p.tables e below (End Q s C S) (T.setTop (mkF m pc Ls [])) := own_fin X hlk (fun _ => rfl) hq hc hs fun fs hr => X.returnOut hx hret hd hr
theorem gA (X : Stand p l e R s m args below meth c T locs cells slots) (hx : p.tables.exec = Jvm.exec) (hlk : meth.locks = false) {pc : Nat} {Ls : Array Slot} {z : Value} {t : FieldType} {rest : List Value} (hret : meth.sig.returnType = some t) (ht : t.isReference = true) (hz : z.isRef = true) (hd : decode c.code pc = .ok (.areturn, 1)) {Q : Option Value → Heap → List Loc → Prop} {C S : Nat} (hq : Q (some z) T.heap locs) (hc : cells ≤ C) (hs : slots ≤ S) :
    Go p.tables e below (End Q s C S) (T.setTop (mkF m pc Ls (z :: rest))) := own_fin X hlk (fun h => by rw [hret] at h; cases h) hq hc hs fun fs hr => own_retA X hx hret ht hz hd hr
end OwnKit
/-- a body's contract out of its walk -/
theorem body {l : Launch} {y : MethodName} {bytes : ByteArray} {maxL : Nat} {ret : Option FieldType} {ws : List Jvm.Cond} {rm : Room} {as' : Array Value} {Z : State} {h0 : Heap} {Q : Option Value → Heap → List Loc → Prop} (pn : plainFor y = true)
    (k : ∀ (p : Program) (e : Env) (s : State) (m : MethodId) (below : List Frame) (meth : Method) (c : Code) (s₁ : State), p.tables.exec = Jvm.exec → c.code = bytes → c.maxLocals = maxL → s.vm.findClass y.cls = some m.cls → meth.name = y.name → meth.sig.returnType = ret → meth.locks = false → Z.Warmed39 s.vm → s₁.heap = h0 →
      Stand p l e rm s m as' below meth c s₁ [] 0 0 → Go p.tables e below (End Q s rm.cells rm.slots) (s₁.setTop (entryFrame m as' maxL))) :
    MetFree l y (head1 (Jvm.Cond.code y bytes maxL ret :: ws) rm) (fun a U => a = as' ∧ Z.Warmed39 U.vm ∧ U.heap = h0) (fun _ _ _ _ _ => True) (fun _ U o U' => ∃ v L, o = .returned v ∧ Q v U'.heap L ∧ FrameEnd U o U' L rm.cells rm.slots) := by
  refine MetFree.of_bodySF pn hisR ?_
  intro p e s m args below meth c s₁ Bd hml hP _
  obtain ⟨rfl, hZ, hh⟩ := hP
  obtain ⟨s₂, o, h1, h2, h3, h4⟩ := k p e s m below meth c s₁ Bd.exec Bd.bytes hml (findClass_of_methodNamed Bd.named) (name_of_methodNamed Bd.named Bd.method).1 Bd.returns Bd.notSynchronized hZ (by rw [← hh, Bd.state]; rfl) (Stand.of_body Bd)
  exact ⟨s₂, o, h1, h2, h3, h4⟩
/-- a boolean as an int -/
def B (P : Prop) [Decidable P] : Int32 := if P then 1 else 0
theorem Bt {P : Prop} [Decidable P] (h : P) : B P = 1 := if_pos h
theorem Bf {P : Prop} [Decidable P] (h : ¬ P) : B P = 0 := if_neg h
theorem B1 {P : Prop} [Decidable P] (h : P) : (1 : Int32) = B P := (if_pos h).symm
theorem B0 {P : Prop} [Decidable P] (h : ¬ P) : (0 : Int32) = B P := (if_neg h).symm
theorem B_iff {P Q : Prop} [Decidable P] [Decidable Q] (h : P ↔ Q) : B P = B Q := by simp only [B, h]
theorem B_nar {P : Prop} [Decidable P] : nar .boolean (B P) = B P := by by_cases h : P <;> simp only [B, h, if_true, if_false] <;> rfl
theorem bT {P : Prop} [Decidable P] (h : P) : ifCond.holds .ne (B P) = true ∧ ifCond.holds .eq (B P) = false := by rw [Bt h]; exact ⟨rfl, rfl⟩
theorem bF {P : Prop} [Decidable P] (h : ¬ P) : ifCond.holds .ne (B P) = false ∧ ifCond.holds .eq (B P) = true := by rw [Bf h]; exact ⟨rfl, rfl⟩
theorem lT {x y : Int64} (h : x < y) : ifCond.holds .lt (lcmpW x y) = true ∧ ifCond.holds .ge (lcmpW x y) = false ∧ ifCond.holds .gt (lcmpW y x) = true ∧ ifCond.holds .le (lcmpW y x) = false := by
  have h1 := tlt ((lw_lt x y).mpr h)
  have h2 := tlt ((lw_gt y x).mpr h)
  simp only [if0]; exact ⟨h1.1, h1.2.1, h2.2.2.1, h2.2.2.2⟩
theorem lF {x y : Int64} (h : ¬ x < y) : ifCond.holds .lt (lcmpW x y) = false ∧ ifCond.holds .ge (lcmpW x y) = true ∧ ifCond.holds .gt (lcmpW y x) = false ∧ ifCond.holds .le (lcmpW y x) = true := by
  have h1 := flt (fun q => h ((lw_lt x y).mp q))
  have h2 := flt (fun q => h ((lw_gt y x).mp q))
  simp only [if0]; exact ⟨h1.1, h1.2.1, h2.2.2.1, h2.2.2.2⟩
theorem lTe {x y : Int64} (h : x = y) : ifCond.holds .eq (lcmpW x y) = true ∧ ifCond.holds .ne (lcmpW x y) = false := by
  simp only [if0]; exact teq ((lw_eq x y).mpr h)
theorem lFe {x y : Int64} (h : ¬ x = y) : ifCond.holds .eq (lcmpW x y) = false ∧ ifCond.holds .ne (lcmpW x y) = true := by
  simp only [if0]; exact feq (fun q => h ((lw_eq x y).mp q))
theorem bTv {P : Prop} [Decidable P] {v : Int32} (hv : v = B P) (h : P) : ifCond.holds .ne v = true ∧ ifCond.holds .eq v = false := hv ▸ bT h
theorem bFv {P : Prop} [Decidable P] {v : Int32} (hv : v = B P) (h : ¬ P) : ifCond.holds .ne v = false ∧ ifCond.holds .eq v = true := hv ▸ bF h
theorem B_narv {P : Prop} [Decidable P] {v : Int32} (hv : v = B P) : nar .boolean v = v := hv ▸ B_nar
theorem own_fitb {v : Int32} (h : nar .boolean v = v) : fits .boolean (.int v) = true := h ▸ fits_nar_bool v
theorem ww {a0 : Array Value} {Z : State} (hw : ∀ d ∈ tables_1, d.before a0 Z = true) (i : Nat) {d : Jvm.Cond} (h : tables_1[i]? = some d) : d.before a0 Z = true := hw d (List.mem_of_getElem? h)
theorem own_xx (a b c : Int32) : ((a = b) ∧ (a = c)) ↔ (((a ^^^ b) ||| (a ^^^ c)) = (0 : Int32)) := by
  simp only [← Int32.toBitVec_inj, Int32.toBitVec_or, Int32.toBitVec_xor]
  have h0 : (0 : Int32).toBitVec = 0#32 := rfl
  rw [h0, BitVec.or_eq_zero_iff, BitVec.xor_eq_zero_iff, BitVec.xor_eq_zero_iff]
theorem pn_java_lang_Record__init__2 : plainFor (⟨"java/lang/Record", "<init>", "()V"⟩ : MethodName) = true := by first | exact plainFor_of_name (by first | (simp [plainName, overriddenIn]; done) | decide +kernel) | decide +kernel
def Q_rm2 (Z : State) (o0 : Addr) (h0 : Heap) (n0 : Nat) (v : Option Value) (h : Heap) (L : List Loc) : Prop := v = none ∧ Fr n0 L ∧ h = h0
set_option maxRecDepth 65536 in
set_option maxHeartbeats 4000000 in
theorem ef_rm2 (m : MethodId) (o0 : Addr) : entryFrame m #[(.ref o0)] 1 = mkF m 0 #[.val (.ref o0)] [] := by first | (simp [entryFrame, mkF, argsToLocals, Value.category, maxLocals]; done) | rfl
theorem d2_0 : decode jdk_30_method_1_code 0 = .ok (.aload_n 0, 1) := by decide +kernel
theorem d2_1 : decode jdk_30_method_1_code 1 = .ok (.invokespecial 1, 3) := by decide +kernel
theorem d2_4 : decode jdk_30_method_1_code 4 = .ok (.return_, 1) := by decide +kernel
set_option maxRecDepth 65536 in
set_option maxHeartbeats 40000000 in
theorem rm2 (l : Launch) (Z : State) (a0 : Array Value) (hw : ∀ d ∈ tables_1, d.before a0 Z = true) (ws : List Jvm.Cond) (o0 : Addr) (h0 : Heap) (n0 : Nat) (Z0 : n0 ≤ h0.size)  :
    MetFree l (⟨"java/lang/Record", "<init>", "()V"⟩ : MethodName) (head1 (Jvm.Cond.code (⟨"java/lang/Record", "<init>", "()V"⟩ : MethodName) jdk_30_method_1_code 1 none :: ws) ({ frames := 1, cells := 0, slots := 0, locals := 12 } : Room)) (fun a U => a = #[(.ref o0)] ∧ Z.Warmed39 U.vm ∧ U.heap = h0) (fun _ _ _ _ _ => True) (fun _ U o U' => ∃ v L, o = .returned v ∧ Q_rm2 Z o0 h0 n0 v U'.heap L ∧ FrameEnd U o U' L ({ frames := 1, cells := 0, slots := 0, locals := 12 } : Room).cells ({ frames := 1, cells := 0, slots := 0, locals := 12 } : Room).slots) := by
  refine body pn_java_lang_Record__init__2 ?_
  intro p e s m below meth c s₁ hx hby hml hown hnm hret hlk hZ e0 X0
  replace hml : c.maxLocals = 1 := hml
  replace hown : s.vm.findClass "java/lang/Record" = some m.cls := hown
  replace hnm : meth.name = "<init>" := hnm
  replace hret : meth.sig.returnType = none := hret
  have N0 := Fr.nil n0
  rw [ef_rm2]
  obtain ⟨G, hG⟩ : ∃ G, G = End (Q_rm2 Z o0 h0 n0) s ({ frames := 1, cells := 0, slots := 0, locals := 12 } : Room).cells ({ frames := 1, cells := 0, slots := 0, locals := 12 } : Room).slots := ⟨_, rfl⟩
  rw [← hG]
  refine go (u' := s₁.setTop (mkF m 1 #[.val (.ref o0)] [(.ref o0)])) (fun _ ks_ => XS.aloadN X0.here hx rfl (hb hby d2_0) rfl rfl ks_) ?_
  obtain ⟨T1, X1, e1, st1⟩ := initO X0 hx hZ hown (ww hw 11 rfl) (ww hw 12 rfl) (ww hw 13 rfl) e0 (g := (mkF m 1 #[.val (.ref o0)] [(.ref o0)])) rfl (by rw [hml]; rfl) rfl (hb hby d2_1) (by decide) (W := 0) (by show 2 * 0 + _ ≤ _; exact Nat.le_of_eq rfl) (by decide)
  refine go (u' := T1.setTop (mkF m 4 #[.val (.ref o0)] [])) st1 ?_
  rw [hG]
  refine g0 X1 hx hlk hret (hb hby d2_4) ?_ (Nat.le_of_ble_eq_true rfl) (Nat.le_of_ble_eq_true rfl)
  show Q_rm2 Z o0 h0 n0 (none) T1.heap _
  rw [e1]
  exact ⟨rfl, N0, rfl⟩
theorem pd__40__41_V : parseMethodDescriptor "()V" = some ⟨[], none⟩ := by decide +kernel
theorem pn_com_example_chartwright_chartwright_eval_SentenceScore__init__1 : plainFor (⟨"com/example/chartwright/chartwright/eval/SentenceScore", "<init>", "(IIIIII)V"⟩ : MethodName) = true := by first | exact plainFor_of_name (by first | (simp [plainName, overriddenIn]; done) | decide +kernel) | decide +kernel
def Q_rm1 (Z : State) (o0 : Addr) (p1 : Int32) (p2 : Int32) (p3 : Int32) (p4 : Int32) (p5 : Int32) (p6 : Int32) (h0 : Heap) (n0 : Nat) (v : Option Value) (h : Heap) (L : List Loc) : Prop := v = none ∧ Fr n0 L ∧ Keep h0 h [o0] ∧ (Exa Z h o0 "com/example/chartwright/chartwright/eval/SentenceScore") ∧ (Fld Z h o0 "com/example/chartwright/chartwright/eval/SentenceScore" "length" "I" (.int p1)) ∧ (Fld Z h o0 "com/example/chartwright/chartwright/eval/SentenceScore" "matched" "I" (.int p2)) ∧ (Fld Z h o0 "com/example/chartwright/chartwright/eval/SentenceScore" "gold" "I" (.int p3)) ∧ (Fld Z h o0 "com/example/chartwright/chartwright/eval/SentenceScore" "candidate" "I" (.int p4)) ∧ (Fld Z h o0 "com/example/chartwright/chartwright/eval/SentenceScore" "words" "I" (.int p5)) ∧ (Fld Z h o0 "com/example/chartwright/chartwright/eval/SentenceScore" "correctTags" "I" (.int p6))
set_option maxRecDepth 65536 in
set_option maxHeartbeats 4000000 in
theorem ef_rm1 (m : MethodId) (o0 : Addr) (p1 : Int32) (p2 : Int32) (p3 : Int32) (p4 : Int32) (p5 : Int32) (p6 : Int32) : entryFrame m #[(.ref o0), (.int p1), (.int p2), (.int p3), (.int p4), (.int p5), (.int p6)] 7 = mkF m 0 #[.val (.ref o0), .val (.int p1), .val (.int p2), .val (.int p3), .val (.int p4), .val (.int p5), .val (.int p6)] [] := by first | (simp [entryFrame, mkF, argsToLocals, Value.category, maxLocals]; done) | rfl
theorem d1_0 : decode prog_18_method_1_code 0 = .ok (.aload_n 0, 1) := by decide +kernel
theorem d1_1 : decode prog_18_method_1_code 1 = .ok (.invokespecial 1, 3) := by decide +kernel
theorem d1_4 : decode prog_18_method_1_code 4 = .ok (.aload_n 0, 1) := by decide +kernel
theorem d1_5 : decode prog_18_method_1_code 5 = .ok (.iload_n 1, 1) := by decide +kernel
theorem d1_6 : decode prog_18_method_1_code 6 = .ok (.putfield 7, 3) := by decide +kernel
theorem d1_9 : decode prog_18_method_1_code 9 = .ok (.aload_n 0, 1) := by decide +kernel
theorem d1_10 : decode prog_18_method_1_code 10 = .ok (.iload_n 2, 1) := by decide +kernel
theorem d1_11 : decode prog_18_method_1_code 11 = .ok (.putfield 13, 3) := by decide +kernel
theorem d1_14 : decode prog_18_method_1_code 14 = .ok (.aload_n 0, 1) := by decide +kernel
theorem d1_15 : decode prog_18_method_1_code 15 = .ok (.iload_n 3, 1) := by decide +kernel
theorem d1_16 : decode prog_18_method_1_code 16 = .ok (.putfield 16, 3) := by decide +kernel
theorem d1_19 : decode prog_18_method_1_code 19 = .ok (.aload_n 0, 1) := by decide +kernel
theorem d1_20 : decode prog_18_method_1_code 20 = .ok (.iload 4, 2) := by decide +kernel
theorem d1_22 : decode prog_18_method_1_code 22 = .ok (.putfield 19, 3) := by decide +kernel
theorem d1_25 : decode prog_18_method_1_code 25 = .ok (.aload_n 0, 1) := by decide +kernel
theorem d1_26 : decode prog_18_method_1_code 26 = .ok (.iload 5, 2) := by decide +kernel
theorem d1_28 : decode prog_18_method_1_code 28 = .ok (.putfield 22, 3) := by decide +kernel
theorem d1_31 : decode prog_18_method_1_code 31 = .ok (.aload_n 0, 1) := by decide +kernel
theorem d1_32 : decode prog_18_method_1_code 32 = .ok (.iload 6, 2) := by decide +kernel
theorem d1_34 : decode prog_18_method_1_code 34 = .ok (.putfield 25, 3) := by decide +kernel
theorem d1_37 : decode prog_18_method_1_code 37 = .ok (.return_, 1) := by decide +kernel
set_option maxRecDepth 65536 in
set_option maxHeartbeats 40000000 in
theorem rm1 (l : Launch) (Z : State) (a0 : Array Value) (hw : ∀ d ∈ tables_1, d.before a0 Z = true) (ws : List Jvm.Cond) (o0 : Addr) (p1 : Int32) (p2 : Int32) (p3 : Int32) (p4 : Int32) (p5 : Int32) (p6 : Int32) (h0 : Heap) (n0 : Nat) (Z0 : n0 ≤ h0.size) (g_o0 : n0 ≤ o0) (F0 : Exa Z h0 o0 "com/example/chartwright/chartwright/eval/SentenceScore") (F1 : Fld Z h0 o0 "com/example/chartwright/chartwright/eval/SentenceScore" "length" "I" (.int (0 : Int32))) (F2 : Fld Z h0 o0 "com/example/chartwright/chartwright/eval/SentenceScore" "matched" "I" (.int (0 : Int32))) (F3 : Fld Z h0 o0 "com/example/chartwright/chartwright/eval/SentenceScore" "gold" "I" (.int (0 : Int32))) (F4 : Fld Z h0 o0 "com/example/chartwright/chartwright/eval/SentenceScore" "candidate" "I" (.int (0 : Int32))) (F5 : Fld Z h0 o0 "com/example/chartwright/chartwright/eval/SentenceScore" "words" "I" (.int (0 : Int32))) (F6 : Fld Z h0 o0 "com/example/chartwright/chartwright/eval/SentenceScore" "correctTags" "I" (.int (0 : Int32))) :
    MetFree l (⟨"com/example/chartwright/chartwright/eval/SentenceScore", "<init>", "(IIIIII)V"⟩ : MethodName) (head1 (Jvm.Cond.code (⟨"com/example/chartwright/chartwright/eval/SentenceScore", "<init>", "(IIIIII)V"⟩ : MethodName) prog_18_method_1_code 7 none :: ws) ({ frames := 2, cells := 0, slots := 0, locals := 24 } : Room)) (fun a U => a = #[(.ref o0), (.int p1), (.int p2), (.int p3), (.int p4), (.int p5), (.int p6)] ∧ Z.Warmed39 U.vm ∧ U.heap = h0) (fun _ _ _ _ _ => True) (fun _ U o U' => ∃ v L, o = .returned v ∧ Q_rm1 Z o0 p1 p2 p3 p4 p5 p6 h0 n0 v U'.heap L ∧ FrameEnd U o U' L ({ frames := 2, cells := 0, slots := 0, locals := 24 } : Room).cells ({ frames := 2, cells := 0, slots := 0, locals := 24 } : Room).slots) := by
  refine body pn_com_example_chartwright_chartwright_eval_SentenceScore__init__1 ?_
  intro p e s m below meth c s₁ hx hby hml hown hnm hret hlk hZ e0 X0
  replace hml : c.maxLocals = 7 := hml
  replace hown : s.vm.findClass "com/example/chartwright/chartwright/eval/SentenceScore" = some m.cls := hown
  replace hnm : meth.name = "<init>" := hnm
  replace hret : meth.sig.returnType = none := hret
  have N0 := Fr.nil n0
  rw [ef_rm1]
  obtain ⟨G, hG⟩ : ∃ G, G = End (Q_rm1 Z o0 p1 p2 p3 p4 p5 p6 h0 n0) s ({ frames := 2, cells := 0, slots := 0, locals := 24 } : Room).cells ({ frames := 2, cells := 0, slots := 0, locals := 24 } : Room).slots := ⟨_, rfl⟩
  rw [← hG]
  refine go (u' := s₁.setTop (mkF m 1 #[.val (.ref o0), .val (.int p1), .val (.int p2), .val (.int p3), .val (.int p4), .val (.int p5), .val (.int p6)] [(.ref o0)])) (fun _ ks_ => XS.aloadN X0.here hx rfl (hb hby d1_0) rfl rfl ks_) ?_
  obtain ⟨_, _, ⟨T1, L1, k1, n1⟩, -, X1, ⟨Lc1, hQ1, l1, y1, z1⟩, st1⟩ := X0.specialBack hx (y := (⟨"java/lang/Record", "<init>", "()V"⟩ : MethodName)) rfl hown (mvT hZ (ww hw 6 rfl)) (mvT hZ (ww hw 7 rfl)) (mvT hZ (ww hw 10 rfl)) (by decide) (backOf (W := 0) (rm2 l Z a0 hw [] o0 h0 n0 Z0) hZ (ww hw 10 rfl) (ww hw 9 rfl) (by decide) (by decide)) (g := (mkF m 1 #[.val (.ref o0), .val (.int p1), .val (.int p2), .val (.int p3), .val (.int p4), .val (.int p5), .val (.int p6)] [(.ref o0)])) rfl (by rw [hml]; rfl) (Steps.refl _) (a := o0) (argsL := []) (rest := []) (lenOf pd__40__41_V rfl) rfl (by show 2 * 0 + _ ≤ _; exact Nat.le_of_eq rfl) (hb hby d1_1) (fun _ _ => ⟨rfl, e0, (by decide : 0 + 0 ≤ _), (by decide : 0 + 0 ≤ _)⟩)
  dsimp only [Pt.U, Pt.locs, Pt.cells, Pt.slots] at X1 l1 y1 z1 st1 hQ1
  subst l1 y1 z1
  obtain ⟨rfl, N1q, eq1⟩ := hQ1
  have N1 := Fr.app N0 N1q
  refine goT (u' := T1.setTop (mkF m 4 #[.val (.ref o0), .val (.int p1), .val (.int p2), .val (.int p3), .val (.int p4), .val (.int p5), .val (.int p6)] [])) st1 ?_
  refine go (u' := T1.setTop (mkF m 5 #[.val (.ref o0), .val (.int p1), .val (.int p2), .val (.int p3), .val (.int p4), .val (.int p5), .val (.int p6)] [(.ref o0)])) (fun _ ks_ => XS.aloadN X1.here hx rfl (hb hby d1_4) rfl rfl ks_) ?_
  refine go (u' := T1.setTop (mkF m 6 #[.val (.ref o0), .val (.int p1), .val (.int p2), .val (.int p3), .val (.int p4), .val (.int p5), .val (.int p6)] [(.int p1), (.ref o0)])) (fun _ ks_ => XS.iloadN X1.here hx rfl (hb hby d1_5) rfl  ks_) ?_
  obtain ⟨T2, h2, X2, e2, W2, st2⟩ := putF X1 hx hZ hown (host := "") (Or.inl (ww hw 14 rfl)) Via.refl eq1 F1 F0 (Or.inr ⟨(ww hw 15 rfl), rfl, hnm⟩) (ww hw 1 rfl) (ty := .int) (by decide) rfl rfl (g := (mkF m 6 #[.val (.ref o0), .val (.int p1), .val (.int p2), .val (.int p3), .val (.int p4), .val (.int p5), .val (.int p6)] [(.int p1), (.ref o0)])) rfl rfl (hb hby d1_6)
  have N2 := Fr.snoc X2 N1 g_o0
  have K2 : Keep h0 h2 [o0] := (Keep.refl h0 [o0]).wr W2 (Or.inl (List.mem_of_getElem? (i := 0) rfl))
  have Z2 : n0 ≤ h2.size := Nat.le_trans Z0 (Keep.of_wr W2).1
  have Fa3 : Exa Z h2 o0 "com/example/chartwright/chartwright/eval/SentenceScore" := F0.wr W2
  have Fa4 : Fld Z h2 o0 "com/example/chartwright/chartwright/eval/SentenceScore" "matched" "I" (.int (0 : Int32)) := F2.other W2 (Or.inr (slot_ne (Or.inr (ww hw 17 rfl)) (Or.inr (ww hw 15 rfl)) (by decide) (t := .int) (t' := .int) (by decide) (by decide)))
  have Fa5 : Fld Z h2 o0 "com/example/chartwright/chartwright/eval/SentenceScore" "gold" "I" (.int (0 : Int32)) := F3.other W2 (Or.inr (slot_ne (Or.inr (ww hw 19 rfl)) (Or.inr (ww hw 15 rfl)) (by decide) (t := .int) (t' := .int) (by decide) (by decide)))
  have Fa6 : Fld Z h2 o0 "com/example/chartwright/chartwright/eval/SentenceScore" "candidate" "I" (.int (0 : Int32)) := F4.other W2 (Or.inr (slot_ne (Or.inr (ww hw 21 rfl)) (Or.inr (ww hw 15 rfl)) (by decide) (t := .int) (t' := .int) (by decide) (by decide)))
  have Fa7 : Fld Z h2 o0 "com/example/chartwright/chartwright/eval/SentenceScore" "words" "I" (.int (0 : Int32)) := F5.other W2 (Or.inr (slot_ne (Or.inr (ww hw 23 rfl)) (Or.inr (ww hw 15 rfl)) (by decide) (t := .int) (t' := .int) (by decide) (by decide)))
  have Fa8 : Fld Z h2 o0 "com/example/chartwright/chartwright/eval/SentenceScore" "correctTags" "I" (.int (0 : Int32)) := F6.other W2 (Or.inr (slot_ne (Or.inr (ww hw 25 rfl)) (Or.inr (ww hw 15 rfl)) (by decide) (t := .int) (t' := .int) (by decide) (by decide)))
  have Fa9 : Fld Z h2 o0 "com/example/chartwright/chartwright/eval/SentenceScore" "length" "I" (.int p1) := F1.same W2
  refine go (u' := T2.setTop (mkF m 9 #[.val (.ref o0), .val (.int p1), .val (.int p2), .val (.int p3), .val (.int p4), .val (.int p5), .val (.int p6)] [])) st2 ?_
  refine go (u' := T2.setTop (mkF m 10 #[.val (.ref o0), .val (.int p1), .val (.int p2), .val (.int p3), .val (.int p4), .val (.int p5), .val (.int p6)] [(.ref o0)])) (fun _ ks_ => XS.aloadN X2.here hx rfl (hb hby d1_9) rfl rfl ks_) ?_
  refine go (u' := T2.setTop (mkF m 11 #[.val (.ref o0), .val (.int p1), .val (.int p2), .val (.int p3), .val (.int p4), .val (.int p5), .val (.int p6)] [(.int p2), (.ref o0)])) (fun _ ks_ => XS.iloadN X2.here hx rfl (hb hby d1_10) rfl  ks_) ?_
  obtain ⟨T10, h10, X10, e10, W10, st10⟩ := putF X2 hx hZ hown (host := "") (Or.inl (ww hw 16 rfl)) Via.refl e2 Fa4 Fa3 (Or.inr ⟨(ww hw 17 rfl), rfl, hnm⟩) (ww hw 1 rfl) (ty := .int) (by decide) rfl rfl (g := (mkF m 11 #[.val (.ref o0), .val (.int p1), .val (.int p2), .val (.int p3), .val (.int p4), .val (.int p5), .val (.int p6)] [(.int p2), (.ref o0)])) rfl rfl (hb hby d1_11)
  have N10 := Fr.snoc X10 N2 g_o0
  have K10 : Keep h0 h10 [o0] := K2.wr W10 (Or.inl (List.mem_of_getElem? (i := 0) rfl))
  have Z10 : n0 ≤ h10.size := Nat.le_trans Z2 (Keep.of_wr W10).1
  have Fa11 : Exa Z h10 o0 "com/example/chartwright/chartwright/eval/SentenceScore" := Fa3.wr W10
  have Fa12 : Fld Z h10 o0 "com/example/chartwright/chartwright/eval/SentenceScore" "length" "I" (.int p1) := Fa9.other W10 (Or.inr (slot_ne (Or.inr (ww hw 15 rfl)) (Or.inr (ww hw 17 rfl)) (by decide) (t := .int) (t' := .int) (by decide) (by decide)))
  have Fa13 : Fld Z h10 o0 "com/example/chartwright/chartwright/eval/SentenceScore" "gold" "I" (.int (0 : Int32)) := Fa5.other W10 (Or.inr (slot_ne (Or.inr (ww hw 19 rfl)) (Or.inr (ww hw 17 rfl)) (by decide) (t := .int) (t' := .int) (by decide) (by decide)))
  have Fa14 : Fld Z h10 o0 "com/example/chartwright/chartwright/eval/SentenceScore" "candidate" "I" (.int (0 : Int32)) := Fa6.other W10 (Or.inr (slot_ne (Or.inr (ww hw 21 rfl)) (Or.inr (ww hw 17 rfl)) (by decide) (t := .int) (t' := .int) (by decide) (by decide)))
  have Fa15 : Fld Z h10 o0 "com/example/chartwright/chartwright/eval/SentenceScore" "words" "I" (.int (0 : Int32)) := Fa7.other W10 (Or.inr (slot_ne (Or.inr (ww hw 23 rfl)) (Or.inr (ww hw 17 rfl)) (by decide) (t := .int) (t' := .int) (by decide) (by decide)))
  have Fa16 : Fld Z h10 o0 "com/example/chartwright/chartwright/eval/SentenceScore" "correctTags" "I" (.int (0 : Int32)) := Fa8.other W10 (Or.inr (slot_ne (Or.inr (ww hw 25 rfl)) (Or.inr (ww hw 17 rfl)) (by decide) (t := .int) (t' := .int) (by decide) (by decide)))
  have Fa17 : Fld Z h10 o0 "com/example/chartwright/chartwright/eval/SentenceScore" "matched" "I" (.int p2) := Fa4.same W10
  refine go (u' := T10.setTop (mkF m 14 #[.val (.ref o0), .val (.int p1), .val (.int p2), .val (.int p3), .val (.int p4), .val (.int p5), .val (.int p6)] [])) st10 ?_
  refine go (u' := T10.setTop (mkF m 15 #[.val (.ref o0), .val (.int p1), .val (.int p2), .val (.int p3), .val (.int p4), .val (.int p5), .val (.int p6)] [(.ref o0)])) (fun _ ks_ => XS.aloadN X10.here hx rfl (hb hby d1_14) rfl rfl ks_) ?_
  refine go (u' := T10.setTop (mkF m 16 #[.val (.ref o0), .val (.int p1), .val (.int p2), .val (.int p3), .val (.int p4), .val (.int p5), .val (.int p6)] [(.int p3), (.ref o0)])) (fun _ ks_ => XS.iloadN X10.here hx rfl (hb hby d1_15) rfl  ks_) ?_
  obtain ⟨T18, h18, X18, e18, W18, st18⟩ := putF X10 hx hZ hown (host := "") (Or.inl (ww hw 18 rfl)) Via.refl e10 Fa13 Fa11 (Or.inr ⟨(ww hw 19 rfl), rfl, hnm⟩) (ww hw 1 rfl) (ty := .int) (by decide) rfl rfl (g := (mkF m 16 #[.val (.ref o0), .val (.int p1), .val (.int p2), .val (.int p3), .val (.int p4), .val (.int p5), .val (.int p6)] [(.int p3), (.ref o0)])) rfl rfl (hb hby d1_16)
  have N18 := Fr.snoc X18 N10 g_o0
  have K18 : Keep h0 h18 [o0] := K10.wr W18 (Or.inl (List.mem_of_getElem? (i := 0) rfl))
  have Z18 : n0 ≤ h18.size := Nat.le_trans Z10 (Keep.of_wr W18).1
  have Fa19 : Exa Z h18 o0 "com/example/chartwright/chartwright/eval/SentenceScore" := Fa11.wr W18
  have Fa20 : Fld Z h18 o0 "com/example/chartwright/chartwright/eval/SentenceScore" "length" "I" (.int p1) := Fa12.other W18 (Or.inr (slot_ne (Or.inr (ww hw 15 rfl)) (Or.inr (ww hw 19 rfl)) (by decide) (t := .int) (t' := .int) (by decide) (by decide)))
  have Fa21 : Fld Z h18 o0 "com/example/chartwright/chartwright/eval/SentenceScore" "matched" "I" (.int p2) := Fa17.other W18 (Or.inr (slot_ne (Or.inr (ww hw 17 rfl)) (Or.inr (ww hw 19 rfl)) (by decide) (t := .int) (t' := .int) (by decide) (by decide)))
  have Fa22 : Fld Z h18 o0 "com/example/chartwright/chartwright/eval/SentenceScore" "candidate" "I" (.int (0 : Int32)) := Fa14.other W18 (Or.inr (slot_ne (Or.inr (ww hw 21 rfl)) (Or.inr (ww hw 19 rfl)) (by decide) (t := .int) (t' := .int) (by decide) (by decide)))
  have Fa23 : Fld Z h18 o0 "com/example/chartwright/chartwright/eval/SentenceScore" "words" "I" (.int (0 : Int32)) := Fa15.other W18 (Or.inr (slot_ne (Or.inr (ww hw 23 rfl)) (Or.inr (ww hw 19 rfl)) (by decide) (t := .int) (t' := .int) (by decide) (by decide)))
  have Fa24 : Fld Z h18 o0 "com/example/chartwright/chartwright/eval/SentenceScore" "correctTags" "I" (.int (0 : Int32)) := Fa16.other W18 (Or.inr (slot_ne (Or.inr (ww hw 25 rfl)) (Or.inr (ww hw 19 rfl)) (by decide) (t := .int) (t' := .int) (by decide) (by decide)))
  have Fa25 : Fld Z h18 o0 "com/example/chartwright/chartwright/eval/SentenceScore" "gold" "I" (.int p3) := Fa13.same W18
  refine go (u' := T18.setTop (mkF m 19 #[.val (.ref o0), .val (.int p1), .val (.int p2), .val (.int p3), .val (.int p4), .val (.int p5), .val (.int p6)] [])) st18 ?_
  refine go (u' := T18.setTop (mkF m 20 #[.val (.ref o0), .val (.int p1), .val (.int p2), .val (.int p3), .val (.int p4), .val (.int p5), .val (.int p6)] [(.ref o0)])) (fun _ ks_ => XS.aloadN X18.here hx rfl (hb hby d1_19) rfl rfl ks_) ?_
  refine go (u' := T18.setTop (mkF m 22 #[.val (.ref o0), .val (.int p1), .val (.int p2), .val (.int p3), .val (.int p4), .val (.int p5), .val (.int p6)] [(.int p4), (.ref o0)])) (fun _ ks_ => XS.iload X18.here hx rfl (hb hby d1_20) rfl  ks_) ?_
  obtain ⟨T26, h26, X26, e26, W26, st26⟩ := putF X18 hx hZ hown (host := "") (Or.inl (ww hw 20 rfl)) Via.refl e18 Fa22 Fa19 (Or.inr ⟨(ww hw 21 rfl), rfl, hnm⟩) (ww hw 1 rfl) (ty := .int) (by decide) rfl rfl (g := (mkF m 22 #[.val (.ref o0), .val (.int p1), .val (.int p2), .val (.int p3), .val (.int p4), .val (.int p5), .val (.int p6)] [(.int p4), (.ref o0)])) rfl rfl (hb hby d1_22)
  have N26 := Fr.snoc X26 N18 g_o0
  have K26 : Keep h0 h26 [o0] := K18.wr W26 (Or.inl (List.mem_of_getElem? (i := 0) rfl))
  have Z26 : n0 ≤ h26.size := Nat.le_trans Z18 (Keep.of_wr W26).1
  have Fa27 : Exa Z h26 o0 "com/example/chartwright/chartwright/eval/SentenceScore" := Fa19.wr W26
  have Fa28 : Fld Z h26 o0 "com/example/chartwright/chartwright/eval/SentenceScore" "length" "I" (.int p1) := Fa20.other W26 (Or.inr (slot_ne (Or.inr (ww hw 15 rfl)) (Or.inr (ww hw 21 rfl)) (by decide) (t := .int) (t' := .int) (by decide) (by decide)))
  have Fa29 : Fld Z h26 o0 "com/example/chartwright/chartwright/eval/SentenceScore" "matched" "I" (.int p2) := Fa21.other W26 (Or.inr (slot_ne (Or.inr (ww hw 17 rfl)) (Or.inr (ww hw 21 rfl)) (by decide) (t := .int) (t' := .int) (by decide) (by decide)))
  have Fa30 : Fld Z h26 o0 "com/example/chartwright/chartwright/eval/SentenceScore" "gold" "I" (.int p3) := Fa25.other W26 (Or.inr (slot_ne (Or.inr (ww hw 19 rfl)) (Or.inr (ww hw 21 rfl)) (by decide) (t := .int) (t' := .int) (by decide) (by decide)))
  have Fa31 : Fld Z h26 o0 "com/example/chartwright/chartwright/eval/SentenceScore" "words" "I" (.int (0 : Int32)) := Fa23.other W26 (Or.inr (slot_ne (Or.inr (ww hw 23 rfl)) (Or.inr (ww hw 21 rfl)) (by decide) (t := .int) (t' := .int) (by decide) (by decide)))
  have Fa32 : Fld Z h26 o0 "com/example/chartwright/chartwright/eval/SentenceScore" "correctTags" "I" (.int (0 : Int32)) := Fa24.other W26 (Or.inr (slot_ne (Or.inr (ww hw 25 rfl)) (Or.inr (ww hw 21 rfl)) (by decide) (t := .int) (t' := .int) (by decide) (by decide)))
  have Fa33 : Fld Z h26 o0 "com/example/chartwright/chartwright/eval/SentenceScore" "candidate" "I" (.int p4) := Fa22.same W26
  refine go (u' := T26.setTop (mkF m 25 #[.val (.ref o0), .val (.int p1), .val (.int p2), .val (.int p3), .val (.int p4), .val (.int p5), .val (.int p6)] [])) st26 ?_
  refine go (u' := T26.setTop (mkF m 26 #[.val (.ref o0), .val (.int p1), .val (.int p2), .val (.int p3), .val (.int p4), .val (.int p5), .val (.int p6)] [(.ref o0)])) (fun _ ks_ => XS.aloadN X26.here hx rfl (hb hby d1_25) rfl rfl ks_) ?_
  refine go (u' := T26.setTop (mkF m 28 #[.val (.ref o0), .val (.int p1), .val (.int p2), .val (.int p3), .val (.int p4), .val (.int p5), .val (.int p6)] [(.int p5), (.ref o0)])) (fun _ ks_ => XS.iload X26.here hx rfl (hb hby d1_26) rfl  ks_) ?_
  obtain ⟨T34, h34, X34, e34, W34, st34⟩ := putF X26 hx hZ hown (host := "") (Or.inl (ww hw 22 rfl)) Via.refl e26 Fa31 Fa27 (Or.inr ⟨(ww hw 23 rfl), rfl, hnm⟩) (ww hw 1 rfl) (ty := .int) (by decide) rfl rfl (g := (mkF m 28 #[.val (.ref o0), .val (.int p1), .val (.int p2), .val (.int p3), .val (.int p4), .val (.int p5), .val (.int p6)] [(.int p5), (.ref o0)])) rfl rfl (hb hby d1_28)
  have N34 := Fr.snoc X34 N26 g_o0
  have K34 : Keep h0 h34 [o0] := K26.wr W34 (Or.inl (List.mem_of_getElem? (i := 0) rfl))
  have Z34 : n0 ≤ h34.size := Nat.le_trans Z26 (Keep.of_wr W34).1
  have Fa35 : Exa Z h34 o0 "com/example/chartwright/chartwright/eval/SentenceScore" := Fa27.wr W34
  have Fa36 : Fld Z h34 o0 "com/example/chartwright/chartwright/eval/SentenceScore" "length" "I" (.int p1) := Fa28.other W34 (Or.inr (slot_ne (Or.inr (ww hw 15 rfl)) (Or.inr (ww hw 23 rfl)) (by decide) (t := .int) (t' := .int) (by decide) (by decide)))
  have Fa37 : Fld Z h34 o0 "com/example/chartwright/chartwright/eval/SentenceScore" "matched" "I" (.int p2) := Fa29.other W34 (Or.inr (slot_ne (Or.inr (ww hw 17 rfl)) (Or.inr (ww hw 23 rfl)) (by decide) (t := .int) (t' := .int) (by decide) (by decide)))
  have Fa38 : Fld Z h34 o0 "com/example/chartwright/chartwright/eval/SentenceScore" "gold" "I" (.int p3) := Fa30.other W34 (Or.inr (slot_ne (Or.inr (ww hw 19 rfl)) (Or.inr (ww hw 23 rfl)) (by decide) (t := .int) (t' := .int) (by decide) (by decide)))
  have Fa39 : Fld Z h34 o0 "com/example/chartwright/chartwright/eval/SentenceScore" "candidate" "I" (.int p4) := Fa33.other W34 (Or.inr (slot_ne (Or.inr (ww hw 21 rfl)) (Or.inr (ww hw 23 rfl)) (by decide) (t := .int) (t' := .int) (by decide) (by decide)))
  have Fa40 : Fld Z h34 o0 "com/example/chartwright/chartwright/eval/SentenceScore" "correctTags" "I" (.int (0 : Int32)) := Fa32.other W34 (Or.inr (slot_ne (Or.inr (ww hw 25 rfl)) (Or.inr (ww hw 23 rfl)) (by decide) (t := .int) (t' := .int) (by decide) (by decide)))
  have Fa41 : Fld Z h34 o0 "com/example/chartwright/chartwright/eval/SentenceScore" "words" "I" (.int p5) := Fa31.same W34
  refine go (u' := T34.setTop (mkF m 31 #[.val (.ref o0), .val (.int p1), .val (.int p2), .val (.int p3), .val (.int p4), .val (.int p5), .val (.int p6)] [])) st34 ?_
  refine go (u' := T34.setTop (mkF m 32 #[.val (.ref o0), .val (.int p1), .val (.int p2), .val (.int p3), .val (.int p4), .val (.int p5), .val (.int p6)] [(.ref o0)])) (fun _ ks_ => XS.aloadN X34.here hx rfl (hb hby d1_31) rfl rfl ks_) ?_
  refine go (u' := T34.setTop (mkF m 34 #[.val (.ref o0), .val (.int p1), .val (.int p2), .val (.int p3), .val (.int p4), .val (.int p5), .val (.int p6)] [(.int p6), (.ref o0)])) (fun _ ks_ => XS.iload X34.here hx rfl (hb hby d1_32) rfl  ks_) ?_
  obtain ⟨T42, h42, X42, e42, W42, st42⟩ := putF X34 hx hZ hown (host := "") (Or.inl (ww hw 24 rfl)) Via.refl e34 Fa40 Fa35 (Or.inr ⟨(ww hw 25 rfl), rfl, hnm⟩) (ww hw 1 rfl) (ty := .int) (by decide) rfl rfl (g := (mkF m 34 #[.val (.ref o0), .val (.int p1), .val (.int p2), .val (.int p3), .val (.int p4), .val (.int p5), .val (.int p6)] [(.int p6), (.ref o0)])) rfl rfl (hb hby d1_34)
  have N42 := Fr.snoc X42 N34 g_o0
  have K42 : Keep h0 h42 [o0] := K34.wr W42 (Or.inl (List.mem_of_getElem? (i := 0) rfl))
  have Z42 : n0 ≤ h42.size := Nat.le_trans Z34 (Keep.of_wr W42).1
  have Fa43 : Exa Z h42 o0 "com/example/chartwright/chartwright/eval/SentenceScore" := Fa35.wr W42
  have Fa44 : Fld Z h42 o0 "com/example/chartwright/chartwright/eval/SentenceScore" "length" "I" (.int p1) := Fa36.other W42 (Or.inr (slot_ne (Or.inr (ww hw 15 rfl)) (Or.inr (ww hw 25 rfl)) (by decide) (t := .int) (t' := .int) (by decide) (by decide)))
  have Fa45 : Fld Z h42 o0 "com/example/chartwright/chartwright/eval/SentenceScore" "matched" "I" (.int p2) := Fa37.other W42 (Or.inr (slot_ne (Or.inr (ww hw 17 rfl)) (Or.inr (ww hw 25 rfl)) (by decide) (t := .int) (t' := .int) (by decide) (by decide)))
  have Fa46 : Fld Z h42 o0 "com/example/chartwright/chartwright/eval/SentenceScore" "gold" "I" (.int p3) := Fa38.other W42 (Or.inr (slot_ne (Or.inr (ww hw 19 rfl)) (Or.inr (ww hw 25 rfl)) (by decide) (t := .int) (t' := .int) (by decide) (by decide)))
  have Fa47 : Fld Z h42 o0 "com/example/chartwright/chartwright/eval/SentenceScore" "candidate" "I" (.int p4) := Fa39.other W42 (Or.inr (slot_ne (Or.inr (ww hw 21 rfl)) (Or.inr (ww hw 25 rfl)) (by decide) (t := .int) (t' := .int) (by decide) (by decide)))
  have Fa48 : Fld Z h42 o0 "com/example/chartwright/chartwright/eval/SentenceScore" "words" "I" (.int p5) := Fa41.other W42 (Or.inr (slot_ne (Or.inr (ww hw 23 rfl)) (Or.inr (ww hw 25 rfl)) (by decide) (t := .int) (t' := .int) (by decide) (by decide)))
  have Fa49 : Fld Z h42 o0 "com/example/chartwright/chartwright/eval/SentenceScore" "correctTags" "I" (.int p6) := Fa40.same W42
  refine go (u' := T42.setTop (mkF m 37 #[.val (.ref o0), .val (.int p1), .val (.int p2), .val (.int p3), .val (.int p4), .val (.int p5), .val (.int p6)] [])) st42 ?_
  rw [hG]
  refine g0 X42 hx hlk hret (hb hby d1_37) ?_ (Nat.le_of_ble_eq_true rfl) (Nat.le_of_ble_eq_true rfl)
  show Q_rm1 Z o0 p1 p2 p3 p4 p5 p6 h0 n0 (none) T42.heap _
  rw [e42]
  exact ⟨rfl, N42, K42, Fa43, Fa44, Fa45, Fa46, Fa47, Fa48, Fa49⟩
theorem pn_com_example_chartwright_chartwright_eval_SentenceScore_exact_4 : plainFor (⟨"com/example/chartwright/chartwright/eval/SentenceScore", "exact", "()Z"⟩ : MethodName) = true := by first | exact plainFor_of_name (by first | (simp [plainName, overriddenIn]; done) | decide +kernel) | decide +kernel
def Q_rm4 (Z : State) (o0 : Addr) (ma : Int32) (go_ : Int32) (ca : Int32) (h0 : Heap) (n0 : Nat) (v : Option Value) (h : Heap) (L : List Loc) : Prop := v = some (.int (B ((ma = go_) ∧ (ma = ca)))) ∧ Fr n0 L ∧ h = h0
set_option maxRecDepth 65536 in
set_option maxHeartbeats 4000000 in
theorem ef_rm4 (m : MethodId) (o0 : Addr) : entryFrame m #[(.ref o0)] 1 = mkF m 0 #[.val (.ref o0)] [] := by first | (simp [entryFrame, mkF, argsToLocals, Value.category, maxLocals]; done) | rfl
theorem d4_0 : decode prog_18_method_3_code 0 = .ok (.aload_n 0, 1) := by decide +kernel
theorem d4_1 : decode prog_18_method_3_code 1 = .ok (.getfield 13, 3) := by decide +kernel
theorem d4_4 : decode prog_18_method_3_code 4 = .ok (.aload_n 0, 1) := by decide +kernel
theorem d4_5 : decode prog_18_method_3_code 5 = .ok (.getfield 16, 3) := by decide +kernel
theorem d4_8 : decode prog_18_method_3_code 8 = .ok (.if_icmp .ne 18, 3) := by decide +kernel
theorem d4_11 : decode prog_18_method_3_code 11 = .ok (.aload_n 0, 1) := by decide +kernel
theorem d4_12 : decode prog_18_method_3_code 12 = .ok (.getfield 13, 3) := by decide +kernel
theorem d4_15 : decode prog_18_method_3_code 15 = .ok (.aload_n 0, 1) := by decide +kernel
theorem d4_16 : decode prog_18_method_3_code 16 = .ok (.getfield 19, 3) := by decide +kernel
theorem d4_19 : decode prog_18_method_3_code 19 = .ok (.if_icmp .ne 7, 3) := by decide +kernel
theorem d4_22 : decode prog_18_method_3_code 22 = .ok (.iconst 1, 1) := by decide +kernel
theorem d4_23 : decode prog_18_method_3_code 23 = .ok (.goto 4, 3) := by decide +kernel
theorem d4_26 : decode prog_18_method_3_code 26 = .ok (.iconst 0, 1) := by decide +kernel
theorem d4_27 : decode prog_18_method_3_code 27 = .ok (.ireturn, 1) := by decide +kernel
set_option maxRecDepth 65536 in
set_option maxHeartbeats 40000000 in
theorem rm4 (l : Launch) (Z : State) (a0 : Array Value) (hw : ∀ d ∈ tables_1, d.before a0 Z = true) (ws : List Jvm.Cond) (o0 : Addr) (ma : Int32) (go_ : Int32) (ca : Int32) (h0 : Heap) (n0 : Nat) (Z0 : n0 ≤ h0.size) (F0 : Fld Z h0 o0 "com/example/chartwright/chartwright/eval/SentenceScore" "matched" "I" (.int ma)) (F1 : Fld Z h0 o0 "com/example/chartwright/chartwright/eval/SentenceScore" "gold" "I" (.int go_)) (F2 : Fld Z h0 o0 "com/example/chartwright/chartwright/eval/SentenceScore" "candidate" "I" (.int ca)) :
    MetFree l (⟨"com/example/chartwright/chartwright/eval/SentenceScore", "exact", "()Z"⟩ : MethodName) (head1 (Jvm.Cond.code (⟨"com/example/chartwright/chartwright/eval/SentenceScore", "exact", "()Z"⟩ : MethodName) prog_18_method_3_code 1 (some .boolean) :: ws) ({ frames := 0, cells := 0, slots := 0, locals := 0 } : Room)) (fun a U => a = #[(.ref o0)] ∧ Z.Warmed39 U.vm ∧ U.heap = h0) (fun _ _ _ _ _ => True) (fun _ U o U' => ∃ v L, o = .returned v ∧ Q_rm4 Z o0 ma go_ ca h0 n0 v U'.heap L ∧ FrameEnd U o U' L ({ frames := 0, cells := 0, slots := 0, locals := 0 } : Room).cells ({ frames := 0, cells := 0, slots := 0, locals := 0 } : Room).slots) := by
  refine body pn_com_example_chartwright_chartwright_eval_SentenceScore_exact_4 ?_
  intro p e s m below meth c s₁ hx hby hml hown hnm hret hlk hZ e0 X0
  replace hml : c.maxLocals = 1 := hml
  replace hown : s.vm.findClass "com/example/chartwright/chartwright/eval/SentenceScore" = some m.cls := hown
  replace hnm : meth.name = "exact" := hnm
  replace hret : meth.sig.returnType = (some .boolean) := hret
  have N0 := Fr.nil n0
  rw [ef_rm4]
  obtain ⟨G, hG⟩ : ∃ G, G = End (Q_rm4 Z o0 ma go_ ca h0 n0) s ({ frames := 0, cells := 0, slots := 0, locals := 0 } : Room).cells ({ frames := 0, cells := 0, slots := 0, locals := 0 } : Room).slots := ⟨_, rfl⟩
  rw [← hG]
  refine go (u' := s₁.setTop (mkF m 1 #[.val (.ref o0)] [(.ref o0)])) (fun _ ks_ => XS.aloadN X0.here hx rfl (hb hby d4_0) rfl rfl ks_) ?_
  obtain ⟨T1, X1, e1, st1⟩ := getF X0 hx hZ hown (host := "") (Or.inl (ww hw 16 rfl)) Via.refl e0 F0 (g := (mkF m 1 #[.val (.ref o0)] [(.ref o0)])) rfl rfl (hb hby d4_1)
  refine go (u' := T1.setTop (mkF m 4 #[.val (.ref o0)] [(.int ma)])) st1 ?_
  refine go (u' := T1.setTop (mkF m 5 #[.val (.ref o0)] [(.ref o0), (.int ma)])) (fun _ ks_ => XS.aloadN X1.here hx rfl (hb hby d4_4) rfl rfl ks_) ?_
  obtain ⟨T2, X2, e2, st2⟩ := getF X1 hx hZ hown (host := "") (Or.inl (ww hw 18 rfl)) Via.refl e1 F1 (g := (mkF m 5 #[.val (.ref o0)] [(.ref o0), (.int ma)])) rfl rfl (hb hby d4_5)
  refine go (u' := T2.setTop (mkF m 8 #[.val (.ref o0)] [(.int go_), (.int ma)])) st2 ?_
  by_cases c8_1 : ma = go_
  ·
    refine go (u' := T2.setTop (mkF m 11 #[.val (.ref o0)] [])) (fun _ ks_ => XS.icmpNo X2.here hx rfl (hb hby d4_8) rfl (teq c8_1).2 ks_) ?_
    refine go (u' := T2.setTop (mkF m 12 #[.val (.ref o0)] [(.ref o0)])) (fun _ ks_ => XS.aloadN X2.here hx rfl (hb hby d4_11) rfl rfl ks_) ?_
    obtain ⟨T3, X3, e3, st3⟩ := getF X2 hx hZ hown (host := "") (Or.inl (ww hw 16 rfl)) Via.refl e2 F0 (g := (mkF m 12 #[.val (.ref o0)] [(.ref o0)])) rfl rfl (hb hby d4_12)
    refine go (u' := T3.setTop (mkF m 15 #[.val (.ref o0)] [(.int ma)])) st3 ?_
    refine go (u' := T3.setTop (mkF m 16 #[.val (.ref o0)] [(.ref o0), (.int ma)])) (fun _ ks_ => XS.aloadN X3.here hx rfl (hb hby d4_15) rfl rfl ks_) ?_
    obtain ⟨T4, X4, e4, st4⟩ := getF X3 hx hZ hown (host := "") (Or.inl (ww hw 20 rfl)) Via.refl e3 F2 (g := (mkF m 16 #[.val (.ref o0)] [(.ref o0), (.int ma)])) rfl rfl (hb hby d4_16)
    refine go (u' := T4.setTop (mkF m 19 #[.val (.ref o0)] [(.int ca), (.int ma)])) st4 ?_
    by_cases c19_2 : ma = ca
    ·
      refine go (u' := T4.setTop (mkF m 22 #[.val (.ref o0)] [])) (fun _ ks_ => XS.icmpNo X4.here hx rfl (hb hby d4_19) rfl (teq c19_2).2 ks_) ?_
      refine go (u' := T4.setTop (mkF m 23 #[.val (.ref o0)] [(.int (1 : Int32))])) (fun _ ks_ => XS.iconst X4.here hx rfl (hb hby d4_22) ks_) ?_
      refine go (u' := T4.setTop (mkF m 27 #[.val (.ref o0)] [(.int (1 : Int32))])) (fun _ ks_ => XS.goto X4.here hx rfl (pc0 := 23) (pc' := 27) rfl (hb hby d4_23) (by decide) (by decide) ks_) ?_
      rw [hG]
      refine gN X4 hx hlk (t := .boolean) hret (by simp) rfl (hb hby d4_27) ?_ (Nat.le_of_ble_eq_true rfl) (Nat.le_of_ble_eq_true rfl)
      show Q_rm4 Z o0 ma go_ ca h0 n0 (some (.int (1 : Int32))) T4.heap _
      rw [e4]
      exact ⟨congrArg (fun z => some (Value.int z)) (B1 ⟨c8_1, c19_2⟩), N0, rfl⟩
    ·
      refine go (u' := T4.setTop (mkF m 26 #[.val (.ref o0)] [])) (fun _ ks_ => XS.icmpYes X4.here hx rfl (pc0 := 19) (pc' := 26) rfl (hb hby d4_19) rfl (feq c19_2).2 (by decide) (by decide) ks_) ?_
      refine go (u' := T4.setTop (mkF m 27 #[.val (.ref o0)] [(.int (0 : Int32))])) (fun _ ks_ => XS.iconst X4.here hx rfl (hb hby d4_26) ks_) ?_
      rw [hG]
      refine gN X4 hx hlk (t := .boolean) hret (by simp) rfl (hb hby d4_27) ?_ (Nat.le_of_ble_eq_true rfl) (Nat.le_of_ble_eq_true rfl)
      show Q_rm4 Z o0 ma go_ ca h0 n0 (some (.int (0 : Int32))) T4.heap _
      rw [e4]
      exact ⟨congrArg (fun z => some (Value.int z)) (B0 (fun q => c19_2 q.2)), N0, rfl⟩
  ·
    refine go (u' := T2.setTop (mkF m 26 #[.val (.ref o0)] [])) (fun _ ks_ => XS.icmpYes X2.here hx rfl (pc0 := 8) (pc' := 26) rfl (hb hby d4_8) rfl (feq c8_1).2 (by decide) (by decide) ks_) ?_
    refine go (u' := T2.setTop (mkF m 27 #[.val (.ref o0)] [(.int (0 : Int32))])) (fun _ ks_ => XS.iconst X2.here hx rfl (hb hby d4_26) ks_) ?_
    rw [hG]
    refine gN X2 hx hlk (t := .boolean) hret (by simp) rfl (hb hby d4_27) ?_ (Nat.le_of_ble_eq_true rfl) (Nat.le_of_ble_eq_true rfl)
    show Q_rm4 Z o0 ma go_ ca h0 n0 (some (.int (0 : Int32))) T2.heap _
    rw [e2]
    exact ⟨congrArg (fun z => some (Value.int z)) (B0 (fun q => c8_1 q.1)), N0, rfl⟩
theorem pd__40_IIIIII_41_V : parseMethodDescriptor "(IIIIII)V" = some ⟨[.int, .int, .int, .int, .int, .int], none⟩ := by decide +kernel
theorem pd__40__41_Z : parseMethodDescriptor "()Z" = some ⟨[], some .boolean⟩ := by decide +kernel
theorem pn_com_example_chartwright_chartwright_eval_SentenceScoreExactPinLaw_law_0 : plainFor x = true := by first | exact plainFor_of_name (by first | (simp [plainName, overriddenIn]; done) | decide +kernel) | decide +kernel
def Q_rm0 (Z : State) (p0 : Int32) (p1 : Int32) (p2 : Int32) (p3 : Int32) (p4 : Int32) (h0 : Heap) (n0 : Nat) (v : Option Value) (h : Heap) (L : List Loc) : Prop := v = some (.int (1 : Int32)) ∧ Fr n0 L
set_option maxRecDepth 65536 in
set_option maxHeartbeats 4000000 in
theorem ef_rm0 (m : MethodId) (p0 : Int32) (p1 : Int32) (p2 : Int32) (p3 : Int32) (p4 : Int32) : entryFrame m #[(.int p0), (.int p1), (.int p2), (.int p3), (.int p4)] maxLocals = mkF m 0 #[.val (.int p0), .val (.int p1), .val (.int p2), .val (.int p3), .val (.int p4), .unset, .unset, .unset, .unset, .unset, .unset] [] := by first | (simp [entryFrame, mkF, argsToLocals, Value.category, maxLocals]; done) | rfl
set_option maxRecDepth 65536 in
set_option maxHeartbeats 40000000 in
theorem rm0 (l : Launch) (Z : State) (a0 : Array Value) (hw : ∀ d ∈ tables_1, d.before a0 Z = true) (ws : List Jvm.Cond) (p0 : Int32) (p1 : Int32) (p2 : Int32) (p3 : Int32) (p4 : Int32) (h0 : Heap) (n0 : Nat) (Z0 : n0 ≤ h0.size)  :
    MetFree l x (head1 (Jvm.Cond.code x code maxLocals ret :: ws) room_1) (fun a U => a = #[(.int p0), (.int p1), (.int p2), (.int p3), (.int p4)] ∧ Z.Warmed39 U.vm ∧ U.heap = h0) (fun _ _ _ _ _ => True) (fun _ U o U' => ∃ v L, o = .returned v ∧ Q_rm0 Z p0 p1 p2 p3 p4 h0 n0 v U'.heap L ∧ FrameEnd U o U' L room_1.cells room_1.slots) := by
  refine body pn_com_example_chartwright_chartwright_eval_SentenceScoreExactPinLaw_law_0 ?_
  intro p e s m below meth c s₁ hx hby hml hown hnm hret hlk hZ e0 X0
  replace hml : c.maxLocals = 11 := hml
  replace hown : s.vm.findClass "com/example/chartwright/chartwright/eval/SentenceScoreExactPinLaw" = some m.cls := hown
  replace hnm : meth.name = "law" := hnm
  replace hret : meth.sig.returnType = (some .boolean) := hret
  have N0 := Fr.nil n0
  rw [ef_rm0]
  obtain ⟨G, hG⟩ : ∃ G, G = End (Q_rm0 Z p0 p1 p2 p3 p4 h0 n0) s room_1.cells room_1.slots := ⟨_, rfl⟩
  rw [← hG]
  refine go (u' := s₁.setTop (mkF m 2 #[.val (.int p0), .val (.int p1), .val (.int p2), .val (.int p3), .val (.int p4), .unset, .unset, .unset, .unset, .unset, .unset] [(.int p4)])) (fun _ ks_ => XS.iload X0.here hx rfl (hb hby at_0) rfl  ks_) ?_
  refine go (u' := s₁.setTop (mkF m 3 #[.val (.int p0), .val (.int p1), .val (.int p2), .val (.int p3), .val (.int p4), .unset, .unset, .unset, .unset, .unset, .unset] [(.int (1 : Int32)), (.int p4)])) (fun _ ks_ => XS.iconst X0.here hx rfl (hb hby at_2) ks_) ?_
  refine go (u' := s₁.setTop (mkF m 4 #[.val (.int p0), .val (.int p1), .val (.int p2), .val (.int p3), .val (.int p4), .unset, .unset, .unset, .unset, .unset, .unset] [(.int (p4 &&& (1 : Int32)))])) (fun _ ks_ => XS.iand X0.here hx rfl (hb hby at_3) rfl ks_) ?_
  have J12_1 : ∀ v12_1 : Int32, v12_1 = (B (¬ ((p4 &&& (1 : Int32)) = (0 : Int32)))) → Go p.tables e below G (s₁.setTop (mkF m 12 #[.val (.int p0), .val (.int p1), .val (.int p2), .val (.int p3), .val (.int p4), .unset, .unset, .unset, .unset, .unset, .unset] [(.int v12_1)])) := by
    intro v12_1 hv12_1
    subst hv12_1
    refine go (u' := s₁.setTop (mkF m 14 #[.val (.int p0), .val (.int p1), .val (.int p2), .val (.int p3), .val (.int p4), .val (.int (B (¬ ((p4 &&& (1 : Int32)) = (0 : Int32))))), .unset, .unset, .unset, .unset, .unset] [])) (fun _ ks_ => XS.istore X0.here hx rfl (hb hby at_12) rfl  (l' := #[.val (.int p0), .val (.int p1), .val (.int p2), .val (.int p3), .val (.int p4), .val (.int (B (¬ ((p4 &&& (1 : Int32)) = (0 : Int32))))), .unset, .unset, .unset, .unset, .unset]) rfl ks_) ?_
    refine go (u' := s₁.setTop (mkF m 16 #[.val (.int p0), .val (.int p1), .val (.int p2), .val (.int p3), .val (.int p4), .val (.int (B (¬ ((p4 &&& (1 : Int32)) = (0 : Int32))))), .unset, .unset, .unset, .unset, .unset] [(.int p4)])) (fun _ ks_ => XS.iload X0.here hx rfl (hb hby at_14) rfl  ks_) ?_
    refine go (u' := s₁.setTop (mkF m 17 #[.val (.int p0), .val (.int p1), .val (.int p2), .val (.int p3), .val (.int p4), .val (.int (B (¬ ((p4 &&& (1 : Int32)) = (0 : Int32))))), .unset, .unset, .unset, .unset, .unset] [(.int (2 : Int32)), (.int p4)])) (fun _ ks_ => XS.iconst X0.here hx rfl (hb hby at_16) ks_) ?_
    refine go (u' := s₁.setTop (mkF m 18 #[.val (.int p0), .val (.int p1), .val (.int p2), .val (.int p3), .val (.int p4), .val (.int (B (¬ ((p4 &&& (1 : Int32)) = (0 : Int32))))), .unset, .unset, .unset, .unset, .unset] [(.int (p4 &&& (2 : Int32)))])) (fun _ ks_ => XS.iand X0.here hx rfl (hb hby at_17) rfl ks_) ?_
    have J26_2 : ∀ v26_2 : Int32, v26_2 = (B (¬ ((p4 &&& (2 : Int32)) = (0 : Int32)))) → Go p.tables e below G (s₁.setTop (mkF m 26 #[.val (.int p0), .val (.int p1), .val (.int p2), .val (.int p3), .val (.int p4), .val (.int (B (¬ ((p4 &&& (1 : Int32)) = (0 : Int32))))), .unset, .unset, .unset, .unset, .unset] [(.int v26_2)])) := by
      intro v26_2 hv26_2
      subst hv26_2
      refine go (u' := s₁.setTop (mkF m 28 #[.val (.int p0), .val (.int p1), .val (.int p2), .val (.int p3), .val (.int p4), .val (.int (B (¬ ((p4 &&& (1 : Int32)) = (0 : Int32))))), .val (.int (B (¬ ((p4 &&& (2 : Int32)) = (0 : Int32))))), .unset, .unset, .unset, .unset] [])) (fun _ ks_ => XS.istore X0.here hx rfl (hb hby at_26) rfl  (l' := #[.val (.int p0), .val (.int p1), .val (.int p2), .val (.int p3), .val (.int p4), .val (.int (B (¬ ((p4 &&& (1 : Int32)) = (0 : Int32))))), .val (.int (B (¬ ((p4 &&& (2 : Int32)) = (0 : Int32))))), .unset, .unset, .unset, .unset]) rfl ks_) ?_
      refine go (u' := s₁.setTop (mkF m 30 #[.val (.int p0), .val (.int p1), .val (.int p2), .val (.int p3), .val (.int p4), .val (.int (B (¬ ((p4 &&& (1 : Int32)) = (0 : Int32))))), .val (.int (B (¬ ((p4 &&& (2 : Int32)) = (0 : Int32))))), .unset, .unset, .unset, .unset] [(.int (B (¬ ((p4 &&& (1 : Int32)) = (0 : Int32)))))])) (fun _ ks_ => XS.iload X0.here hx rfl (hb hby at_28) rfl  ks_) ?_
      have J38_3 : ∀ v38_3 : Int32, v38_3 = (if (¬ ((p4 &&& (1 : Int32)) = (0 : Int32))) then p0 else p1) → Go p.tables e below G (s₁.setTop (mkF m 38 #[.val (.int p0), .val (.int p1), .val (.int p2), .val (.int p3), .val (.int p4), .val (.int (B (¬ ((p4 &&& (1 : Int32)) = (0 : Int32))))), .val (.int (B (¬ ((p4 &&& (2 : Int32)) = (0 : Int32))))), .unset, .unset, .unset, .unset] [(.int v38_3)])) := by
        intro v38_3 hv38_3
        refine go (u' := s₁.setTop (mkF m 40 #[.val (.int p0), .val (.int p1), .val (.int p2), .val (.int p3), .val (.int p4), .val (.int (B (¬ ((p4 &&& (1 : Int32)) = (0 : Int32))))), .val (.int (B (¬ ((p4 &&& (2 : Int32)) = (0 : Int32))))), .val (.int v38_3), .unset, .unset, .unset] [])) (fun _ ks_ => XS.istore X0.here hx rfl (hb hby at_38) rfl  (l' := #[.val (.int p0), .val (.int p1), .val (.int p2), .val (.int p3), .val (.int p4), .val (.int (B (¬ ((p4 &&& (1 : Int32)) = (0 : Int32))))), .val (.int (B (¬ ((p4 &&& (2 : Int32)) = (0 : Int32))))), .val (.int v38_3), .unset, .unset, .unset]) rfl ks_) ?_
        refine go (u' := s₁.setTop (mkF m 42 #[.val (.int p0), .val (.int p1), .val (.int p2), .val (.int p3), .val (.int p4), .val (.int (B (¬ ((p4 &&& (1 : Int32)) = (0 : Int32))))), .val (.int (B (¬ ((p4 &&& (2 : Int32)) = (0 : Int32))))), .val (.int v38_3), .unset, .unset, .unset] [(.int (B (¬ ((p4 &&& (2 : Int32)) = (0 : Int32)))))])) (fun _ ks_ => XS.iload X0.here hx rfl (hb hby at_40) rfl  ks_) ?_
        have J50_4 : ∀ v50_4 : Int32, v50_4 = (if (¬ ((p4 &&& (2 : Int32)) = (0 : Int32))) then p0 else p2) → Go p.tables e below G (s₁.setTop (mkF m 50 #[.val (.int p0), .val (.int p1), .val (.int p2), .val (.int p3), .val (.int p4), .val (.int (B (¬ ((p4 &&& (1 : Int32)) = (0 : Int32))))), .val (.int (B (¬ ((p4 &&& (2 : Int32)) = (0 : Int32))))), .val (.int v38_3), .unset, .unset, .unset] [(.int v50_4)])) := by
          intro v50_4 hv50_4
          refine go (u' := s₁.setTop (mkF m 52 #[.val (.int p0), .val (.int p1), .val (.int p2), .val (.int p3), .val (.int p4), .val (.int (B (¬ ((p4 &&& (1 : Int32)) = (0 : Int32))))), .val (.int (B (¬ ((p4 &&& (2 : Int32)) = (0 : Int32))))), .val (.int v38_3), .val (.int v50_4), .unset, .unset] [])) (fun _ ks_ => XS.istore X0.here hx rfl (hb hby at_50) rfl  (l' := #[.val (.int p0), .val (.int p1), .val (.int p2), .val (.int p3), .val (.int p4), .val (.int (B (¬ ((p4 &&& (1 : Int32)) = (0 : Int32))))), .val (.int (B (¬ ((p4 &&& (2 : Int32)) = (0 : Int32))))), .val (.int v38_3), .val (.int v50_4), .unset, .unset]) rfl ks_) ?_
          obtain ⟨T1, h1, X1, e1, E1, A1, D1, -, st1⟩ := newO X0 hx hZ hown (ww hw 0 rfl) (ww hw 1 rfl) (ww hw 2 rfl) e0 (g := (mkF m 52 #[.val (.int p0), .val (.int p1), .val (.int p2), .val (.int p3), .val (.int p4), .val (.int (B (¬ ((p4 &&& (1 : Int32)) = (0 : Int32))))), .val (.int (B (¬ ((p4 &&& (2 : Int32)) = (0 : Int32))))), .val (.int v38_3), .val (.int v50_4), .unset, .unset] [])) rfl (hb hby at_52) (by decide) (by decide)
          obtain ⟨b1, g1⟩ : ∃ z, z = h0.size := ⟨_, rfl⟩
          rw [← g1] at A1 D1 st1
          have g_b1 : n0 ≤ b1 := Nat.le_trans Z0 (Nat.le_of_eq g1.symm)
          have sz_b1 : h0.size ≤ b1 := Nat.le_trans (Keep.refl h0 []).1 (Nat.le_of_eq g1.symm)
          have K1 : Keep h0 h1 [] := (Keep.refl h0 []).ext E1
          have Z1 : n0 ≤ h1.size := Nat.le_trans Z0 E1.1
          have Fa2 : Fld Z h1 b1 "com/example/chartwright/chartwright/eval/SentenceScore" "length" "I" (.int (0 : Int32)) := D1 (Or.inr (ww hw 15 rfl)) (ty := .int) (by decide)
          have Fa3 : Fld Z h1 b1 "com/example/chartwright/chartwright/eval/SentenceScore" "matched" "I" (.int (0 : Int32)) := D1 (Or.inr (ww hw 17 rfl)) (ty := .int) (by decide)
          have Fa4 : Fld Z h1 b1 "com/example/chartwright/chartwright/eval/SentenceScore" "gold" "I" (.int (0 : Int32)) := D1 (Or.inr (ww hw 19 rfl)) (ty := .int) (by decide)
          have Fa5 : Fld Z h1 b1 "com/example/chartwright/chartwright/eval/SentenceScore" "candidate" "I" (.int (0 : Int32)) := D1 (Or.inr (ww hw 21 rfl)) (ty := .int) (by decide)
          have Fa6 : Fld Z h1 b1 "com/example/chartwright/chartwright/eval/SentenceScore" "words" "I" (.int (0 : Int32)) := D1 (Or.inr (ww hw 23 rfl)) (ty := .int) (by decide)
          have Fa7 : Fld Z h1 b1 "com/example/chartwright/chartwright/eval/SentenceScore" "correctTags" "I" (.int (0 : Int32)) := D1 (Or.inr (ww hw 25 rfl)) (ty := .int) (by decide)
          refine go (u' := T1.setTop (mkF m 55 #[.val (.int p0), .val (.int p1), .val (.int p2), .val (.int p3), .val (.int p4), .val (.int (B (¬ ((p4 &&& (1 : Int32)) = (0 : Int32))))), .val (.int (B (¬ ((p4 &&& (2 : Int32)) = (0 : Int32))))), .val (.int v38_3), .val (.int v50_4), .unset, .unset] [(.ref b1)])) st1 ?_
          refine go (u' := T1.setTop (mkF m 56 #[.val (.int p0), .val (.int p1), .val (.int p2), .val (.int p3), .val (.int p4), .val (.int (B (¬ ((p4 &&& (1 : Int32)) = (0 : Int32))))), .val (.int (B (¬ ((p4 &&& (2 : Int32)) = (0 : Int32))))), .val (.int v38_3), .val (.int v50_4), .unset, .unset] [(.ref b1), (.ref b1)])) (fun _ ks_ => XS.dup X1.here hx rfl (hb hby at_55) rfl rfl ks_) ?_
          refine go (u' := T1.setTop (mkF m 57 #[.val (.int p0), .val (.int p1), .val (.int p2), .val (.int p3), .val (.int p4), .val (.int (B (¬ ((p4 &&& (1 : Int32)) = (0 : Int32))))), .val (.int (B (¬ ((p4 &&& (2 : Int32)) = (0 : Int32))))), .val (.int v38_3), .val (.int v50_4), .unset, .unset] [(.int p3), (.ref b1), (.ref b1)])) (fun _ ks_ => XS.iloadN X1.here hx rfl (hb hby at_56) rfl  ks_) ?_
          refine go (u' := T1.setTop (mkF m 58 #[.val (.int p0), .val (.int p1), .val (.int p2), .val (.int p3), .val (.int p4), .val (.int (B (¬ ((p4 &&& (1 : Int32)) = (0 : Int32))))), .val (.int (B (¬ ((p4 &&& (2 : Int32)) = (0 : Int32))))), .val (.int v38_3), .val (.int v50_4), .unset, .unset] [(.int p0), (.int p3), (.ref b1), (.ref b1)])) (fun _ ks_ => XS.iloadN X1.here hx rfl (hb hby at_57) rfl  ks_) ?_
          refine go (u' := T1.setTop (mkF m 60 #[.val (.int p0), .val (.int p1), .val (.int p2), .val (.int p3), .val (.int p4), .val (.int (B (¬ ((p4 &&& (1 : Int32)) = (0 : Int32))))), .val (.int (B (¬ ((p4 &&& (2 : Int32)) = (0 : Int32))))), .val (.int v38_3), .val (.int v50_4), .unset, .unset] [(.int v38_3), (.int p0), (.int p3), (.ref b1), (.ref b1)])) (fun _ ks_ => XS.iload X1.here hx rfl (hb hby at_58) rfl  ks_) ?_
          refine go (u' := T1.setTop (mkF m 62 #[.val (.int p0), .val (.int p1), .val (.int p2), .val (.int p3), .val (.int p4), .val (.int (B (¬ ((p4 &&& (1 : Int32)) = (0 : Int32))))), .val (.int (B (¬ ((p4 &&& (2 : Int32)) = (0 : Int32))))), .val (.int v38_3), .val (.int v50_4), .unset, .unset] [(.int v50_4), (.int v38_3), (.int p0), (.int p3), (.ref b1), (.ref b1)])) (fun _ ks_ => XS.iload X1.here hx rfl (hb hby at_60) rfl  ks_) ?_
          refine go (u' := T1.setTop (mkF m 63 #[.val (.int p0), .val (.int p1), .val (.int p2), .val (.int p3), .val (.int p4), .val (.int (B (¬ ((p4 &&& (1 : Int32)) = (0 : Int32))))), .val (.int (B (¬ ((p4 &&& (2 : Int32)) = (0 : Int32))))), .val (.int v38_3), .val (.int v50_4), .unset, .unset] [(.int p3), (.int v50_4), (.int v38_3), (.int p0), (.int p3), (.ref b1), (.ref b1)])) (fun _ ks_ => XS.iloadN X1.here hx rfl (hb hby at_62) rfl  ks_) ?_
          refine go (u' := T1.setTop (mkF m 65 #[.val (.int p0), .val (.int p1), .val (.int p2), .val (.int p3), .val (.int p4), .val (.int (B (¬ ((p4 &&& (1 : Int32)) = (0 : Int32))))), .val (.int (B (¬ ((p4 &&& (2 : Int32)) = (0 : Int32))))), .val (.int v38_3), .val (.int v50_4), .unset, .unset] [(.int p4), (.int p3), (.int v50_4), (.int v38_3), (.int p0), (.int p3), (.ref b1), (.ref b1)])) (fun _ ks_ => XS.iload X1.here hx rfl (hb hby at_63) rfl  ks_) ?_
          refine go (u' := T1.setTop (mkF m 66 #[.val (.int p0), .val (.int p1), .val (.int p2), .val (.int p3), .val (.int p4), .val (.int (B (¬ ((p4 &&& (1 : Int32)) = (0 : Int32))))), .val (.int (B (¬ ((p4 &&& (2 : Int32)) = (0 : Int32))))), .val (.int v38_3), .val (.int v50_4), .unset, .unset] [(.int (p3 ^^^ p4)), (.int v50_4), (.int v38_3), (.int p0), (.int p3), (.ref b1), (.ref b1)])) (fun _ ks_ => XS.ixor X1.here hx rfl (hb hby at_65) rfl ks_) ?_
          refine go (u' := T1.setTop (mkF m 68 #[.val (.int p0), .val (.int p1), .val (.int p2), .val (.int p3), .val (.int p4), .val (.int (B (¬ ((p4 &&& (1 : Int32)) = (0 : Int32))))), .val (.int (B (¬ ((p4 &&& (2 : Int32)) = (0 : Int32))))), .val (.int v38_3), .val (.int v50_4), .unset, .unset] [(.int p4), (.int (p3 ^^^ p4)), (.int v50_4), (.int v38_3), (.int p0), (.int p3), (.ref b1), (.ref b1)])) (fun _ ks_ => XS.iload X1.here hx rfl (hb hby at_66) rfl  ks_) ?_
          obtain ⟨_, _, ⟨T8, L8, k8, n8⟩, -, X8, ⟨Lc8, hQ8, l8, y8, z8⟩, st8⟩ := X1.specialBack hx (y := (⟨"com/example/chartwright/chartwright/eval/SentenceScore", "<init>", "(IIIIII)V"⟩ : MethodName)) rfl hown (mvT hZ (ww hw 3 rfl)) (mvT hZ (ww hw 4 rfl)) (mvT hZ (ww hw 5 rfl)) (by decide) (backOf (W := 1) (rm1 l Z a0 hw [] b1 p3 p0 v38_3 v50_4 (p3 ^^^ p4) p4 h1 n0 Z1 g_b1 A1 Fa2 Fa3 Fa4 Fa5 Fa6 Fa7) hZ (ww hw 5 rfl) (ww hw 2 rfl) (by decide) (by decide)) (g := (mkF m 68 #[.val (.int p0), .val (.int p1), .val (.int p2), .val (.int p3), .val (.int p4), .val (.int (B (¬ ((p4 &&& (1 : Int32)) = (0 : Int32))))), .val (.int (B (¬ ((p4 &&& (2 : Int32)) = (0 : Int32))))), .val (.int v38_3), .val (.int v50_4), .unset, .unset] [(.int p4), (.int (p3 ^^^ p4)), (.int v50_4), (.int v38_3), (.int p0), (.int p3), (.ref b1), (.ref b1)])) rfl (by rw [hml]; rfl) (Steps.refl _) (a := b1) (argsL := [(.int p3), (.int p0), (.int v38_3), (.int v50_4), (.int (p3 ^^^ p4)), (.int p4)]) (rest := [(.ref b1)]) (lenOf pd__40_IIIIII_41_V rfl) rfl (by show 2 * 0 + _ ≤ _; exact Nat.le_of_eq rfl) (hb hby at_68) (fun _ _ => ⟨rfl, e1, (by decide : 1 + 0 ≤ _), (by decide : 6 + 0 ≤ _)⟩)
          dsimp only [Pt.U, Pt.locs, Pt.cells, Pt.slots] at X8 l8 y8 z8 st8 hQ8
          subst l8 y8 z8
          obtain ⟨rfl, N8q, Kq8, Fa9, Fa10, Fa11, Fa12, Fa13, Fa14, Fa15⟩ := hQ8
          have N8 := Fr.app N0 N8q
          have K8 : Keep h0 T8.heap [] := K1.trans Kq8 (allS (P := fun x => x ∈ [] ∨ h0.size ≤ x) (Or.inr sz_b1) all0)
          have Z8 : n0 ≤ T8.heap.size := Nat.le_trans Z1 Kq8.1
          have Fa16 : Exa Z T8.heap b1 "com/example/chartwright/chartwright/eval/SentenceScore" := A1.keep Kq8
          refine goT (u' := T8.setTop (mkF m 71 #[.val (.int p0), .val (.int p1), .val (.int p2), .val (.int p3), .val (.int p4), .val (.int (B (¬ ((p4 &&& (1 : Int32)) = (0 : Int32))))), .val (.int (B (¬ ((p4 &&& (2 : Int32)) = (0 : Int32))))), .val (.int v38_3), .val (.int v50_4), .unset, .unset] [(.ref b1)])) st8 ?_
          refine go (u' := T8.setTop (mkF m 73 #[.val (.int p0), .val (.int p1), .val (.int p2), .val (.int p3), .val (.int p4), .val (.int (B (¬ ((p4 &&& (1 : Int32)) = (0 : Int32))))), .val (.int (B (¬ ((p4 &&& (2 : Int32)) = (0 : Int32))))), .val (.int v38_3), .val (.int v50_4), .val (.ref b1), .unset] [])) (fun _ ks_ => XS.astore X8.here hx rfl (hb hby at_71) rfl rfl (l' := #[.val (.int p0), .val (.int p1), .val (.int p2), .val (.int p3), .val (.int p4), .val (.int (B (¬ ((p4 &&& (1 : Int32)) = (0 : Int32))))), .val (.int (B (¬ ((p4 &&& (2 : Int32)) = (0 : Int32))))), .val (.int v38_3), .val (.int v50_4), .val (.ref b1), .unset]) rfl ks_) ?_
          refine go (u' := T8.setTop (mkF m 74 #[.val (.int p0), .val (.int p1), .val (.int p2), .val (.int p3), .val (.int p4), .val (.int (B (¬ ((p4 &&& (1 : Int32)) = (0 : Int32))))), .val (.int (B (¬ ((p4 &&& (2 : Int32)) = (0 : Int32))))), .val (.int v38_3), .val (.int v50_4), .val (.ref b1), .unset] [(.int p0)])) (fun _ ks_ => XS.iloadN X8.here hx rfl (hb hby at_73) rfl  ks_) ?_
          refine go (u' := T8.setTop (mkF m 76 #[.val (.int p0), .val (.int p1), .val (.int p2), .val (.int p3), .val (.int p4), .val (.int (B (¬ ((p4 &&& (1 : Int32)) = (0 : Int32))))), .val (.int (B (¬ ((p4 &&& (2 : Int32)) = (0 : Int32))))), .val (.int v38_3), .val (.int v50_4), .val (.ref b1), .unset] [(.int v38_3), (.int p0)])) (fun _ ks_ => XS.iload X8.here hx rfl (hb hby at_74) rfl  ks_) ?_
          refine go (u' := T8.setTop (mkF m 77 #[.val (.int p0), .val (.int p1), .val (.int p2), .val (.int p3), .val (.int p4), .val (.int (B (¬ ((p4 &&& (1 : Int32)) = (0 : Int32))))), .val (.int (B (¬ ((p4 &&& (2 : Int32)) = (0 : Int32))))), .val (.int v38_3), .val (.int v50_4), .val (.ref b1), .unset] [(.int (p0 ^^^ v38_3))])) (fun _ ks_ => XS.ixor X8.here hx rfl (hb hby at_76) rfl ks_) ?_
          refine go (u' := T8.setTop (mkF m 78 #[.val (.int p0), .val (.int p1), .val (.int p2), .val (.int p3), .val (.int p4), .val (.int (B (¬ ((p4 &&& (1 : Int32)) = (0 : Int32))))), .val (.int (B (¬ ((p4 &&& (2 : Int32)) = (0 : Int32))))), .val (.int v38_3), .val (.int v50_4), .val (.ref b1), .unset] [(.int p0), (.int (p0 ^^^ v38_3))])) (fun _ ks_ => XS.iloadN X8.here hx rfl (hb hby at_77) rfl  ks_) ?_
          refine go (u' := T8.setTop (mkF m 80 #[.val (.int p0), .val (.int p1), .val (.int p2), .val (.int p3), .val (.int p4), .val (.int (B (¬ ((p4 &&& (1 : Int32)) = (0 : Int32))))), .val (.int (B (¬ ((p4 &&& (2 : Int32)) = (0 : Int32))))), .val (.int v38_3), .val (.int v50_4), .val (.ref b1), .unset] [(.int v50_4), (.int p0), (.int (p0 ^^^ v38_3))])) (fun _ ks_ => XS.iload X8.here hx rfl (hb hby at_78) rfl  ks_) ?_
          refine go (u' := T8.setTop (mkF m 81 #[.val (.int p0), .val (.int p1), .val (.int p2), .val (.int p3), .val (.int p4), .val (.int (B (¬ ((p4 &&& (1 : Int32)) = (0 : Int32))))), .val (.int (B (¬ ((p4 &&& (2 : Int32)) = (0 : Int32))))), .val (.int v38_3), .val (.int v50_4), .val (.ref b1), .unset] [(.int (p0 ^^^ v50_4)), (.int (p0 ^^^ v38_3))])) (fun _ ks_ => XS.ixor X8.here hx rfl (hb hby at_80) rfl ks_) ?_
          refine go (u' := T8.setTop (mkF m 82 #[.val (.int p0), .val (.int p1), .val (.int p2), .val (.int p3), .val (.int p4), .val (.int (B (¬ ((p4 &&& (1 : Int32)) = (0 : Int32))))), .val (.int (B (¬ ((p4 &&& (2 : Int32)) = (0 : Int32))))), .val (.int v38_3), .val (.int v50_4), .val (.ref b1), .unset] [(.int ((p0 ^^^ v38_3) ||| (p0 ^^^ v50_4)))])) (fun _ ks_ => XS.ior X8.here hx rfl (hb hby at_81) rfl ks_) ?_
          have J90_5 : ∀ v90_5 : Int32, v90_5 = (B (((p0 ^^^ v38_3) ||| (p0 ^^^ v50_4)) = (0 : Int32))) → Go p.tables e below G (T8.setTop (mkF m 90 #[.val (.int p0), .val (.int p1), .val (.int p2), .val (.int p3), .val (.int p4), .val (.int (B (¬ ((p4 &&& (1 : Int32)) = (0 : Int32))))), .val (.int (B (¬ ((p4 &&& (2 : Int32)) = (0 : Int32))))), .val (.int v38_3), .val (.int v50_4), .val (.ref b1), .unset] [(.int v90_5)])) := by
            intro v90_5 hv90_5
            subst hv90_5
            refine go (u' := T8.setTop (mkF m 92 #[.val (.int p0), .val (.int p1), .val (.int p2), .val (.int p3), .val (.int p4), .val (.int (B (¬ ((p4 &&& (1 : Int32)) = (0 : Int32))))), .val (.int (B (¬ ((p4 &&& (2 : Int32)) = (0 : Int32))))), .val (.int v38_3), .val (.int v50_4), .val (.ref b1), .val (.int (B (((p0 ^^^ v38_3) ||| (p0 ^^^ v50_4)) = (0 : Int32))))] [])) (fun _ ks_ => XS.istore X8.here hx rfl (hb hby at_90) rfl  (l' := #[.val (.int p0), .val (.int p1), .val (.int p2), .val (.int p3), .val (.int p4), .val (.int (B (¬ ((p4 &&& (1 : Int32)) = (0 : Int32))))), .val (.int (B (¬ ((p4 &&& (2 : Int32)) = (0 : Int32))))), .val (.int v38_3), .val (.int v50_4), .val (.ref b1), .val (.int (B (((p0 ^^^ v38_3) ||| (p0 ^^^ v50_4)) = (0 : Int32))))]) rfl ks_) ?_
            refine go (u' := T8.setTop (mkF m 94 #[.val (.int p0), .val (.int p1), .val (.int p2), .val (.int p3), .val (.int p4), .val (.int (B (¬ ((p4 &&& (1 : Int32)) = (0 : Int32))))), .val (.int (B (¬ ((p4 &&& (2 : Int32)) = (0 : Int32))))), .val (.int v38_3), .val (.int v50_4), .val (.ref b1), .val (.int (B (((p0 ^^^ v38_3) ||| (p0 ^^^ v50_4)) = (0 : Int32))))] [(.ref b1)])) (fun _ ks_ => XS.aload X8.here hx rfl (hb hby at_92) rfl rfl ks_) ?_
            obtain ⟨cq17, kq17, q17a, q17b, q17c⟩ := isOf hZ (rfl : T8.heap = _) Fa9
            obtain ⟨_, _, ⟨T17, L17, k17, n17⟩, -, X17, ⟨Lc17, hQ17, l17, y17, z17⟩, st17⟩ := X8.virtualBack hx (y := (⟨"com/example/chartwright/chartwright/eval/SentenceScore", "exact", "()Z"⟩ : MethodName)) (z := (⟨"com/example/chartwright/chartwright/eval/SentenceScore", "exact", "()Z"⟩ : MethodName)) hown (mvT hZ (ww hw 26 rfl)) (mvT hZ (ww hw 27 rfl)) (notFace_of_selects (args := #[]) (mvT hZ (ww hw 29 rfl))) (mvT hZ (ww hw 29 rfl)) (mvT hZ (ww hw 28 rfl)) (by decide) (backOf (W := 0) (rm4 l Z a0 hw [] b1 p0 v38_3 v50_4 T8.heap n0 Z8 Fa11 Fa12 Fa13) hZ (ww hw 30 rfl) (ww hw 2 rfl) (by decide) (by decide)) q17a q17c (g := (mkF m 94 #[.val (.int p0), .val (.int p1), .val (.int p2), .val (.int p3), .val (.int p4), .val (.int (B (¬ ((p4 &&& (1 : Int32)) = (0 : Int32))))), .val (.int (B (¬ ((p4 &&& (2 : Int32)) = (0 : Int32))))), .val (.int v38_3), .val (.int v50_4), .val (.ref b1), .val (.int (B (((p0 ^^^ v38_3) ||| (p0 ^^^ v50_4)) = (0 : Int32))))] [(.ref b1)])) rfl (by rw [hml]; rfl) (Steps.refl _) (argsL := []) (rest := []) (lenOf pd__40__41_Z rfl) rfl (by show 2 * 0 + _ ≤ _; exact Nat.le_of_eq rfl) (hb hby at_94) (fun _ _ => ⟨rfl, (rfl : T8.heap = _), (by decide : 1 + 0 ≤ _), (by decide : 6 + 0 ≤ _)⟩)
            dsimp only [Pt.U, Pt.locs, Pt.cells, Pt.slots] at X17 l17 y17 z17 st17 hQ17
            subst l17 y17 z17
            obtain ⟨rfl, N17q, eq17⟩ := hQ17
            have N17 := Fr.app N8 N17q
            refine goT (u' := T17.setTop (mkF m 97 #[.val (.int p0), .val (.int p1), .val (.int p2), .val (.int p3), .val (.int p4), .val (.int (B (¬ ((p4 &&& (1 : Int32)) = (0 : Int32))))), .val (.int (B (¬ ((p4 &&& (2 : Int32)) = (0 : Int32))))), .val (.int v38_3), .val (.int v50_4), .val (.ref b1), .val (.int (B (((p0 ^^^ v38_3) ||| (p0 ^^^ v50_4)) = (0 : Int32))))] [(.int (B ((p0 = v38_3) ∧ (p0 = v50_4))))])) st17 ?_
            refine go (u' := T17.setTop (mkF m 99 #[.val (.int p0), .val (.int p1), .val (.int p2), .val (.int p3), .val (.int p4), .val (.int (B (¬ ((p4 &&& (1 : Int32)) = (0 : Int32))))), .val (.int (B (¬ ((p4 &&& (2 : Int32)) = (0 : Int32))))), .val (.int v38_3), .val (.int v50_4), .val (.ref b1), .val (.int (B (((p0 ^^^ v38_3) ||| (p0 ^^^ v50_4)) = (0 : Int32))))] [(.int (B (((p0 ^^^ v38_3) ||| (p0 ^^^ v50_4)) = (0 : Int32)))), (.int (B ((p0 = v38_3) ∧ (p0 = v50_4))))])) (fun _ ks_ => XS.iload X17.here hx rfl (hb hby at_97) rfl  ks_) ?_
            refine go (u' := T17.setTop (mkF m 102 #[.val (.int p0), .val (.int p1), .val (.int p2), .val (.int p3), .val (.int p4), .val (.int (B (¬ ((p4 &&& (1 : Int32)) = (0 : Int32))))), .val (.int (B (¬ ((p4 &&& (2 : Int32)) = (0 : Int32))))), .val (.int v38_3), .val (.int v50_4), .val (.ref b1), .val (.int (B (((p0 ^^^ v38_3) ||| (p0 ^^^ v50_4)) = (0 : Int32))))] [])) (fun _ ks_ => XS.icmpNo X17.here hx rfl (hb hby at_99) rfl (teq (show (B ((p0 = v38_3) ∧ (p0 = v50_4))) = (B (((p0 ^^^ v38_3) ||| (p0 ^^^ v50_4)) = (0 : Int32))) from (B_iff (own_xx _ _ _)))).2 ks_) ?_
            refine go (u' := T17.setTop (mkF m 103 #[.val (.int p0), .val (.int p1), .val (.int p2), .val (.int p3), .val (.int p4), .val (.int (B (¬ ((p4 &&& (1 : Int32)) = (0 : Int32))))), .val (.int (B (¬ ((p4 &&& (2 : Int32)) = (0 : Int32))))), .val (.int v38_3), .val (.int v50_4), .val (.ref b1), .val (.int (B (((p0 ^^^ v38_3) ||| (p0 ^^^ v50_4)) = (0 : Int32))))] [(.int (1 : Int32))])) (fun _ ks_ => XS.iconst X17.here hx rfl (hb hby at_102) ks_) ?_
            refine go (u' := T17.setTop (mkF m 107 #[.val (.int p0), .val (.int p1), .val (.int p2), .val (.int p3), .val (.int p4), .val (.int (B (¬ ((p4 &&& (1 : Int32)) = (0 : Int32))))), .val (.int (B (¬ ((p4 &&& (2 : Int32)) = (0 : Int32))))), .val (.int v38_3), .val (.int v50_4), .val (.ref b1), .val (.int (B (((p0 ^^^ v38_3) ||| (p0 ^^^ v50_4)) = (0 : Int32))))] [(.int (1 : Int32))])) (fun _ ks_ => XS.goto X17.here hx rfl (pc0 := 103) (pc' := 107) rfl (hb hby at_103) (by decide) (by decide) ks_) ?_
            rw [hG]
            refine gN X17 hx hlk (t := .boolean) hret (by simp) rfl (hb hby at_107) ?_ (Nat.le_of_ble_eq_true rfl) (Nat.le_of_ble_eq_true rfl)
            show Q_rm0 Z p0 p1 p2 p3 p4 h0 n0 (some (.int (1 : Int32))) T17.heap _
            rw [eq17]
            exact ⟨rfl, N17⟩
          by_cases c82_1 : ((p0 ^^^ v38_3) ||| (p0 ^^^ v50_4)) = (0 : Int32)
          ·
            refine go (u' := T8.setTop (mkF m 85 #[.val (.int p0), .val (.int p1), .val (.int p2), .val (.int p3), .val (.int p4), .val (.int (B (¬ ((p4 &&& (1 : Int32)) = (0 : Int32))))), .val (.int (B (¬ ((p4 &&& (2 : Int32)) = (0 : Int32))))), .val (.int v38_3), .val (.int v50_4), .val (.ref b1), .unset] [])) (fun _ ks_ => XS.ifNo X8.here hx rfl (hb hby at_82) rfl ((if0 _ _).trans (teq c82_1).2) ks_) ?_
            refine go (u' := T8.setTop (mkF m 86 #[.val (.int p0), .val (.int p1), .val (.int p2), .val (.int p3), .val (.int p4), .val (.int (B (¬ ((p4 &&& (1 : Int32)) = (0 : Int32))))), .val (.int (B (¬ ((p4 &&& (2 : Int32)) = (0 : Int32))))), .val (.int v38_3), .val (.int v50_4), .val (.ref b1), .unset] [(.int (1 : Int32))])) (fun _ ks_ => XS.iconst X8.here hx rfl (hb hby at_85) ks_) ?_
            refine go (u' := T8.setTop (mkF m 90 #[.val (.int p0), .val (.int p1), .val (.int p2), .val (.int p3), .val (.int p4), .val (.int (B (¬ ((p4 &&& (1 : Int32)) = (0 : Int32))))), .val (.int (B (¬ ((p4 &&& (2 : Int32)) = (0 : Int32))))), .val (.int v38_3), .val (.int v50_4), .val (.ref b1), .unset] [(.int (1 : Int32))])) (fun _ ks_ => XS.goto X8.here hx rfl (pc0 := 86) (pc' := 90) rfl (hb hby at_86) (by decide) (by decide) ks_) ?_
            exact J90_5 _ (B1 c82_1)
          ·
            refine go (u' := T8.setTop (mkF m 89 #[.val (.int p0), .val (.int p1), .val (.int p2), .val (.int p3), .val (.int p4), .val (.int (B (¬ ((p4 &&& (1 : Int32)) = (0 : Int32))))), .val (.int (B (¬ ((p4 &&& (2 : Int32)) = (0 : Int32))))), .val (.int v38_3), .val (.int v50_4), .val (.ref b1), .unset] [])) (fun _ ks_ => XS.ifYes X8.here hx rfl (pc0 := 82) (pc' := 89) rfl (hb hby at_82) rfl ((if0 _ _).trans (feq c82_1).2) (by decide) (by decide) ks_) ?_
            refine go (u' := T8.setTop (mkF m 90 #[.val (.int p0), .val (.int p1), .val (.int p2), .val (.int p3), .val (.int p4), .val (.int (B (¬ ((p4 &&& (1 : Int32)) = (0 : Int32))))), .val (.int (B (¬ ((p4 &&& (2 : Int32)) = (0 : Int32))))), .val (.int v38_3), .val (.int v50_4), .val (.ref b1), .unset] [(.int (0 : Int32))])) (fun _ ks_ => XS.iconst X8.here hx rfl (hb hby at_89) ks_) ?_
            exact J90_5 _ (B0 c82_1)
        by_cases c42_2 : (¬ ((p4 &&& (2 : Int32)) = (0 : Int32)))
        ·
          refine go (u' := s₁.setTop (mkF m 45 #[.val (.int p0), .val (.int p1), .val (.int p2), .val (.int p3), .val (.int p4), .val (.int (B (¬ ((p4 &&& (1 : Int32)) = (0 : Int32))))), .val (.int (B (¬ ((p4 &&& (2 : Int32)) = (0 : Int32))))), .val (.int v38_3), .unset, .unset, .unset] [])) (fun _ ks_ => XS.ifNo X0.here hx rfl (hb hby at_42) rfl (bT c42_2).2 ks_) ?_
          refine go (u' := s₁.setTop (mkF m 46 #[.val (.int p0), .val (.int p1), .val (.int p2), .val (.int p3), .val (.int p4), .val (.int (B (¬ ((p4 &&& (1 : Int32)) = (0 : Int32))))), .val (.int (B (¬ ((p4 &&& (2 : Int32)) = (0 : Int32))))), .val (.int v38_3), .unset, .unset, .unset] [(.int p0)])) (fun _ ks_ => XS.iloadN X0.here hx rfl (hb hby at_45) rfl  ks_) ?_
          refine go (u' := s₁.setTop (mkF m 50 #[.val (.int p0), .val (.int p1), .val (.int p2), .val (.int p3), .val (.int p4), .val (.int (B (¬ ((p4 &&& (1 : Int32)) = (0 : Int32))))), .val (.int (B (¬ ((p4 &&& (2 : Int32)) = (0 : Int32))))), .val (.int v38_3), .unset, .unset, .unset] [(.int p0)])) (fun _ ks_ => XS.goto X0.here hx rfl (pc0 := 46) (pc' := 50) rfl (hb hby at_46) (by decide) (by decide) ks_) ?_
          exact J50_4 _ ((if_pos c42_2)).symm
        ·
          refine go (u' := s₁.setTop (mkF m 49 #[.val (.int p0), .val (.int p1), .val (.int p2), .val (.int p3), .val (.int p4), .val (.int (B (¬ ((p4 &&& (1 : Int32)) = (0 : Int32))))), .val (.int (B (¬ ((p4 &&& (2 : Int32)) = (0 : Int32))))), .val (.int v38_3), .unset, .unset, .unset] [])) (fun _ ks_ => XS.ifYes X0.here hx rfl (pc0 := 42) (pc' := 49) rfl (hb hby at_42) rfl (bF c42_2).2 (by decide) (by decide) ks_) ?_
          refine go (u' := s₁.setTop (mkF m 50 #[.val (.int p0), .val (.int p1), .val (.int p2), .val (.int p3), .val (.int p4), .val (.int (B (¬ ((p4 &&& (1 : Int32)) = (0 : Int32))))), .val (.int (B (¬ ((p4 &&& (2 : Int32)) = (0 : Int32))))), .val (.int v38_3), .unset, .unset, .unset] [(.int p2)])) (fun _ ks_ => XS.iloadN X0.here hx rfl (hb hby at_49) rfl  ks_) ?_
          exact J50_4 _ ((if_neg c42_2)).symm
      by_cases c30_3 : (¬ ((p4 &&& (1 : Int32)) = (0 : Int32)))
      ·
        refine go (u' := s₁.setTop (mkF m 33 #[.val (.int p0), .val (.int p1), .val (.int p2), .val (.int p3), .val (.int p4), .val (.int (B (¬ ((p4 &&& (1 : Int32)) = (0 : Int32))))), .val (.int (B (¬ ((p4 &&& (2 : Int32)) = (0 : Int32))))), .unset, .unset, .unset, .unset] [])) (fun _ ks_ => XS.ifNo X0.here hx rfl (hb hby at_30) rfl (bT c30_3).2 ks_) ?_
        refine go (u' := s₁.setTop (mkF m 34 #[.val (.int p0), .val (.int p1), .val (.int p2), .val (.int p3), .val (.int p4), .val (.int (B (¬ ((p4 &&& (1 : Int32)) = (0 : Int32))))), .val (.int (B (¬ ((p4 &&& (2 : Int32)) = (0 : Int32))))), .unset, .unset, .unset, .unset] [(.int p0)])) (fun _ ks_ => XS.iloadN X0.here hx rfl (hb hby at_33) rfl  ks_) ?_
        refine go (u' := s₁.setTop (mkF m 38 #[.val (.int p0), .val (.int p1), .val (.int p2), .val (.int p3), .val (.int p4), .val (.int (B (¬ ((p4 &&& (1 : Int32)) = (0 : Int32))))), .val (.int (B (¬ ((p4 &&& (2 : Int32)) = (0 : Int32))))), .unset, .unset, .unset, .unset] [(.int p0)])) (fun _ ks_ => XS.goto X0.here hx rfl (pc0 := 34) (pc' := 38) rfl (hb hby at_34) (by decide) (by decide) ks_) ?_
        exact J38_3 _ ((if_pos c30_3)).symm
      ·
        refine go (u' := s₁.setTop (mkF m 37 #[.val (.int p0), .val (.int p1), .val (.int p2), .val (.int p3), .val (.int p4), .val (.int (B (¬ ((p4 &&& (1 : Int32)) = (0 : Int32))))), .val (.int (B (¬ ((p4 &&& (2 : Int32)) = (0 : Int32))))), .unset, .unset, .unset, .unset] [])) (fun _ ks_ => XS.ifYes X0.here hx rfl (pc0 := 30) (pc' := 37) rfl (hb hby at_30) rfl (bF c30_3).2 (by decide) (by decide) ks_) ?_
        refine go (u' := s₁.setTop (mkF m 38 #[.val (.int p0), .val (.int p1), .val (.int p2), .val (.int p3), .val (.int p4), .val (.int (B (¬ ((p4 &&& (1 : Int32)) = (0 : Int32))))), .val (.int (B (¬ ((p4 &&& (2 : Int32)) = (0 : Int32))))), .unset, .unset, .unset, .unset] [(.int p1)])) (fun _ ks_ => XS.iloadN X0.here hx rfl (hb hby at_37) rfl  ks_) ?_
        exact J38_3 _ ((if_neg c30_3)).symm
    by_cases c18_4 : (p4 &&& (2 : Int32)) = (0 : Int32)
    ·
      refine go (u' := s₁.setTop (mkF m 25 #[.val (.int p0), .val (.int p1), .val (.int p2), .val (.int p3), .val (.int p4), .val (.int (B (¬ ((p4 &&& (1 : Int32)) = (0 : Int32))))), .unset, .unset, .unset, .unset, .unset] [])) (fun _ ks_ => XS.ifYes X0.here hx rfl (pc0 := 18) (pc' := 25) rfl (hb hby at_18) rfl ((if0 _ _).trans (teq c18_4).1) (by decide) (by decide) ks_) ?_
      refine go (u' := s₁.setTop (mkF m 26 #[.val (.int p0), .val (.int p1), .val (.int p2), .val (.int p3), .val (.int p4), .val (.int (B (¬ ((p4 &&& (1 : Int32)) = (0 : Int32))))), .unset, .unset, .unset, .unset, .unset] [(.int (0 : Int32))])) (fun _ ks_ => XS.iconst X0.here hx rfl (hb hby at_25) ks_) ?_
      exact J26_2 _ (B0 (fun q => q c18_4))
    ·
      refine go (u' := s₁.setTop (mkF m 21 #[.val (.int p0), .val (.int p1), .val (.int p2), .val (.int p3), .val (.int p4), .val (.int (B (¬ ((p4 &&& (1 : Int32)) = (0 : Int32))))), .unset, .unset, .unset, .unset, .unset] [])) (fun _ ks_ => XS.ifNo X0.here hx rfl (hb hby at_18) rfl ((if0 _ _).trans (feq c18_4).1) ks_) ?_
      refine go (u' := s₁.setTop (mkF m 22 #[.val (.int p0), .val (.int p1), .val (.int p2), .val (.int p3), .val (.int p4), .val (.int (B (¬ ((p4 &&& (1 : Int32)) = (0 : Int32))))), .unset, .unset, .unset, .unset, .unset] [(.int (1 : Int32))])) (fun _ ks_ => XS.iconst X0.here hx rfl (hb hby at_21) ks_) ?_
      refine go (u' := s₁.setTop (mkF m 26 #[.val (.int p0), .val (.int p1), .val (.int p2), .val (.int p3), .val (.int p4), .val (.int (B (¬ ((p4 &&& (1 : Int32)) = (0 : Int32))))), .unset, .unset, .unset, .unset, .unset] [(.int (1 : Int32))])) (fun _ ks_ => XS.goto X0.here hx rfl (pc0 := 22) (pc' := 26) rfl (hb hby at_22) (by decide) (by decide) ks_) ?_
      exact J26_2 _ (B1 c18_4)
  by_cases c4_5 : (p4 &&& (1 : Int32)) = (0 : Int32)
  ·
    refine go (u' := s₁.setTop (mkF m 11 #[.val (.int p0), .val (.int p1), .val (.int p2), .val (.int p3), .val (.int p4), .unset, .unset, .unset, .unset, .unset, .unset] [])) (fun _ ks_ => XS.ifYes X0.here hx rfl (pc0 := 4) (pc' := 11) rfl (hb hby at_4) rfl ((if0 _ _).trans (teq c4_5).1) (by decide) (by decide) ks_) ?_
    refine go (u' := s₁.setTop (mkF m 12 #[.val (.int p0), .val (.int p1), .val (.int p2), .val (.int p3), .val (.int p4), .unset, .unset, .unset, .unset, .unset, .unset] [(.int (0 : Int32))])) (fun _ ks_ => XS.iconst X0.here hx rfl (hb hby at_11) ks_) ?_
    exact J12_1 _ (B0 (fun q => q c4_5))
  ·
    refine go (u' := s₁.setTop (mkF m 7 #[.val (.int p0), .val (.int p1), .val (.int p2), .val (.int p3), .val (.int p4), .unset, .unset, .unset, .unset, .unset, .unset] [])) (fun _ ks_ => XS.ifNo X0.here hx rfl (hb hby at_4) rfl ((if0 _ _).trans (feq c4_5).1) ks_) ?_
    refine go (u' := s₁.setTop (mkF m 8 #[.val (.int p0), .val (.int p1), .val (.int p2), .val (.int p3), .val (.int p4), .unset, .unset, .unset, .unset, .unset, .unset] [(.int (1 : Int32))])) (fun _ ks_ => XS.iconst X0.here hx rfl (hb hby at_7) ks_) ?_
    refine go (u' := s₁.setTop (mkF m 12 #[.val (.int p0), .val (.int p1), .val (.int p2), .val (.int p3), .val (.int p4), .unset, .unset, .unset, .unset, .unset, .unset] [(.int (1 : Int32))])) (fun _ ks_ => XS.goto X0.here hx rfl (pc0 := 8) (pc' := 12) rfl (hb hby at_8) (by decide) (by decide) ks_) ?_
    exact J12_1 _ (B1 c4_5)
set_option maxRecDepth 65536 in
set_option maxHeartbeats 40000000 in
theorem comes_1 {Post : Tables → Env → Array Value → State → Outcome → State → Prop} (hpost : ∀ tb e args s v u, (limb_1_1.after args s (.returned v) u = true ∧ limb_1_2.after args s (.returned v) u = true ∧ True) → FrameEnd s (.returned v) u (Jvm.fieldLocs frame_1_writes args s ++ Jvm.arrayLocs frame_1_arrays args s ++ Jvm.staticLocs frame_1_statics s) 16 128 → Post tb e args s (.returned v) u) :
    ArmFor flags0 classFile x code maxLocals ret World_1 tables_1 room_1 Calls_1 rest_1 Pre_1 Post := by
  intro l hfl _ _ p e ha hc hk s m args below hf hA hF happ hP
  obtain ⟨hcalls, hrest, hpre⟩ := hP
  obtain ⟨-, -, -, hnamed, -, -, -, hat⟩ := (Spec.applies_iff hf).mp happ
  obtain ⟨hg, hn⟩ := and_e (Cond.before_iff.mp (show (Jvm.Cond.and given_1 narrow_1).before args s = true from hpre))
  obtain ⟨hcount, r0⟩ := and_e hg
  obtain ⟨a0, r1⟩ := and_e r0
  obtain ⟨a1, r2⟩ := and_e r1
  obtain ⟨a2, r3⟩ := and_e r2
  obtain ⟨a3, r4⟩ := and_e r3
  obtain ⟨w0, w1, w2, w3, w4, rfl⟩ : ∃ w0 w1 w2 w3 w4 : Value, args = #[w0, w1, w2, w3, w4] := by
    have hs : args.size = 5 := by simpa [Cond.value, given_1] using hcount
    obtain ⟨L⟩ := args
    match L, hs with
    | [w0, w1, w2, w3, w4], _ => exact ⟨w0, w1, w2, w3, w4, rfl⟩
  have hw := fun d (hd : d ∈ tables_1) => atoms_spec (ws := Jvm.Cond.code x code maxLocals ret :: tables_1) hat d (List.mem_cons_of_mem _ hd)
  have hfit : Fit s := fun {y c} hc i hi => by
    obtain ⟨ha, rfl⟩ := Array.getElem?_eq_some_iff.mp hc
    have q := List.all_eq_true.mp ((Array.all_eq_true_iff_forall_mem.mp hF) _ (Array.getElem_mem ha)) i (List.mem_range.mpr hi)
    simpa [Array.getElem?_eq_getElem hi] using q
  obtain ⟨x0, e0⟩ := is_v a0
  obtain rfl : w0 = (.int x0) := Option.some.inj e0
  obtain ⟨x1, e1⟩ := is_v a1
  obtain rfl : w1 = (.int x1) := Option.some.inj e1
  obtain ⟨x2, e2⟩ := is_v a2
  obtain rfl : w2 = (.int x2) := Option.some.inj e2
  obtain ⟨x3, e3⟩ := is_v a3
  obtain rfl : w3 = (.int x3) := Option.some.inj e3
  obtain ⟨x4, e4⟩ := is_v r4
  obtain rfl : w4 = (.int x4) := Option.some.inj e4
  obtain ⟨n, o, h1, h2, h3, _, L, rfl, ⟨rfl, N⟩, hq⟩ := rm0 l s _ hw tables_1 x0 x1 x2 x3 x4 s.heap s.heap.size (Nat.le_refl _)  p e ha hc hk s m _ below hf ((Spec.applies_iff_loose hf).mp happ).1 ⟨rfl, State.Warmed39.refl s, rfl⟩ trivial
  refine ⟨n, _, h1, h2, h3, hpost _ _ _ _ _ _ ⟨Cond.after_iff.mpr rfl, Cond.after_iff.mpr (eq_i res_at (Term.int_eval (1)) rfl), trivial⟩ ⟨hq.1, hq.2.1, (hq.2.2.sift fun y hy => Or.inr (N y hy)).mono (by decide) (by decide)⟩⟩
theorem main_1_1 : Claimed_1_1 := comes_1 fun _ _ _ _ _ _ h hF => ⟨h.1, hF⟩
theorem main_1_2 : Claimed_1_2 := comes_1 fun _ _ _ _ _ _ h hF => ⟨h.2.1, hF⟩
end Jvm.Pilot.@@N@@
namespace Jvm.Pilot.@@N@@
open Jvm Jvm.ClassFile Sem Op Lib Jvm.Free Jvm.Stand Jvm.Pilot.@@N@@.Jvm.D
/-! MADE BY PROGRAM (witnessworld.py) out of the Statement's table words and the real class files: 10 classes; the members and pool entries that the words name. The judged class is class 1, her method 1. -/
namespace start1
open Jvm.ClassFile
def u (s : String) : CpInfo := .utf8 (stringToUtf16 s)
/-- a pool by its gaps: so many unusable entries, then the entry; so many at the end -/
def gap : Nat → List CpInfo → List CpInfo
  | 0, r => r
  | n + 1, r => .unusable :: gap n r
def poolList (es : List (Nat × CpInfo)) (last : Nat) : List CpInfo := es.foldr (fun e r => gap e.1 (e.2 :: r)) (gap last [])
def pool (es : List (Nat × CpInfo)) (last : Nat) : Array CpInfo := ⟨poolList es last⟩
def fileOf (pool : Array CpInfo) (this : Nat) (attrs : Array Attribute := #[]) (ms : Array MethodInfo := #[]) (fl : Nat := 33) (sup : Nat := 0) (ifs : Array Nat := #[]) (fds : Array FieldInfo := #[]) : ClassFile where
  minorVersion := 0
  majorVersion := 65
  constantPool := pool
  accessFlags := fl
  thisClass := this
  superClass := sup
  interfaces := ifs
  fields := fds
  methods := ms
  attributes := attrs
def plain (name : String) (sup : Option ClassId) : Class where
  name := name
  kind := .ordinary
  loader := none
  accessFlags := 33
  super := sup
  interfaces := #[]
  cf := none
  fields := #[]
  methods := #[]
  instanceTypes := #[]
  staticTypes := #[]
  resolved := #[]
  callSites := []
  init := .initialized
  statics := none
  mirror := none

def pool0 : Array CpInfo := pool [(5, u "<init>"), (0, u "()V"), (1, .class_ 10), (1, u "java/lang/Object")] 113

def k0c0 : Code := { maxStack := 0, maxLocals := 1, code := object_method_1_code, exceptionTable := #[], attributes := #[] }
def k0m0 : Method := { name := "<init>", desc := "()V", sig := { parameters := [], returnType := none }, accessFlags := 1, code := some k0c0 }
/-- java/lang/Object -/
def k0 : Class := { plain "java/lang/Object" none with
  accessFlags := 33
  interfaces := #[]
  cf := some (fileOf pool0 8 #[] #[{ accessFlags := 1, nameIndex := 5, descriptorIndex := 6, attributes := #[] }] 33 0 #[] #[])
  fields := #[]
  methods := #[k0m0]
  instanceTypes := #[]
  staticTypes := #[]
  resolved := Array.replicate 124 none
  statics := none }

def pool1 : Array CpInfo := pool [(2, .class_ 4), (1, u "java/lang/Object"), (0, u "<init>"), (0, u "()V"), (0, .class_ 8), (0, u "com/example/chartwright/chartwright/eval/SentenceScore"), (0, .methodref 7 10), (0, .nameAndType 5 11), (0, u "(IIIIII)V"), (0, .methodref 7 13), (0, .nameAndType 14 15), (0, u "exact"), (0, u "()Z"), (0, .class_ 17), (0, u "com/example/chartwright/chartwright/eval/SentenceScoreExactPinLaw"), (2, u "law"), (0, u "(IIIII)Z")] 3

def k1m0 : Method := { name := "<init>", desc := "()V", sig := { parameters := [], returnType := none }, accessFlags := 2, code := none }
def k1c1 : Code := { maxStack := 8, maxLocals := 11, code := code, exceptionTable := #[], attributes := #[] }
def k1m1 : Method := { name := "law", desc := "(IIIII)Z", sig := { parameters := [.int, .int, .int, .int, .int], returnType := some .boolean }, accessFlags := 9, code := some k1c1 }
/-- com/example/chartwright/chartwright/eval/SentenceScoreExactPinLaw -/
def k1 : Class := { plain "com/example/chartwright/chartwright/eval/SentenceScoreExactPinLaw" (some 0) with
  accessFlags := 49
  interfaces := #[]
  cf := some (fileOf pool1 16 #[] #[{ accessFlags := 2, nameIndex := 5, descriptorIndex := 6, attributes := #[] }, { accessFlags := 9, nameIndex := 20, descriptorIndex := 21, attributes := #[] }] 49 2 #[] #[])
  fields := #[]
  methods := #[k1m0, k1m1]
  instanceTypes := #[]
  staticTypes := #[]
  resolved := Array.replicate 25 none
  statics := none }

def pool2 : Array CpInfo := pool [(1, .methodref 2 3), (0, .class_ 4), (0, .nameAndType 5 6), (0, u "java/lang/Object"), (0, u "<init>"), (0, u "()V"), (0, .class_ 8), (0, u "java/lang/Record")] 13

def k2c0 : Code := { maxStack := 1, maxLocals := 1, code := jdk_30_method_1_code, exceptionTable := #[], attributes := #[] }
def k2m0 : Method := { name := "<init>", desc := "()V", sig := { parameters := [], returnType := none }, accessFlags := 4, code := some k2c0 }
/-- java/lang/Record -/
def k2 : Class := { plain "java/lang/Record" (some 0) with
  accessFlags := 1057
  interfaces := #[]
  cf := some (fileOf pool2 7 #[] #[{ accessFlags := 4, nameIndex := 5, descriptorIndex := 6, attributes := #[] }] 1057 2 #[] #[])
  fields := #[]
  methods := #[k2m0]
  instanceTypes := #[]
  staticTypes := #[]
  resolved := Array.replicate 22 none
  statics := none }

def pool3 : Array CpInfo := pool [(1, .methodref 2 3), (0, .class_ 4), (0, .nameAndType 5 6), (0, u "java/lang/Record"), (0, u "<init>"), (0, u "()V"), (0, .fieldref 8 9), (0, .class_ 10), (0, .nameAndType 11 12), (0, u "com/example/chartwright/chartwright/eval/SentenceScore"), (0, u "length"), (0, u "I"), (0, .fieldref 8 14), (0, .nameAndType 15 12), (0, u "matched"), (0, .fieldref 8 17), (0, .nameAndType 18 12), (0, u "gold"), (0, .fieldref 8 20), (0, .nameAndType 21 12), (0, u "candidate"), (0, .fieldref 8 23), (0, .nameAndType 24 12), (0, u "words"), (0, .fieldref 8 26), (0, .nameAndType 27 12), (0, u "correctTags"), (0, .class_ 29), (0, u "com/example/chartwright/chartwright/eval/SentenceScore$Reading"), (23, u "DELETED_TAGS"), (0, u "Ljava/util/Set;"), (40, u "()Z"), (37, u "(IIIIII)V"), (59, u "EQUAL_LABELS"), (0, u "Ljava/util/Map;"), (13, u "exact"), (6, .class_ 216), (0, u "com/example/chartwright/chartwright/eval/SentenceScore$Bracket")] 48

def k3c0 : Code := { maxStack := 2, maxLocals := 7, code := prog_18_method_1_code, exceptionTable := #[], attributes := #[] }
def k3m0 : Method := { name := "<init>", desc := "(IIIIII)V", sig := { parameters := [.int, .int, .int, .int, .int, .int], returnType := none }, accessFlags := 1, code := some k3c0 }
def k3c1 : Code := { maxStack := 2, maxLocals := 1, code := prog_18_method_3_code, exceptionTable := #[], attributes := #[] }
def k3m1 : Method := { name := "exact", desc := "()Z", sig := { parameters := [], returnType := some .boolean }, accessFlags := 1, code := some k3c1 }
/-- com/example/chartwright/chartwright/eval/SentenceScore -/
def k3 : Class := { plain "com/example/chartwright/chartwright/eval/SentenceScore" (some 2) with
  accessFlags := 49
  interfaces := #[]
  cf := some (fileOf pool3 8 #[.nestMembers #[28, 215]] #[{ accessFlags := 1, nameIndex := 5, descriptorIndex := 133, attributes := #[] }, { accessFlags := 1, nameIndex := 208, descriptorIndex := 95, attributes := #[] }] 49 2 #[] #[{ accessFlags := 18, nameIndex := 11, descriptorIndex := 12, attributes := #[] }, { accessFlags := 18, nameIndex := 15, descriptorIndex := 12, attributes := #[] }, { accessFlags := 18, nameIndex := 18, descriptorIndex := 12, attributes := #[] }, { accessFlags := 18, nameIndex := 21, descriptorIndex := 12, attributes := #[] }, { accessFlags := 18, nameIndex := 24, descriptorIndex := 12, attributes := #[] }, { accessFlags := 18, nameIndex := 27, descriptorIndex := 12, attributes := #[] }, { accessFlags := 25, nameIndex := 53, descriptorIndex := 54, attributes := #[] }, { accessFlags := 26, nameIndex := 193, descriptorIndex := 194, attributes := #[] }])
  fields := #[{ name := "length", type := .int, accessFlags := 18, slot := 0, constantValue := 0 }, { name := "matched", type := .int, accessFlags := 18, slot := 1, constantValue := 0 }, { name := "gold", type := .int, accessFlags := 18, slot := 2, constantValue := 0 }, { name := "candidate", type := .int, accessFlags := 18, slot := 3, constantValue := 0 }, { name := "words", type := .int, accessFlags := 18, slot := 4, constantValue := 0 }, { name := "correctTags", type := .int, accessFlags := 18, slot := 5, constantValue := 0 }, { name := "DELETED_TAGS", type := (.object "java/util/Set"), accessFlags := 25, slot := 0, constantValue := 0 }, { name := "EQUAL_LABELS", type := (.object "java/util/Map"), accessFlags := 26, slot := 1, constantValue := 0 }]
  methods := #[k3m0, k3m1]
  instanceTypes := #[.int, .int, .int, .int, .int, .int]
  staticTypes := #[(.object "java/util/Set"), (.object "java/util/Map")]
  resolved := Array.replicate 265 none
  statics := none }

def pool4 : Array CpInfo := pool [(1, u "java/lang/Cloneable"), (0, .class_ 1), (0, u "java/lang/Object"), (0, .class_ 3)] 3

/-- java/lang/Cloneable -/
def k4 : Class := { plain "java/lang/Cloneable" (some 0) with
  accessFlags := 1537
  interfaces := #[]
  cf := some (fileOf pool4 2 #[] #[] 1537 4 #[] #[])
  fields := #[]
  methods := #[]
  instanceTypes := #[]
  staticTypes := #[]
  resolved := Array.replicate 8 none
  statics := none }

def pool5 : Array CpInfo := pool [(1, u "java/io/Serializable"), (0, .class_ 1), (0, u "java/lang/Object"), (0, .class_ 3)] 3

/-- java/io/Serializable -/
def k5 : Class := { plain "java/io/Serializable" (some 0) with
  accessFlags := 1537
  interfaces := #[]
  cf := some (fileOf pool5 2 #[] #[] 1537 4 #[] #[])
  fields := #[]
  methods := #[]
  instanceTypes := #[]
  staticTypes := #[]
  resolved := Array.replicate 8 none
  statics := none }

/-- the primitive byte -/
def k6 : Class := { plain "byte" none with kind := .primitive 'B', accessFlags := 0x411 }
/-- [B -/
def k7 : Class := { plain "[B" (some 0) with kind := .array 6 .byte, interfaces := #[4, 5], accessFlags := 1041 }

/-- the primitive int -/
def k8 : Class := { plain "int" none with kind := .primitive 'I', accessFlags := 0x411 }
/-- [I -/
def k9 : Class := { plain "[I" (some 0) with kind := .array 8 .int, interfaces := #[4, 5], accessFlags := 1041 }

def heap : Heap := #[]
def classes : Array Class := #[k0, k1, k2, k3, k4, k5, k6, k7, k8, k9]
def interned : List (Array UInt16 × Addr) := []
def slotsUsed : Nat := 0
def theMethod : MethodId := ⟨1, 1⟩
def args0 : Array Value := #[.int 1, .int 5, .int 3, .int 2, .int 1]
def aboutOver (below : List Frame) : State where
  vm := { classes := classes, interned := interned.toArray }
  heap := heap
  slotsUsed := slotsUsed
  threads := #[{ frames := .invoking theMethod args0 :: below }]
def below0 : List Frame := [.native { method := ⟨0, 0⟩, args := #[] }]
def about1 : State := aboutOver below0
def p0 : Program := .bare "" "" ""
def e0 : Env := launch0.env 0 0 0
theorem w_frames : about1.frames = Frame.invoking theMethod args0 :: below0 := rfl
set_option maxRecDepth 65536 in
theorem w_args : argsFit about1.vm theMethod args0 = true := by decide +kernel
set_option maxRecDepth 65536 in
theorem w_heap : heapFits about1 = true := by decide +kernel
set_option maxRecDepth 65536 in
theorem w_runnable : about1.curStatus? = some .runnable := by decide +kernel
set_option maxRecDepth 65536 in
theorem w_alone : about1.alone = true := by decide +kernel
set_option maxRecDepth 65536 in
theorem w_named : about1.methodNamed? x = some theMethod := by decide +kernel
set_option maxRecDepth 65536 in
theorem w_hears : about1.hears theMethod below0 = true := by decide +kernel
set_option maxRecDepth 65536 in
theorem w_ripe : about1.ripe theMethod args0 below0 = true := by decide +kernel
theorem w_running : about1.status = .running := rfl
set_option maxRecDepth 65536 in
theorem w_room : about1.hasRoom e0.platform room_1 = true :=
  launch0.hasRoom_least _ room_1 (by decide +kernel) (by decide +kernel) (by decide +kernel) (by decide +kernel) (by decide +kernel) (by decide +kernel)
theorem allAtoms_all (ts : List Jvm.Cond) (a : Array Jvm.Value) (st : Jvm.State) : (allAtoms ts).before a st = ts.all (fun c => c.before a st) := by
  induction ts with
  | nil => rfl
  | cons c t ih =>
    show (Jvm.Cond.and c (allAtoms t)).before a st = _
    rw [Jvm.Cond.before_and, ih, List.all_cons]
def words1 : List Jvm.Cond := Jvm.Cond.code x code maxLocals ret :: tables_1
/-- a 'code' word, met by the world's own term for the bytes: nothing is compared byte by byte -/
theorem code_word {y : MethodName} {bytes : ByteArray} {mx : Nat} {rt : Option FieldType} {a : Array Value} {s : State} {m : MethodId} {meth : Method} {c : Code} (h1 : s.methodNamed? y = some m) (h2 : s.vm.method? m = some meth) (h3 : meth.code = some c) (h4 : c.code = bytes)
    (h5 : (c.maxLocals == mx && c.exceptionTable.isEmpty && decide (c.maxStack ≤ mostOperands) && decide (meth.sig.returnType = rt) && !meth.locks && decide (parseMethodDescriptor y.desc = some meth.sig)) = true) : (Jvm.Cond.code y bytes mx rt).before a s = true := by
  simp only [Bool.and_eq_true, beq_iff_eq, Bool.not_eq_true', decide_eq_true_eq] at h5
  obtain ⟨⟨⟨⟨⟨g1, g2⟩, g3⟩, g4⟩, g5⟩, g6⟩ := h5
  simp [Cond.before, Cond.holds, Cond.value, h1, h2, h3, h4, g1, g2, g3, g4, g5, g6]
def isCode : Jvm.Cond → Bool
  | .code _ _ _ _ => true
  | _ => false
theorem all_split {L : List Jvm.Cond} {P : Jvm.Cond → Bool} (h1 : L.all (fun c => isCode c || P c) = true) (h2 : ∀ c ∈ L.filter isCode, P c = true) : L.all P = true := by
  refine List.all_eq_true.mpr fun c hc => ?_
  have h := List.all_eq_true.mp h1 c hc
  rcases Bool.eq_false_or_eq_true (isCode c) with hi | hi
  · exact h2 c (List.mem_filter.mpr ⟨hc, hi⟩)
  · simpa [hi] using h
set_option maxRecDepth 65536 in
theorem w_c0 : (Jvm.Cond.code x code maxLocals ret).before args0 about1 = true := code_word (m := ⟨1, 1⟩) (meth := k1m1) (c := k1c1) (by decide +kernel) rfl rfl rfl (by decide +kernel)
set_option maxRecDepth 65536 in
theorem w_c1 : (Jvm.Cond.code ({ cls := "com/example/chartwright/chartwright/eval/SentenceScore", name := "<init>", desc := "(IIIIII)V" } : Jvm.MethodName) prog_18_method_1_code (7 : Nat) (Option.none : Option Jvm.ClassFile.FieldType)).before args0 about1 = true := code_word (m := ⟨3, 0⟩) (meth := k3m0) (c := k3c0) (by decide +kernel) rfl rfl rfl (by decide +kernel)
set_option maxRecDepth 65536 in
theorem w_c2 : (Jvm.Cond.code ({ cls := "java/lang/Record", name := "<init>", desc := "()V" } : Jvm.MethodName) jdk_30_method_1_code (1 : Nat) (Option.none : Option Jvm.ClassFile.FieldType)).before args0 about1 = true := code_word (m := ⟨2, 0⟩) (meth := k2m0) (c := k2c0) (by decide +kernel) rfl rfl rfl (by decide +kernel)
set_option maxRecDepth 65536 in
theorem w_c3 : (Jvm.Cond.code ({ cls := "java/lang/Object", name := "<init>", desc := "()V" } : Jvm.MethodName) object_method_1_code (1 : Nat) (Option.none : Option Jvm.ClassFile.FieldType)).before args0 about1 = true := code_word (m := ⟨0, 0⟩) (meth := k0m0) (c := k0c0) (by decide +kernel) rfl rfl rfl (by decide +kernel)
set_option maxRecDepth 65536 in
theorem w_c4 : (Jvm.Cond.code ({ cls := "com/example/chartwright/chartwright/eval/SentenceScore", name := "exact", desc := "()Z" } : Jvm.MethodName) prog_18_method_3_code (1 : Nat) (Option.some Jvm.ClassFile.FieldType.boolean)).before args0 about1 = true := code_word (m := ⟨3, 1⟩) (meth := k3m1) (c := k3c1) (by decide +kernel) rfl rfl rfl (by decide +kernel)
def codes1 : List Jvm.Cond := [Jvm.Cond.code x code maxLocals ret, Jvm.Cond.code ({ cls := "com/example/chartwright/chartwright/eval/SentenceScore", name := "<init>", desc := "(IIIIII)V" } : Jvm.MethodName) prog_18_method_1_code (7 : Nat) (Option.none : Option Jvm.ClassFile.FieldType), Jvm.Cond.code ({ cls := "java/lang/Record", name := "<init>", desc := "()V" } : Jvm.MethodName) jdk_30_method_1_code (1 : Nat) (Option.none : Option Jvm.ClassFile.FieldType), Jvm.Cond.code ({ cls := "java/lang/Object", name := "<init>", desc := "()V" } : Jvm.MethodName) object_method_1_code (1 : Nat) (Option.none : Option Jvm.ClassFile.FieldType), Jvm.Cond.code ({ cls := "com/example/chartwright/chartwright/eval/SentenceScore", name := "exact", desc := "()Z" } : Jvm.MethodName) prog_18_method_3_code (1 : Nat) (Option.some Jvm.ClassFile.FieldType.boolean)]
set_option maxRecDepth 65536 in
theorem codes_eq : words1.filter isCode = codes1 := rfl
theorem w_codes : ∀ c ∈ words1.filter isCode, c.before args0 about1 = true := by
  rw [codes_eq]
  intro c hc
  simp only [codes1, List.mem_cons, List.not_mem_nil, or_false] at hc
  rcases hc with rfl | rfl | rfl | rfl | rfl
  · exact w_c0
  · exact w_c1
  · exact w_c2
  · exact w_c3
  · exact w_c4
set_option maxRecDepth 65536 in
theorem w_t1 : (words1.take 24).all (fun c => isCode c || c.before args0 about1) = true := by decide +kernel
set_option maxRecDepth 65536 in
theorem w_t2 : (words1.drop 24).all (fun c => isCode c || c.before args0 about1) = true := by decide +kernel
theorem w_tables : (allAtoms (Jvm.Cond.code x code maxLocals ret :: tables_1)).before args0 about1 = true := by
  rw [allAtoms_all]
  show words1.all (fun c => c.before args0 about1) = true
  refine all_split ?_ w_codes
  rw [← List.take_append_drop 24 words1, List.all_append, w_t1, w_t2]
  rfl
set_option maxRecDepth 65536 in
theorem w_case : (Jvm.Cond.and given_1 narrow_1).before args0 about1 = true := by decide +kernel
theorem w_applies : (headSpec (Jvm.Cond.code x code maxLocals ret :: tables_1) room_1).applies x e0.platform about1 = true :=
  (Spec.applies_iff w_frames).mpr ⟨w_running, w_runnable, w_alone, w_named, w_hears, w_ripe, w_room, w_tables⟩
theorem atStart : AtStart classFile x code maxLocals ret World_1 tables_1 room_1 Calls_1 rest_1 Pre_1 launch0 p0 e0 about1 theMethod args0 below0 :=
  ⟨lists_1, trivial, launch0.admits_env _ _ _, launch0.least_env, fairChoices_fair.cas, fairChoices_fair.clock, w_frames, w_args, w_heap, w_applies, trivial, trivial, w_case⟩
end start1
theorem witness_1 : WitnessClaimed_1 := ⟨start1.p0, start1.e0, start1.about1, start1.theMethod, start1.args0, start1.below0, start1.atStart⟩
end Jvm.Pilot.@@N@@
