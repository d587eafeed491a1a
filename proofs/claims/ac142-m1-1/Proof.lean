import JvmDerived
import JvmDerived.Pilot.@@N@@Statement
import JvmDerived.Pilot.@@N@@Code
set_option linter.unusedVariables false
set_option linter.unusedSimpArgs false
namespace Jvm.Pilot.@@N@@
open Jvm Jvm.ClassFile Sem Op Lib Jvm.Free Jvm.Stand Jvm.LawKit Jvm.RoadKit Bundle Jvm.Pilot.@@N@@.Jvm.D
section OwnKit
variable {p : Program} {l : Launch} {e : Env} {R : Room} {s : State} {m : MethodId} {args : Array Value} {below : List Frame} {meth : Method} {c : Code} {T : State} {locs : List Loc} {cells slots : Nat}
/-- from the state u the run comes to an end of the invocation at which G holds -/
def Go (tb : Tables) (e : Env) (below : List Frame) (G : Outcome → State → Prop) (u : State) : Prop := ∃ s₂ o, Steps tb e below u s₂ ∧ s₂.status = .running ∧ Ended s₂ below o ∧ G o s₂
def End (Q : Option Value → Heap → List Loc → Prop) (s : State) (C S : Nat) (o : Outcome) (u : State) : Prop := ∃ v L, o = .returned v ∧ Q v u.heap L ∧ FrameEnd s o u L C S
theorem go {tb : Tables} {G : Outcome → State → Prop} {u u' : State} (st : ∀ t, Steps tb e below u' t → Steps tb e below u t) (k : Go tb e below G u') : Go tb e below G u := by
  obtain ⟨s₂, o, h1, h2⟩ := k
  exact ⟨s₂, o, st _ h1, h2⟩
theorem goT {tb : Tables} {G : Outcome → State → Prop} {u u' : State} (st : Steps tb e below u u') (k : Go tb e below G u') : Go tb e below G u := go (fun _ h => st.trans h) k
theorem own_fin (X : Stand p l e R s m args below meth c T locs cells slots) (hlk : meth.locks = false) {v : Option Value} (hv : meth.sig.returnType = none → v = none) {Q : Option Value → Heap → List Loc → Prop} {C S : Nat} (hq : Q v T.heap locs) (hc : cells ≤ C) (hs : slots ≤ S) {u : State}
    (st : ∀ fs, (∀ (f : JFrame) (acts : List Action), f.method = m → f.locked = none → f.entered = [] → (doReturn e (T.setTop f) acts v).1 = T.setFrames fs) → Steps p.tables e below u (T.setFrames fs)) : Go p.tables e below (End Q s C S) u := by
  obtain ⟨fs, hr, hrun, hended, hW, hsame⟩ := X.leave (v := v) hv hlk
  exact ⟨_, _, st fs hr, hrun, hended, _, _, rfl, hq, ⟨_, rfl⟩, hW, hsame.mono hc hs⟩
theorem own_retI (X : Stand p l e R s m args below meth c T locs cells slots) (hx : p.tables.exec = Jvm.exec) {pc : Nat} {Ls : Array Slot} {z : Int32} {rest : List Value} (hret : meth.sig.returnType = some .int) (hd : decode c.code pc = .ok (.ireturn, 1)) {fs : List Frame}
    (hl : ∀ (f : JFrame) (acts : List Action), f.method = m → f.locked = none → f.entered = [] → (doReturn e (T.setTop f) acts (some (.int z))).1 = T.setFrames fs) : Steps p.tables e below (T.setTop (mkF m pc Ls (.int z :: rest))) (T.setFrames fs) := by
  have hm' : T.vm.method? m = some meth := X.method'
  have hn : narrow .int (.int z) = .int z := rfl
  show Steps p.tables e below (T.setTop { method := m, pc := pc, locals := Ls, stack := _ :: rest, locked := none }) _
  jvm_step X.here [X.here.top, hx, hd, hm', hret, hn]
  first | (intro acts; rw [hl _ acts rfl rfl rfl]) | rw [hl _ _ rfl rfl rfl]
  exact Steps.refl _
theorem own_retA (X : Stand p l e R s m args below meth c T locs cells slots) (hx : p.tables.exec = Jvm.exec) {pc : Nat} {Ls : Array Slot} {z : Value} {t : FieldType} {rest : List Value} (hret : meth.sig.returnType = some t) (ht : t.isReference = true) (hz : z.isRef = true) (hd : decode c.code pc = .ok (.areturn, 1)) {fs : List Frame}
    (hl : ∀ (f : JFrame) (acts : List Action), f.method = m → f.locked = none → f.entered = [] → (doReturn e (T.setTop f) acts (some z)).1 = T.setFrames fs) : Steps p.tables e below (T.setTop (mkF m pc Ls (z :: rest))) (T.setFrames fs) := by
  have hm' : T.vm.method? m = some meth := X.method'
  show Steps p.tables e below (T.setTop { method := m, pc := pc, locals := Ls, stack := _ :: rest, locked := none }) _
  jvm_step X.here [X.here.top, hx, hd, hm', hret, ht, hz]
  first | (intro acts; rw [hl _ acts rfl rfl rfl]) | rw [hl _ _ rfl rfl rfl]
  exact Steps.refl _
theorem gI (X : Stand p l e R s m args below meth c T locs cells slots) (hx : p.tables.exec = Jvm.exec) (hlk : meth.locks = false) {pc : Nat} {Ls : Array Slot} {z : Int32} {rest : List Value} (hret : meth.sig.returnType = some .int) (hd : decode c.code pc = .ok (.ireturn, 1)) {Q : Option Value → Heap → List Loc → Prop} {C S : Nat} (hq : Q (some (.int z)) T.heap locs) (hc : cells ≤ C) (hs : slots ≤ S) :
    Go p.tables e below (End Q s C S) (T.setTop (mkF m pc Ls (.int z :: rest))) := own_fin X hlk (fun h => by rw [hret] at h; cases h) hq hc hs fun fs hr => own_retI X hx hret hd hr
theorem gN (X : Stand p l e R s m args below meth c T locs cells slots) (hx : p.tables.exec = Jvm.exec) (hlk : meth.locks = false) {pc : Nat} {Ls : Array Slot} {z : Int32} {t : FieldType} {rest : List Value} (hret : meth.sig.returnType = some t) (ht : t = .boolean ∨ t = .byte ∨ t = .char ∨ t = .short) (hn : nar t z = z) (hd : decode c.code pc = .ok (.ireturn, 1)) {Q : Option Value → Heap → List Loc → Prop} {C S : Nat} (hq : Q (some (.int z)) T.heap locs) (hc : cells ≤ C) (hs : slots ≤ S) :
    Go p.tables e below (End Q s C S) (T.setTop (mkF m pc Ls (.int z :: rest))) := own_fin X hlk (fun h => by rw [hret] at h; cases h) hq hc hs fun fs hr => retN X hx hret ht hd (by rw [hn]; exact hr)
theorem gJ (X : Stand p l e R s m args below meth c T locs cells slots) (hx : p.tables.exec = Jvm.exec) (hlk : meth.locks = false) {pc : Nat} {Ls : Array Slot} {z : Int64} (hret : meth.sig.returnType = some .long) (hd : decode c.code pc = .ok (.lreturn, 1)) {Q : Option Value → Heap → List Loc → Prop} {C S : Nat} (hq : Q (some (.long z)) T.heap locs) (hc : cells ≤ C) (hs : slots ≤ S) :
    Go p.tables e below (End Q s C S) (T.setTop (mkF m pc Ls [.long z])) := own_fin X hlk (fun h => by rw [hret] at h; cases h) hq hc hs fun fs hr => X.lreturnOut hx hret hd hr
theorem g0 (X : Stand p l e R s m args below meth c T locs cells slots) (hx : p.tables.exec = Jvm.exec) (hlk : meth.locks = false) {pc : Nat} {Ls : Array Slot} (hret : meth.sig.returnType = none) (hd : decode c.code pc = .ok (.return_, 1)) {Q : Option Value → Heap → List Loc → Prop} {C S : Nat} (hq : Q none T.heap locs) (hc : cells ≤ C) (hs : slots ≤ S) :
    Go p.tables e below (End Q s C S) (T.setTop (mkF m pc Ls [])) := own_fin X hlk (fun _ => rfl) hq hc hs fun fs hr => X.returnOut hx hret hd hr
theorem gA (X : Stand p l e R s m args below meth c T locs cells slots) (hx : p.tables.exec = Jvm.exec) (hlk : meth.locks = false) {pc : Nat} {Ls : Array Slot} {z : Value} {t : FieldType} {rest : List Value} (hret : meth.sig.returnType = some t) (ht : t.isReference = true) (hz : z.isRef = true) (hd : decode c.code pc = .ok (.areturn, 1)) {Q : Option Value → Heap → List Loc → Prop} {C S : Nat} (hq : Q (some z) T.heap locs) (hc : cells ≤ C) (hs : slots ≤ S) :
    Go p.tables e below (End Q s C S) (T.setTop (mkF m pc Ls (z :: rest))) := own_fin X hlk (fun h => by rw [hret] at h; cases h) hq hc hs fun fs hr => own_retA X hx hret ht hz hd hr
end OwnKit
/-- a body's contract out of its walk -/
theorem body {l : Launch} {y : MethodName} {bytes : ByteArray} {maxL : Nat} {ret : Option FieldType} {ws : List Jvm.Cond} {rm : Room} {as' : Array Value} {Z : State} {h0 : Heap} {Q : Option Value → Heap → List Loc → Prop} (pn : plainFor y = true)
    (k : ∀ (p : Program) (e : Env) (s : State) (m : MethodId) (below : List Frame) (meth : Method) (c : Code) (s₁ : State), p.tables.exec = Jvm.exec → c.code = bytes → c.maxLocals = maxL → s.vm.findClass y.cls = some m.cls → meth.name = y.name → meth.sig.returnType = ret → meth.locks = false → Z.Warmed39 s.vm → s₁.heap = h0 →
      Stand p l e rm s m as' below meth c s₁ [] 0 0 → Go p.tables e below (End Q s rm.cells rm.slots) (s₁.setTop (entryFrame m as' maxL))) :
    MetFree l y (head1 (Jvm.Cond.code y bytes maxL ret :: ws) rm) (fun a U => a = as' ∧ Z.Warmed39 U.vm ∧ U.heap = h0) (fun _ _ _ _ _ => True) (fun _ U o U' => ∃ v L, o = .returned v ∧ Q v U'.heap L ∧ FrameEnd U o U' L rm.cells rm.slots) := by
  refine MetFree.of_bodySF pn hisR ?_
  intro p e s m args below meth c s₁ Bd hml hP _
  obtain ⟨rfl, hZ, hh⟩ := hP
  obtain ⟨s₂, o, h1, h2, h3, h4⟩ := k p e s m below meth c s₁ Bd.exec Bd.bytes hml (findClass_of_methodNamed Bd.named) (name_of_methodNamed Bd.named Bd.method).1 Bd.returns Bd.notSynchronized hZ (by rw [← hh, Bd.state]; rfl) (Stand.of_body Bd)
  exact ⟨s₂, o, h1, h2, h3, h4⟩
/-- a boolean as an int -/
def B (P : Prop) [Decidable P] : Int32 := if P then 1 else 0
theorem Bt {P : Prop} [Decidable P] (h : P) : B P = 1 := if_pos h
theorem Bf {P : Prop} [Decidable P] (h : ¬ P) : B P = 0 := if_neg h
theorem B1 {P : Prop} [Decidable P] (h : P) : (1 : Int32) = B P := (if_pos h).symm
theorem B0 {P : Prop} [Decidable P] (h : ¬ P) : (0 : Int32) = B P := (if_neg h).symm
theorem B_iff {P Q : Prop} [Decidable P] [Decidable Q] (h : P ↔ Q) : B P = B Q := by simp only [B, h]
theorem B_nar {P : Prop} [Decidable P] : nar .boolean (B P) = B P := by by_cases h : P <;> simp only [B, h, if_true, if_false] <;> rfl
theorem bT {P : Prop} [Decidable P] (h : P) : ifCond.holds .ne (B P) = true ∧ ifCond.holds .eq (B P) = false := by rw [Bt h]; exact ⟨rfl, rfl⟩
theorem bF {P : Prop} [Decidable P] (h : ¬ P) : ifCond.holds .ne (B P) = false ∧ ifCond.holds .eq (B P) = true := by rw [Bf h]; exact ⟨rfl, rfl⟩
theorem lT {x y : Int64} (h : x < y) : ifCond.holds .lt (lcmpW x y) = true ∧ ifCond.holds .ge (lcmpW x y) = false ∧ ifCond.holds .gt (lcmpW y x) = true ∧ ifCond.holds .le (lcmpW y x) = false := by
  have h1 := tlt ((lw_lt x y).mpr h)
  have h2 := tlt ((lw_gt y x).mpr h)
  simp only [if0]; exact ⟨h1.1, h1.2.1, h2.2.2.1, h2.2.2.2⟩
theorem lF {x y : Int64} (h : ¬ x < y) : ifCond.holds .lt (lcmpW x y) = false ∧ ifCond.holds .ge (lcmpW x y) = true ∧ ifCond.holds .gt (lcmpW y x) = false ∧ ifCond.holds .le (lcmpW y x) = true := by
  have h1 := flt (fun q => h ((lw_lt x y).mp q))
  have h2 := flt (fun q => h ((lw_gt y x).mp q))
  simp only [if0]; exact ⟨h1.1, h1.2.1, h2.2.2.1, h2.2.2.2⟩
theorem lTe {x y : Int64} (h : x = y) : ifCond.holds .eq (lcmpW x y) = true ∧ ifCond.holds .ne (lcmpW x y) = false := by
  simp only [if0]; exact teq ((lw_eq x y).mpr h)
theorem lFe {x y : Int64} (h : ¬ x = y) : ifCond.holds .eq (lcmpW x y) = false ∧ ifCond.holds .ne (lcmpW x y) = true := by
  simp only [if0]; exact feq (fun q => h ((lw_eq x y).mp q))
theorem bTv {P : Prop} [Decidable P] {v : Int32} (hv : v = B P) (h : P) : ifCond.holds .ne v = true ∧ ifCond.holds .eq v = false := hv ▸ bT h
theorem bFv {P : Prop} [Decidable P] {v : Int32} (hv : v = B P) (h : ¬ P) : ifCond.holds .ne v = false ∧ ifCond.holds .eq v = true := hv ▸ bF h
theorem B_narv {P : Prop} [Decidable P] {v : Int32} (hv : v = B P) : nar .boolean v = v := hv ▸ B_nar
theorem own_fitb {v : Int32} (h : nar .boolean v = v) : fits .boolean (.int v) = true := h ▸ fits_nar_bool v
theorem ww {a0 : Array Value} {Z : State} (hw : ∀ d ∈ tables_1, d.before a0 Z = true) (i : Nat) {d : Jvm.Cond} (h : tables_1[i]? = some d) : d.before a0 Z = true := hw d (List.mem_of_getElem? h)
theorem own_d (a b : Int32) : (a.toInt64 - b.toInt64 < (0 : Int64)) ↔ a < b := by
  rw [Int64.lt_iff_toInt_lt, Int32.lt_iff_toInt_lt]
  have h1 := c_lsub a.toInt64 b.toInt64
  have h2 := rng64 (a.toInt64 - b.toInt64)
  rw [c_i2l, c_i2l] at h1
  have h3 := rng32 a
  have h4 := rng32 b
  have h5 : (0 : Int64).toInt = 0 := rfl
  omega
theorem pn_java_lang_Record__init__2 : plainFor (⟨"java/lang/Record", "<init>", "()V"⟩ : MethodName) = true := by first | exact plainFor_of_name (by first | (simp [plainName, overriddenIn]; done) | decide +kernel) | decide +kernel
def Q_rm2 (Z : State) (o0 : Addr) (h0 : Heap) (n0 : Nat) (v : Option Value) (h : Heap) (L : List Loc) : Prop := v = none ∧ Fr n0 L ∧ h = h0
theorem ef_rm2 (m : MethodId) (o0 : Addr) : entryFrame m #[(.ref o0)] 1 = mkF m 0 #[.val (.ref o0)] [] := by first | rfl | (simp [entryFrame, mkF, argsToLocals, Value.category, maxLocals]; done)
theorem d2_0 : decode jdk_30_method_1_code 0 = .ok (.aload_n 0, 1) := by decide +kernel
theorem d2_1 : decode jdk_30_method_1_code 1 = .ok (.invokespecial 1, 3) := by decide +kernel
theorem d2_4 : decode jdk_30_method_1_code 4 = .ok (.return_, 1) := by decide +kernel
set_option maxRecDepth 65536 in
set_option maxHeartbeats 40000000 in
theorem rm2 (l : Launch) (Z : State) (a0 : Array Value) (hw : ∀ d ∈ tables_1, d.before a0 Z = true) (ws : List Jvm.Cond) (o0 : Addr) (h0 : Heap) (n0 : Nat) (Z0 : n0 ≤ h0.size)  :
    MetFree l (⟨"java/lang/Record", "<init>", "()V"⟩ : MethodName) (head1 (Jvm.Cond.code (⟨"java/lang/Record", "<init>", "()V"⟩ : MethodName) jdk_30_method_1_code 1 none :: ws) ({ frames := 1, cells := 0, slots := 0, locals := 12 } : Room)) (fun a U => a = #[(.ref o0)] ∧ Z.Warmed39 U.vm ∧ U.heap = h0) (fun _ _ _ _ _ => True) (fun _ U o U' => ∃ v L, o = .returned v ∧ Q_rm2 Z o0 h0 n0 v U'.heap L ∧ FrameEnd U o U' L ({ frames := 1, cells := 0, slots := 0, locals := 12 } : Room).cells ({ frames := 1, cells := 0, slots := 0, locals := 12 } : Room).slots) := by
  refine body pn_java_lang_Record__init__2 ?_
  intro p e s m below meth c s₁ hx hby hml hown hnm hret hlk hZ e0 X0
  replace hml : c.maxLocals = 1 := hml
  replace hown : s.vm.findClass "java/lang/Record" = some m.cls := hown
  replace hnm : meth.name = "<init>" := hnm
  replace hret : meth.sig.returnType = none := hret
  have N0 := Fr.nil n0
  rw [ef_rm2]
  obtain ⟨G, hG⟩ : ∃ G, G = End (Q_rm2 Z o0 h0 n0) s ({ frames := 1, cells := 0, slots := 0, locals := 12 } : Room).cells ({ frames := 1, cells := 0, slots := 0, locals := 12 } : Room).slots := ⟨_, rfl⟩
  rw [← hG]
  refine go (u' := s₁.setTop (mkF m 1 #[.val (.ref o0)] [(.ref o0)])) (fun _ ks_ => XS.aloadN X0.here hx rfl (hb hby d2_0) rfl rfl ks_) ?_
  obtain ⟨T1, X1, e1, st1⟩ := initO X0 hx hZ hown (ww hw 11 rfl) (ww hw 12 rfl) (ww hw 13 rfl) e0 (g := (mkF m 1 #[.val (.ref o0)] [(.ref o0)])) rfl (by rw [hml]; rfl) rfl (hb hby d2_1) (by decide) (W := 0) (by show 2 * 0 + _ ≤ _; exact Nat.le_of_eq rfl) (by decide)
  refine go (u' := T1.setTop (mkF m 4 #[.val (.ref o0)] [])) st1 ?_
  rw [hG]
  refine g0 X1 hx hlk hret (hb hby d2_4) ?_ (Nat.le_of_ble_eq_true rfl) (Nat.le_of_ble_eq_true rfl)
  show Q_rm2 Z o0 h0 n0 (none) T1.heap _
  rw [e1]
  exact ⟨rfl, N0, rfl⟩
theorem pd__40__41_V : parseMethodDescriptor "()V" = some ⟨[], none⟩ := by decide +kernel
theorem pn_com_example_bowerbird_bowerbird_parse_Arity__init__1 : plainFor (⟨"com/example/bowerbird/bowerbird/parse/Arity", "<init>", "(II)V"⟩ : MethodName) = true := by first | exact plainFor_of_name (by first | (simp [plainName, overriddenIn]; done) | decide +kernel) | decide +kernel
def Q_rm1 (Z : State) (o0 : Addr) (p1 : Int32) (p2 : Int32) (h0 : Heap) (n0 : Nat) (v : Option Value) (h : Heap) (L : List Loc) : Prop := v = none ∧ Fr n0 L ∧ Keep h0 h [o0] ∧ (Exa Z h o0 "com/example/bowerbird/bowerbird/parse/Arity") ∧ (Fld Z h o0 "com/example/bowerbird/bowerbird/parse/Arity" "minimum" "I" (.int p1)) ∧ (Fld Z h o0 "com/example/bowerbird/bowerbird/parse/Arity" "maximum" "I" (.int p2))
theorem ef_rm1 (m : MethodId) (o0 : Addr) (p1 : Int32) (p2 : Int32) : entryFrame m #[(.ref o0), (.int p1), (.int p2)] 3 = mkF m 0 #[.val (.ref o0), .val (.int p1), .val (.int p2)] [] := by first | rfl | (simp [entryFrame, mkF, argsToLocals, Value.category, maxLocals]; done)
theorem d1_0 : decode prog_24_method_1_code 0 = .ok (.aload_n 0, 1) := by decide +kernel
theorem d1_1 : decode prog_24_method_1_code 1 = .ok (.invokespecial 1, 3) := by decide +kernel
theorem d1_4 : decode prog_24_method_1_code 4 = .ok (.aload_n 0, 1) := by decide +kernel
theorem d1_5 : decode prog_24_method_1_code 5 = .ok (.iload_n 1, 1) := by decide +kernel
theorem d1_6 : decode prog_24_method_1_code 6 = .ok (.putfield 7, 3) := by decide +kernel
theorem d1_9 : decode prog_24_method_1_code 9 = .ok (.aload_n 0, 1) := by decide +kernel
theorem d1_10 : decode prog_24_method_1_code 10 = .ok (.iload_n 2, 1) := by decide +kernel
theorem d1_11 : decode prog_24_method_1_code 11 = .ok (.putfield 13, 3) := by decide +kernel
theorem d1_14 : decode prog_24_method_1_code 14 = .ok (.return_, 1) := by decide +kernel
set_option maxRecDepth 65536 in
set_option maxHeartbeats 40000000 in
theorem rm1 (l : Launch) (Z : State) (a0 : Array Value) (hw : ∀ d ∈ tables_1, d.before a0 Z = true) (ws : List Jvm.Cond) (o0 : Addr) (p1 : Int32) (p2 : Int32) (h0 : Heap) (n0 : Nat) (Z0 : n0 ≤ h0.size) (g_o0 : n0 ≤ o0) (F0 : Exa Z h0 o0 "com/example/bowerbird/bowerbird/parse/Arity") (F1 : Fld Z h0 o0 "com/example/bowerbird/bowerbird/parse/Arity" "minimum" "I" (.int (0 : Int32))) (F2 : Fld Z h0 o0 "com/example/bowerbird/bowerbird/parse/Arity" "maximum" "I" (.int (0 : Int32))) :
    MetFree l (⟨"com/example/bowerbird/bowerbird/parse/Arity", "<init>", "(II)V"⟩ : MethodName) (head1 (Jvm.Cond.code (⟨"com/example/bowerbird/bowerbird/parse/Arity", "<init>", "(II)V"⟩ : MethodName) prog_24_method_1_code 3 none :: ws) ({ frames := 2, cells := 0, slots := 0, locals := 24 } : Room)) (fun a U => a = #[(.ref o0), (.int p1), (.int p2)] ∧ Z.Warmed39 U.vm ∧ U.heap = h0) (fun _ _ _ _ _ => True) (fun _ U o U' => ∃ v L, o = .returned v ∧ Q_rm1 Z o0 p1 p2 h0 n0 v U'.heap L ∧ FrameEnd U o U' L ({ frames := 2, cells := 0, slots := 0, locals := 24 } : Room).cells ({ frames := 2, cells := 0, slots := 0, locals := 24 } : Room).slots) := by
  refine body pn_com_example_bowerbird_bowerbird_parse_Arity__init__1 ?_
  intro p e s m below meth c s₁ hx hby hml hown hnm hret hlk hZ e0 X0
  replace hml : c.maxLocals = 3 := hml
  replace hown : s.vm.findClass "com/example/bowerbird/bowerbird/parse/Arity" = some m.cls := hown
  replace hnm : meth.name = "<init>" := hnm
  replace hret : meth.sig.returnType = none := hret
  have N0 := Fr.nil n0
  rw [ef_rm1]
  obtain ⟨G, hG⟩ : ∃ G, G = End (Q_rm1 Z o0 p1 p2 h0 n0) s ({ frames := 2, cells := 0, slots := 0, locals := 24 } : Room).cells ({ frames := 2, cells := 0, slots := 0, locals := 24 } : Room).slots := ⟨_, rfl⟩
  rw [← hG]
  refine go (u' := s₁.setTop (mkF m 1 #[.val (.ref o0), .val (.int p1), .val (.int p2)] [(.ref o0)])) (fun _ ks_ => XS.aloadN X0.here hx rfl (hb hby d1_0) rfl rfl ks_) ?_
  obtain ⟨_, _, ⟨T1, L1, k1, n1⟩, -, X1, ⟨Lc1, hQ1, l1, y1, z1⟩, st1⟩ := X0.specialBack hx (y := (⟨"java/lang/Record", "<init>", "()V"⟩ : MethodName)) rfl hown (mvT hZ (ww hw 6 rfl)) (mvT hZ (ww hw 7 rfl)) (mvT hZ (ww hw 10 rfl)) (by decide) (backOf (W := 0) (rm2 l Z a0 hw [] o0 h0 n0 Z0) hZ (ww hw 10 rfl) (ww hw 9 rfl) (by decide) (by decide)) (g := (mkF m 1 #[.val (.ref o0), .val (.int p1), .val (.int p2)] [(.ref o0)])) rfl (by rw [hml]; rfl) (Steps.refl _) (a := o0) (argsL := []) (rest := []) (lenOf pd__40__41_V rfl) rfl (by show 2 * 0 + _ ≤ _; exact Nat.le_of_eq rfl) (hb hby d1_1) (fun _ _ => ⟨rfl, e0, (by decide : 0 + 0 ≤ _), (by decide : 0 + 0 ≤ _)⟩)
  dsimp only [Pt.U, Pt.locs, Pt.cells, Pt.slots] at X1 l1 y1 z1 st1 hQ1
  subst l1 y1 z1
  obtain ⟨rfl, N1q, eq1⟩ := hQ1
  have N1 := Fr.app N0 N1q
  refine goT (u' := T1.setTop (mkF m 4 #[.val (.ref o0), .val (.int p1), .val (.int p2)] [])) st1 ?_
  refine go (u' := T1.setTop (mkF m 5 #[.val (.ref o0), .val (.int p1), .val (.int p2)] [(.ref o0)])) (fun _ ks_ => XS.aloadN X1.here hx rfl (hb hby d1_4) rfl rfl ks_) ?_
  refine go (u' := T1.setTop (mkF m 6 #[.val (.ref o0), .val (.int p1), .val (.int p2)] [(.int p1), (.ref o0)])) (fun _ ks_ => XS.iloadN X1.here hx rfl (hb hby d1_5) rfl  ks_) ?_
  obtain ⟨T2, h2, X2, e2, W2, st2⟩ := putF X1 hx hZ hown (host := "") (Or.inl (ww hw 14 rfl)) Via.refl eq1 F1 F0 (Or.inr ⟨(ww hw 15 rfl), rfl, hnm⟩) (ww hw 1 rfl) (ty := .int) (by decide) rfl rfl (g := (mkF m 6 #[.val (.ref o0), .val (.int p1), .val (.int p2)] [(.int p1), (.ref o0)])) rfl rfl (hb hby d1_6)
  have N2 := Fr.snoc X2 N1 g_o0
  have K2 : Keep h0 h2 [o0] := (Keep.refl h0 [o0]).wr W2 (Or.inl (List.mem_of_getElem? (i := 0) rfl))
  have Z2 : n0 ≤ h2.size := Nat.le_trans Z0 (Keep.of_wr W2).1
  have F3 : Exa Z h2 o0 "com/example/bowerbird/bowerbird/parse/Arity" := F0.wr W2
  have F4 : Fld Z h2 o0 "com/example/bowerbird/bowerbird/parse/Arity" "maximum" "I" (.int (0 : Int32)) := F2.other W2 (Or.inr (slot_ne (Or.inr (ww hw 17 rfl)) (Or.inr (ww hw 15 rfl)) (by decide) (t := .int) (t' := .int) (by decide) (by decide)))
  have F5 : Fld Z h2 o0 "com/example/bowerbird/bowerbird/parse/Arity" "minimum" "I" (.int p1) := F1.same W2
  refine go (u' := T2.setTop (mkF m 9 #[.val (.ref o0), .val (.int p1), .val (.int p2)] [])) st2 ?_
  refine go (u' := T2.setTop (mkF m 10 #[.val (.ref o0), .val (.int p1), .val (.int p2)] [(.ref o0)])) (fun _ ks_ => XS.aloadN X2.here hx rfl (hb hby d1_9) rfl rfl ks_) ?_
  refine go (u' := T2.setTop (mkF m 11 #[.val (.ref o0), .val (.int p1), .val (.int p2)] [(.int p2), (.ref o0)])) (fun _ ks_ => XS.iloadN X2.here hx rfl (hb hby d1_10) rfl  ks_) ?_
  obtain ⟨T6, h6, X6, e6, W6, st6⟩ := putF X2 hx hZ hown (host := "") (Or.inl (ww hw 16 rfl)) Via.refl e2 F4 F3 (Or.inr ⟨(ww hw 17 rfl), rfl, hnm⟩) (ww hw 1 rfl) (ty := .int) (by decide) rfl rfl (g := (mkF m 11 #[.val (.ref o0), .val (.int p1), .val (.int p2)] [(.int p2), (.ref o0)])) rfl rfl (hb hby d1_11)
  have N6 := Fr.snoc X6 N2 g_o0
  have K6 : Keep h0 h6 [o0] := K2.wr W6 (Or.inl (List.mem_of_getElem? (i := 0) rfl))
  have Z6 : n0 ≤ h6.size := Nat.le_trans Z2 (Keep.of_wr W6).1
  have F7 : Exa Z h6 o0 "com/example/bowerbird/bowerbird/parse/Arity" := F3.wr W6
  have F8 : Fld Z h6 o0 "com/example/bowerbird/bowerbird/parse/Arity" "minimum" "I" (.int p1) := F5.other W6 (Or.inr (slot_ne (Or.inr (ww hw 15 rfl)) (Or.inr (ww hw 17 rfl)) (by decide) (t := .int) (t' := .int) (by decide) (by decide)))
  have F9 : Fld Z h6 o0 "com/example/bowerbird/bowerbird/parse/Arity" "maximum" "I" (.int p2) := F4.same W6
  refine go (u' := T6.setTop (mkF m 14 #[.val (.ref o0), .val (.int p1), .val (.int p2)] [])) st6 ?_
  rw [hG]
  refine g0 X6 hx hlk hret (hb hby d1_14) ?_ (Nat.le_of_ble_eq_true rfl) (Nat.le_of_ble_eq_true rfl)
  show Q_rm1 Z o0 p1 p2 h0 n0 (none) T6.heap _
  rw [e6]
  exact ⟨rfl, N6, K6, F7, F8, F9⟩
theorem pn_com_example_bowerbird_bowerbird_parse_Arity_takes_4 : plainFor (⟨"com/example/bowerbird/bowerbird/parse/Arity", "takes", "(I)Z"⟩ : MethodName) = true := by first | exact plainFor_of_name (by first | (simp [plainName, overriddenIn]; done) | decide +kernel) | decide +kernel
def Q_rm4 (Z : State) (o0 : Addr) (p1 : Int32) (lo : Int32) (hi : Int32) (h0 : Heap) (n0 : Nat) (v : Option Value) (h : Heap) (L : List Loc) : Prop := v = some (.int (B ((¬ (p1 < lo)) ∧ (¬ (hi < p1))))) ∧ Fr n0 L ∧ h = h0
theorem ef_rm4 (m : MethodId) (o0 : Addr) (p1 : Int32) : entryFrame m #[(.ref o0), (.int p1)] 2 = mkF m 0 #[.val (.ref o0), .val (.int p1)] [] := by first | rfl | (simp [entryFrame, mkF, argsToLocals, Value.category, maxLocals]; done)
theorem d4_0 : decode prog_24_method_2_code 0 = .ok (.iload_n 1, 1) := by decide +kernel
theorem d4_1 : decode prog_24_method_2_code 1 = .ok (.aload_n 0, 1) := by decide +kernel
theorem d4_2 : decode prog_24_method_2_code 2 = .ok (.getfield 7, 3) := by decide +kernel
theorem d4_5 : decode prog_24_method_2_code 5 = .ok (.if_icmp .lt 15, 3) := by decide +kernel
theorem d4_8 : decode prog_24_method_2_code 8 = .ok (.iload_n 1, 1) := by decide +kernel
theorem d4_9 : decode prog_24_method_2_code 9 = .ok (.aload_n 0, 1) := by decide +kernel
theorem d4_10 : decode prog_24_method_2_code 10 = .ok (.getfield 13, 3) := by decide +kernel
theorem d4_13 : decode prog_24_method_2_code 13 = .ok (.if_icmp .gt 7, 3) := by decide +kernel
theorem d4_16 : decode prog_24_method_2_code 16 = .ok (.iconst 1, 1) := by decide +kernel
theorem d4_17 : decode prog_24_method_2_code 17 = .ok (.goto 4, 3) := by decide +kernel
theorem d4_20 : decode prog_24_method_2_code 20 = .ok (.iconst 0, 1) := by decide +kernel
theorem d4_21 : decode prog_24_method_2_code 21 = .ok (.ireturn, 1) := by decide +kernel
set_option maxRecDepth 65536 in
set_option maxHeartbeats 40000000 in
theorem rm4 (l : Launch) (Z : State) (a0 : Array Value) (hw : ∀ d ∈ tables_1, d.before a0 Z = true) (ws : List Jvm.Cond) (o0 : Addr) (p1 : Int32) (lo : Int32) (hi : Int32) (h0 : Heap) (n0 : Nat) (Z0 : n0 ≤ h0.size) (F0 : Fld Z h0 o0 "com/example/bowerbird/bowerbird/parse/Arity" "minimum" "I" (.int lo)) (F1 : Fld Z h0 o0 "com/example/bowerbird/bowerbird/parse/Arity" "maximum" "I" (.int hi)) :
    MetFree l (⟨"com/example/bowerbird/bowerbird/parse/Arity", "takes", "(I)Z"⟩ : MethodName) (head1 (Jvm.Cond.code (⟨"com/example/bowerbird/bowerbird/parse/Arity", "takes", "(I)Z"⟩ : MethodName) prog_24_method_2_code 2 (some .boolean) :: ws) ({ frames := 0, cells := 0, slots := 0, locals := 0 } : Room)) (fun a U => a = #[(.ref o0), (.int p1)] ∧ Z.Warmed39 U.vm ∧ U.heap = h0) (fun _ _ _ _ _ => True) (fun _ U o U' => ∃ v L, o = .returned v ∧ Q_rm4 Z o0 p1 lo hi h0 n0 v U'.heap L ∧ FrameEnd U o U' L ({ frames := 0, cells := 0, slots := 0, locals := 0 } : Room).cells ({ frames := 0, cells := 0, slots := 0, locals := 0 } : Room).slots) := by
  refine body pn_com_example_bowerbird_bowerbird_parse_Arity_takes_4 ?_
  intro p e s m below meth c s₁ hx hby hml hown hnm hret hlk hZ e0 X0
  replace hml : c.maxLocals = 2 := hml
  replace hown : s.vm.findClass "com/example/bowerbird/bowerbird/parse/Arity" = some m.cls := hown
  replace hnm : meth.name = "takes" := hnm
  replace hret : meth.sig.returnType = (some .boolean) := hret
  have N0 := Fr.nil n0
  rw [ef_rm4]
  obtain ⟨G, hG⟩ : ∃ G, G = End (Q_rm4 Z o0 p1 lo hi h0 n0) s ({ frames := 0, cells := 0, slots := 0, locals := 0 } : Room).cells ({ frames := 0, cells := 0, slots := 0, locals := 0 } : Room).slots := ⟨_, rfl⟩
  rw [← hG]
  refine go (u' := s₁.setTop (mkF m 1 #[.val (.ref o0), .val (.int p1)] [(.int p1)])) (fun _ ks_ => XS.iloadN X0.here hx rfl (hb hby d4_0) rfl  ks_) ?_
  refine go (u' := s₁.setTop (mkF m 2 #[.val (.ref o0), .val (.int p1)] [(.ref o0), (.int p1)])) (fun _ ks_ => XS.aloadN X0.here hx rfl (hb hby d4_1) rfl rfl ks_) ?_
  obtain ⟨T1, X1, e1, st1⟩ := getF X0 hx hZ hown (host := "") (Or.inl (ww hw 14 rfl)) Via.refl e0 F0 (g := (mkF m 2 #[.val (.ref o0), .val (.int p1)] [(.ref o0), (.int p1)])) rfl rfl (hb hby d4_2)
  refine go (u' := T1.setTop (mkF m 5 #[.val (.ref o0), .val (.int p1)] [(.int lo), (.int p1)])) st1 ?_
  by_cases c5_1 : p1 < lo
  ·
    refine go (u' := T1.setTop (mkF m 20 #[.val (.ref o0), .val (.int p1)] [])) (fun _ ks_ => XS.icmpYes X1.here hx rfl (pc0 := 5) (pc' := 20) rfl (hb hby d4_5) rfl (tlt c5_1).1 (by decide) (by decide) ks_) ?_
    refine go (u' := T1.setTop (mkF m 21 #[.val (.ref o0), .val (.int p1)] [(.int (0 : Int32))])) (fun _ ks_ => XS.iconst X1.here hx rfl (hb hby d4_20) ks_) ?_
    rw [hG]
    refine gN X1 hx hlk (t := .boolean) hret (by simp) rfl (hb hby d4_21) ?_ (Nat.le_of_ble_eq_true rfl) (Nat.le_of_ble_eq_true rfl)
    show Q_rm4 Z o0 p1 lo hi h0 n0 (some (.int (0 : Int32))) T1.heap _
    rw [e1]
    exact ⟨congrArg (fun z => some (Value.int z)) (B0 (fun q => (fun q => q c5_1) q.1)), N0, rfl⟩
  ·
    refine go (u' := T1.setTop (mkF m 8 #[.val (.ref o0), .val (.int p1)] [])) (fun _ ks_ => XS.icmpNo X1.here hx rfl (hb hby d4_5) rfl (flt c5_1).1 ks_) ?_
    refine go (u' := T1.setTop (mkF m 9 #[.val (.ref o0), .val (.int p1)] [(.int p1)])) (fun _ ks_ => XS.iloadN X1.here hx rfl (hb hby d4_8) rfl  ks_) ?_
    refine go (u' := T1.setTop (mkF m 10 #[.val (.ref o0), .val (.int p1)] [(.ref o0), (.int p1)])) (fun _ ks_ => XS.aloadN X1.here hx rfl (hb hby d4_9) rfl rfl ks_) ?_
    obtain ⟨T2, X2, e2, st2⟩ := getF X1 hx hZ hown (host := "") (Or.inl (ww hw 16 rfl)) Via.refl e1 F1 (g := (mkF m 10 #[.val (.ref o0), .val (.int p1)] [(.ref o0), (.int p1)])) rfl rfl (hb hby d4_10)
    refine go (u' := T2.setTop (mkF m 13 #[.val (.ref o0), .val (.int p1)] [(.int hi), (.int p1)])) st2 ?_
    by_cases c13_2 : hi < p1
    ·
      refine go (u' := T2.setTop (mkF m 20 #[.val (.ref o0), .val (.int p1)] [])) (fun _ ks_ => XS.icmpYes X2.here hx rfl (pc0 := 13) (pc' := 20) rfl (hb hby d4_13) rfl (tlt c13_2).2.2.1 (by decide) (by decide) ks_) ?_
      refine go (u' := T2.setTop (mkF m 21 #[.val (.ref o0), .val (.int p1)] [(.int (0 : Int32))])) (fun _ ks_ => XS.iconst X2.here hx rfl (hb hby d4_20) ks_) ?_
      rw [hG]
      refine gN X2 hx hlk (t := .boolean) hret (by simp) rfl (hb hby d4_21) ?_ (Nat.le_of_ble_eq_true rfl) (Nat.le_of_ble_eq_true rfl)
      show Q_rm4 Z o0 p1 lo hi h0 n0 (some (.int (0 : Int32))) T2.heap _
      rw [e2]
      exact ⟨congrArg (fun z => some (Value.int z)) (B0 (fun q => (fun q => q c13_2) q.2)), N0, rfl⟩
    ·
      refine go (u' := T2.setTop (mkF m 16 #[.val (.ref o0), .val (.int p1)] [])) (fun _ ks_ => XS.icmpNo X2.here hx rfl (hb hby d4_13) rfl (flt c13_2).2.2.1 ks_) ?_
      refine go (u' := T2.setTop (mkF m 17 #[.val (.ref o0), .val (.int p1)] [(.int (1 : Int32))])) (fun _ ks_ => XS.iconst X2.here hx rfl (hb hby d4_16) ks_) ?_
      refine go (u' := T2.setTop (mkF m 21 #[.val (.ref o0), .val (.int p1)] [(.int (1 : Int32))])) (fun _ ks_ => XS.goto X2.here hx rfl (pc0 := 17) (pc' := 21) rfl (hb hby d4_17) (by decide) (by decide) ks_) ?_
      rw [hG]
      refine gN X2 hx hlk (t := .boolean) hret (by simp) rfl (hb hby d4_21) ?_ (Nat.le_of_ble_eq_true rfl) (Nat.le_of_ble_eq_true rfl)
      show Q_rm4 Z o0 p1 lo hi h0 n0 (some (.int (1 : Int32))) T2.heap _
      rw [e2]
      exact ⟨congrArg (fun z => some (Value.int z)) (B1 ⟨c5_1, c13_2⟩), N0, rfl⟩
theorem pd__40_II_41_V : parseMethodDescriptor "(II)V" = some ⟨[.int, .int], none⟩ := by decide +kernel
theorem pd__40_I_41_Z : parseMethodDescriptor "(I)Z" = some ⟨[.int], some .boolean⟩ := by decide +kernel
theorem pn_com_example_bowerbird_bowerbird_parse_ArityTakesPinLaw_law_0 : plainFor x = true := by first | exact plainFor_of_name (by first | (simp [plainName, overriddenIn]; done) | decide +kernel) | decide +kernel
def Q_rm0 (Z : State) (p0 : Int32) (p1 : Int32) (p2 : Int32) (h0 : Heap) (n0 : Nat) (v : Option Value) (h : Heap) (L : List Loc) : Prop := v = some (.int (1 : Int32)) ∧ Fr n0 L
theorem ef_rm0 (m : MethodId) (p0 : Int32) (p1 : Int32) (p2 : Int32) : entryFrame m #[(.int p0), (.int p1), (.int p2)] maxLocals = mkF m 0 #[.val (.int p0), .val (.int p1), .val (.int p2), .unset, .unset, .unset, .unset, .unset, .unset] [] := by first | rfl | (simp [entryFrame, mkF, argsToLocals, Value.category, maxLocals]; done)
set_option maxRecDepth 65536 in
set_option maxHeartbeats 40000000 in
theorem rm0 (l : Launch) (Z : State) (a0 : Array Value) (hw : ∀ d ∈ tables_1, d.before a0 Z = true) (ws : List Jvm.Cond) (p0 : Int32) (p1 : Int32) (p2 : Int32) (h0 : Heap) (n0 : Nat) (Z0 : n0 ≤ h0.size)  :
    MetFree l x (head1 (Jvm.Cond.code x code maxLocals ret :: ws) room_1) (fun a U => a = #[(.int p0), (.int p1), (.int p2)] ∧ Z.Warmed39 U.vm ∧ U.heap = h0) (fun _ _ _ _ _ => True) (fun _ U o U' => ∃ v L, o = .returned v ∧ Q_rm0 Z p0 p1 p2 h0 n0 v U'.heap L ∧ FrameEnd U o U' L room_1.cells room_1.slots) := by
  refine body pn_com_example_bowerbird_bowerbird_parse_ArityTakesPinLaw_law_0 ?_
  intro p e s m below meth c s₁ hx hby hml hown hnm hret hlk hZ e0 X0
  replace hml : c.maxLocals = 9 := hml
  replace hown : s.vm.findClass "com/example/bowerbird/bowerbird/parse/ArityTakesPinLaw" = some m.cls := hown
  replace hnm : meth.name = "law" := hnm
  replace hret : meth.sig.returnType = (some .boolean) := hret
  have N0 := Fr.nil n0
  rw [ef_rm0]
  obtain ⟨G, hG⟩ : ∃ G, G = End (Q_rm0 Z p0 p1 p2 h0 n0) s room_1.cells room_1.slots := ⟨_, rfl⟩
  rw [← hG]
  obtain ⟨T1, h1, X1, e1, E1, A1, D1, -, st1⟩ := newO X0 hx hZ hown (ww hw 0 rfl) (ww hw 1 rfl) (ww hw 2 rfl) e0 (g := (mkF m 0 #[.val (.int p0), .val (.int p1), .val (.int p2), .unset, .unset, .unset, .unset, .unset, .unset] [])) rfl (hb hby at_0) (by decide) (by decide)
  obtain ⟨b1, g1⟩ : ∃ z, z = h0.size := ⟨_, rfl⟩
  rw [← g1] at A1 D1 st1
  have g_b1 : n0 ≤ b1 := Nat.le_trans Z0 (Nat.le_of_eq g1.symm)
  have sz_b1 : h0.size ≤ b1 := Nat.le_trans (Keep.refl h0 []).1 (Nat.le_of_eq g1.symm)
  have K1 : Keep h0 h1 [] := (Keep.refl h0 []).ext E1
  have Z1 : n0 ≤ h1.size := Nat.le_trans Z0 E1.1
  have F2 : Fld Z h1 b1 "com/example/bowerbird/bowerbird/parse/Arity" "minimum" "I" (.int (0 : Int32)) := D1 (Or.inr (ww hw 15 rfl)) (ty := .int) (by decide)
  have F3 : Fld Z h1 b1 "com/example/bowerbird/bowerbird/parse/Arity" "maximum" "I" (.int (0 : Int32)) := D1 (Or.inr (ww hw 17 rfl)) (ty := .int) (by decide)
  refine go (u' := T1.setTop (mkF m 3 #[.val (.int p0), .val (.int p1), .val (.int p2), .unset, .unset, .unset, .unset, .unset, .unset] [(.ref b1)])) st1 ?_
  refine go (u' := T1.setTop (mkF m 4 #[.val (.int p0), .val (.int p1), .val (.int p2), .unset, .unset, .unset, .unset, .unset, .unset] [(.ref b1), (.ref b1)])) (fun _ ks_ => XS.dup X1.here hx rfl (hb hby at_3) rfl rfl ks_) ?_
  refine go (u' := T1.setTop (mkF m 5 #[.val (.int p0), .val (.int p1), .val (.int p2), .unset, .unset, .unset, .unset, .unset, .unset] [(.int p0), (.ref b1), (.ref b1)])) (fun _ ks_ => XS.iloadN X1.here hx rfl (hb hby at_4) rfl  ks_) ?_
  refine go (u' := T1.setTop (mkF m 6 #[.val (.int p0), .val (.int p1), .val (.int p2), .unset, .unset, .unset, .unset, .unset, .unset] [(.int p1), (.int p0), (.ref b1), (.ref b1)])) (fun _ ks_ => XS.iloadN X1.here hx rfl (hb hby at_5) rfl  ks_) ?_
  obtain ⟨_, _, ⟨T4, L4, k4, n4⟩, -, X4, ⟨Lc4, hQ4, l4, y4, z4⟩, st4⟩ := X1.specialBack hx (y := (⟨"com/example/bowerbird/bowerbird/parse/Arity", "<init>", "(II)V"⟩ : MethodName)) rfl hown (mvT hZ (ww hw 3 rfl)) (mvT hZ (ww hw 4 rfl)) (mvT hZ (ww hw 5 rfl)) (by decide) (backOf (W := 1) (rm1 l Z a0 hw [] b1 p0 p1 h1 n0 Z1 g_b1 A1 F2 F3) hZ (ww hw 5 rfl) (ww hw 2 rfl) (by decide) (by decide)) (g := (mkF m 6 #[.val (.int p0), .val (.int p1), .val (.int p2), .unset, .unset, .unset, .unset, .unset, .unset] [(.int p1), (.int p0), (.ref b1), (.ref b1)])) rfl (by rw [hml]; rfl) (Steps.refl _) (a := b1) (argsL := [(.int p0), (.int p1)]) (rest := [(.ref b1)]) (lenOf pd__40_II_41_V rfl) rfl (by show 2 * 0 + _ ≤ _; exact Nat.le_of_eq rfl) (hb hby at_6) (fun _ _ => ⟨rfl, e1, (by decide : 1 + 0 ≤ _), (by decide : 2 + 0 ≤ _)⟩)
  dsimp only [Pt.U, Pt.locs, Pt.cells, Pt.slots] at X4 l4 y4 z4 st4 hQ4
  subst l4 y4 z4
  obtain ⟨rfl, N4q, Kq4, F5, F6, F7⟩ := hQ4
  have N4 := Fr.app N0 N4q
  have K4 : Keep h0 T4.heap [] := K1.trans Kq4 (allS (P := fun x => x ∈ [] ∨ h0.size ≤ x) (Or.inr sz_b1) all0)
  have Z4 : n0 ≤ T4.heap.size := Nat.le_trans Z1 Kq4.1
  have F8 : Exa Z T4.heap b1 "com/example/bowerbird/bowerbird/parse/Arity" := A1.keep Kq4
  refine goT (u' := T4.setTop (mkF m 9 #[.val (.int p0), .val (.int p1), .val (.int p2), .unset, .unset, .unset, .unset, .unset, .unset] [(.ref b1)])) st4 ?_
  refine go (u' := T4.setTop (mkF m 10 #[.val (.int p0), .val (.int p1), .val (.int p2), .val (.ref b1), .unset, .unset, .unset, .unset, .unset] [])) (fun _ ks_ => XS.astoreN X4.here hx rfl (hb hby at_9) rfl rfl (l' := #[.val (.int p0), .val (.int p1), .val (.int p2), .val (.ref b1), .unset, .unset, .unset, .unset, .unset]) rfl ks_) ?_
  refine go (u' := T4.setTop (mkF m 11 #[.val (.int p0), .val (.int p1), .val (.int p2), .val (.ref b1), .unset, .unset, .unset, .unset, .unset] [(.int p1)])) (fun _ ks_ => XS.iloadN X4.here hx rfl (hb hby at_10) rfl  ks_) ?_
  refine go (u' := T4.setTop (mkF m 12 #[.val (.int p0), .val (.int p1), .val (.int p2), .val (.ref b1), .unset, .unset, .unset, .unset, .unset] [(.long (p1.toInt64))])) (fun _ ks_ => XS.i2l X4.here hx rfl (hb hby at_11) rfl ks_) ?_
  refine go (u' := T4.setTop (mkF m 13 #[.val (.int p0), .val (.int p1), .val (.int p2), .val (.ref b1), .unset, .unset, .unset, .unset, .unset] [(.int p0), (.long (p1.toInt64))])) (fun _ ks_ => XS.iloadN X4.here hx rfl (hb hby at_12) rfl  ks_) ?_
  refine go (u' := T4.setTop (mkF m 14 #[.val (.int p0), .val (.int p1), .val (.int p2), .val (.ref b1), .unset, .unset, .unset, .unset, .unset] [(.long (p0.toInt64)), (.long (p1.toInt64))])) (fun _ ks_ => XS.i2l X4.here hx rfl (hb hby at_13) rfl ks_) ?_
  refine go (u' := T4.setTop (mkF m 15 #[.val (.int p0), .val (.int p1), .val (.int p2), .val (.ref b1), .unset, .unset, .unset, .unset, .unset] [(.long ((p1.toInt64) - (p0.toInt64)))])) (fun _ ks_ => XS.lsub X4.here hx rfl (hb hby at_14) rfl ks_) ?_
  refine go (u' := T4.setTop (mkF m 16 #[.val (.int p0), .val (.int p1), .val (.int p2), .val (.ref b1), .unset, .unset, .unset, .unset, .unset] [(.long (0 : Int64)), (.long ((p1.toInt64) - (p0.toInt64)))])) (fun _ ks_ => XS.lconst X4.here hx rfl (hb hby at_15) ks_) ?_
  refine go (u' := T4.setTop (mkF m 17 #[.val (.int p0), .val (.int p1), .val (.int p2), .val (.ref b1), .unset, .unset, .unset, .unset, .unset] [(.int (lcmpW ((p1.toInt64) - (p0.toInt64)) (0 : Int64)))])) (fun _ ks_ => XS.lcmp X4.here hx rfl (hb hby at_16) rfl ks_) ?_
  have J25_1 : ∀ v25_1 : Int32, v25_1 = (B (¬ (((p1.toInt64) - (p0.toInt64)) < (0 : Int64)))) → Go p.tables e below G (T4.setTop (mkF m 25 #[.val (.int p0), .val (.int p1), .val (.int p2), .val (.ref b1), .unset, .unset, .unset, .unset, .unset] [(.int v25_1)])) := by
    intro v25_1 hv25_1
    subst hv25_1
    refine go (u' := T4.setTop (mkF m 27 #[.val (.int p0), .val (.int p1), .val (.int p2), .val (.ref b1), .val (.int (B (¬ (((p1.toInt64) - (p0.toInt64)) < (0 : Int64))))), .unset, .unset, .unset, .unset] [])) (fun _ ks_ => XS.istore X4.here hx rfl (hb hby at_25) rfl  (l' := #[.val (.int p0), .val (.int p1), .val (.int p2), .val (.ref b1), .val (.int (B (¬ (((p1.toInt64) - (p0.toInt64)) < (0 : Int64))))), .unset, .unset, .unset, .unset]) rfl ks_) ?_
    refine go (u' := T4.setTop (mkF m 28 #[.val (.int p0), .val (.int p1), .val (.int p2), .val (.ref b1), .val (.int (B (¬ (((p1.toInt64) - (p0.toInt64)) < (0 : Int64))))), .unset, .unset, .unset, .unset] [(.int p2)])) (fun _ ks_ => XS.iloadN X4.here hx rfl (hb hby at_27) rfl  ks_) ?_
    refine go (u' := T4.setTop (mkF m 29 #[.val (.int p0), .val (.int p1), .val (.int p2), .val (.ref b1), .val (.int (B (¬ (((p1.toInt64) - (p0.toInt64)) < (0 : Int64))))), .unset, .unset, .unset, .unset] [(.long (p2.toInt64))])) (fun _ ks_ => XS.i2l X4.here hx rfl (hb hby at_28) rfl ks_) ?_
    refine go (u' := T4.setTop (mkF m 30 #[.val (.int p0), .val (.int p1), .val (.int p2), .val (.ref b1), .val (.int (B (¬ (((p1.toInt64) - (p0.toInt64)) < (0 : Int64))))), .unset, .unset, .unset, .unset] [(.int p0), (.long (p2.toInt64))])) (fun _ ks_ => XS.iloadN X4.here hx rfl (hb hby at_29) rfl  ks_) ?_
    refine go (u' := T4.setTop (mkF m 31 #[.val (.int p0), .val (.int p1), .val (.int p2), .val (.ref b1), .val (.int (B (¬ (((p1.toInt64) - (p0.toInt64)) < (0 : Int64))))), .unset, .unset, .unset, .unset] [(.long (p0.toInt64)), (.long (p2.toInt64))])) (fun _ ks_ => XS.i2l X4.here hx rfl (hb hby at_30) rfl ks_) ?_
    refine go (u' := T4.setTop (mkF m 32 #[.val (.int p0), .val (.int p1), .val (.int p2), .val (.ref b1), .val (.int (B (¬ (((p1.toInt64) - (p0.toInt64)) < (0 : Int64))))), .unset, .unset, .unset, .unset] [(.long ((p2.toInt64) - (p0.toInt64)))])) (fun _ ks_ => XS.lsub X4.here hx rfl (hb hby at_31) rfl ks_) ?_
    refine go (u' := T4.setTop (mkF m 33 #[.val (.int p0), .val (.int p1), .val (.int p2), .val (.ref b1), .val (.int (B (¬ (((p1.toInt64) - (p0.toInt64)) < (0 : Int64))))), .unset, .unset, .unset, .unset] [(.long (0 : Int64)), (.long ((p2.toInt64) - (p0.toInt64)))])) (fun _ ks_ => XS.lconst X4.here hx rfl (hb hby at_32) ks_) ?_
    refine go (u' := T4.setTop (mkF m 34 #[.val (.int p0), .val (.int p1), .val (.int p2), .val (.ref b1), .val (.int (B (¬ (((p1.toInt64) - (p0.toInt64)) < (0 : Int64))))), .unset, .unset, .unset, .unset] [(.int (lcmpW ((p2.toInt64) - (p0.toInt64)) (0 : Int64)))])) (fun _ ks_ => XS.lcmp X4.here hx rfl (hb hby at_33) rfl ks_) ?_
    have J52_2 : ∀ v52_2 : Int32, v52_2 = (B ((¬ (((p2.toInt64) - (p0.toInt64)) < (0 : Int64))) ∧ (¬ (((p1.toInt64) - (p2.toInt64)) < (0 : Int64))))) → Go p.tables e below G (T4.setTop (mkF m 52 #[.val (.int p0), .val (.int p1), .val (.int p2), .val (.ref b1), .val (.int (B (¬ (((p1.toInt64) - (p0.toInt64)) < (0 : Int64))))), .unset, .unset, .unset, .unset] [(.int v52_2)])) := by
      intro v52_2 hv52_2
      subst hv52_2
      refine go (u' := T4.setTop (mkF m 54 #[.val (.int p0), .val (.int p1), .val (.int p2), .val (.ref b1), .val (.int (B (¬ (((p1.toInt64) - (p0.toInt64)) < (0 : Int64))))), .val (.int (B ((¬ (((p2.toInt64) - (p0.toInt64)) < (0 : Int64))) ∧ (¬ (((p1.toInt64) - (p2.toInt64)) < (0 : Int64)))))), .unset, .unset, .unset] [])) (fun _ ks_ => XS.istore X4.here hx rfl (hb hby at_52) rfl  (l' := #[.val (.int p0), .val (.int p1), .val (.int p2), .val (.ref b1), .val (.int (B (¬ (((p1.toInt64) - (p0.toInt64)) < (0 : Int64))))), .val (.int (B ((¬ (((p2.toInt64) - (p0.toInt64)) < (0 : Int64))) ∧ (¬ (((p1.toInt64) - (p2.toInt64)) < (0 : Int64)))))), .unset, .unset, .unset]) rfl ks_) ?_
      refine go (u' := T4.setTop (mkF m 55 #[.val (.int p0), .val (.int p1), .val (.int p2), .val (.ref b1), .val (.int (B (¬ (((p1.toInt64) - (p0.toInt64)) < (0 : Int64))))), .val (.int (B ((¬ (((p2.toInt64) - (p0.toInt64)) < (0 : Int64))) ∧ (¬ (((p1.toInt64) - (p2.toInt64)) < (0 : Int64)))))), .unset, .unset, .unset] [(.ref b1)])) (fun _ ks_ => XS.aloadN X4.here hx rfl (hb hby at_54) rfl rfl ks_) ?_
      refine go (u' := T4.setTop (mkF m 56 #[.val (.int p0), .val (.int p1), .val (.int p2), .val (.ref b1), .val (.int (B (¬ (((p1.toInt64) - (p0.toInt64)) < (0 : Int64))))), .val (.int (B ((¬ (((p2.toInt64) - (p0.toInt64)) < (0 : Int64))) ∧ (¬ (((p1.toInt64) - (p2.toInt64)) < (0 : Int64)))))), .unset, .unset, .unset] [(.int p2), (.ref b1)])) (fun _ ks_ => XS.iloadN X4.here hx rfl (hb hby at_55) rfl  ks_) ?_
      obtain ⟨cq9, kq9, q9a, q9b, q9c⟩ := isOf hZ (rfl : T4.heap = _) F5
      obtain ⟨_, _, ⟨T9, L9, k9, n9⟩, -, X9, ⟨Lc9, hQ9, l9, y9, z9⟩, st9⟩ := X4.virtualBack hx (y := (⟨"com/example/bowerbird/bowerbird/parse/Arity", "takes", "(I)Z"⟩ : MethodName)) (z := (⟨"com/example/bowerbird/bowerbird/parse/Arity", "takes", "(I)Z"⟩ : MethodName)) hown (mvT hZ (ww hw 18 rfl)) (mvT hZ (ww hw 19 rfl)) (notFace_of_selects (args := #[]) (mvT hZ (ww hw 21 rfl))) (mvT hZ (ww hw 21 rfl)) (mvT hZ (ww hw 20 rfl)) (by decide) (backOf (W := 0) (rm4 l Z a0 hw [] b1 p2 p0 p1 T4.heap n0 Z4 F6 F7) hZ (ww hw 22 rfl) (ww hw 2 rfl) (by decide) (by decide)) q9a q9c (g := (mkF m 56 #[.val (.int p0), .val (.int p1), .val (.int p2), .val (.ref b1), .val (.int (B (¬ (((p1.toInt64) - (p0.toInt64)) < (0 : Int64))))), .val (.int (B ((¬ (((p2.toInt64) - (p0.toInt64)) < (0 : Int64))) ∧ (¬ (((p1.toInt64) - (p2.toInt64)) < (0 : Int64)))))), .unset, .unset, .unset] [(.int p2), (.ref b1)])) rfl (by rw [hml]; rfl) (Steps.refl _) (argsL := [(.int p2)]) (rest := []) (lenOf pd__40_I_41_Z rfl) rfl (by show 2 * 0 + _ ≤ _; exact Nat.le_of_eq rfl) (hb hby at_56) (fun _ _ => ⟨rfl, (rfl : T4.heap = _), (by decide : 1 + 0 ≤ _), (by decide : 2 + 0 ≤ _)⟩)
      dsimp only [Pt.U, Pt.locs, Pt.cells, Pt.slots] at X9 l9 y9 z9 st9 hQ9
      subst l9 y9 z9
      obtain ⟨rfl, N9q, eq9⟩ := hQ9
      have N9 := Fr.app N4 N9q
      refine goT (u' := T9.setTop (mkF m 59 #[.val (.int p0), .val (.int p1), .val (.int p2), .val (.ref b1), .val (.int (B (¬ (((p1.toInt64) - (p0.toInt64)) < (0 : Int64))))), .val (.int (B ((¬ (((p2.toInt64) - (p0.toInt64)) < (0 : Int64))) ∧ (¬ (((p1.toInt64) - (p2.toInt64)) < (0 : Int64)))))), .unset, .unset, .unset] [(.int (B ((¬ (p2 < p0)) ∧ (¬ (p1 < p2)))))])) st9 ?_
      refine go (u' := T9.setTop (mkF m 61 #[.val (.int p0), .val (.int p1), .val (.int p2), .val (.ref b1), .val (.int (B (¬ (((p1.toInt64) - (p0.toInt64)) < (0 : Int64))))), .val (.int (B ((¬ (((p2.toInt64) - (p0.toInt64)) < (0 : Int64))) ∧ (¬ (((p1.toInt64) - (p2.toInt64)) < (0 : Int64)))))), .val (.int (B ((¬ (p2 < p0)) ∧ (¬ (p1 < p2))))), .unset, .unset] [])) (fun _ ks_ => XS.istore X9.here hx rfl (hb hby at_59) rfl  (l' := #[.val (.int p0), .val (.int p1), .val (.int p2), .val (.ref b1), .val (.int (B (¬ (((p1.toInt64) - (p0.toInt64)) < (0 : Int64))))), .val (.int (B ((¬ (((p2.toInt64) - (p0.toInt64)) < (0 : Int64))) ∧ (¬ (((p1.toInt64) - (p2.toInt64)) < (0 : Int64)))))), .val (.int (B ((¬ (p2 < p0)) ∧ (¬ (p1 < p2))))), .unset, .unset]) rfl ks_) ?_
      refine go (u' := T9.setTop (mkF m 62 #[.val (.int p0), .val (.int p1), .val (.int p2), .val (.ref b1), .val (.int (B (¬ (((p1.toInt64) - (p0.toInt64)) < (0 : Int64))))), .val (.int (B ((¬ (((p2.toInt64) - (p0.toInt64)) < (0 : Int64))) ∧ (¬ (((p1.toInt64) - (p2.toInt64)) < (0 : Int64)))))), .val (.int (B ((¬ (p2 < p0)) ∧ (¬ (p1 < p2))))), .unset, .unset] [(.ref b1)])) (fun _ ks_ => XS.aloadN X9.here hx rfl (hb hby at_61) rfl rfl ks_) ?_
      refine go (u' := T9.setTop (mkF m 63 #[.val (.int p0), .val (.int p1), .val (.int p2), .val (.ref b1), .val (.int (B (¬ (((p1.toInt64) - (p0.toInt64)) < (0 : Int64))))), .val (.int (B ((¬ (((p2.toInt64) - (p0.toInt64)) < (0 : Int64))) ∧ (¬ (((p1.toInt64) - (p2.toInt64)) < (0 : Int64)))))), .val (.int (B ((¬ (p2 < p0)) ∧ (¬ (p1 < p2))))), .unset, .unset] [(.int p0), (.ref b1)])) (fun _ ks_ => XS.iloadN X9.here hx rfl (hb hby at_62) rfl  ks_) ?_
      obtain ⟨cq10, kq10, q10a, q10b, q10c⟩ := isOf hZ eq9 F5
      obtain ⟨_, _, ⟨T10, L10, k10, n10⟩, -, X10, ⟨Lc10, hQ10, l10, y10, z10⟩, st10⟩ := X9.virtualBack hx (y := (⟨"com/example/bowerbird/bowerbird/parse/Arity", "takes", "(I)Z"⟩ : MethodName)) (z := (⟨"com/example/bowerbird/bowerbird/parse/Arity", "takes", "(I)Z"⟩ : MethodName)) hown (mvT hZ (ww hw 18 rfl)) (mvT hZ (ww hw 19 rfl)) (notFace_of_selects (args := #[]) (mvT hZ (ww hw 21 rfl))) (mvT hZ (ww hw 21 rfl)) (mvT hZ (ww hw 20 rfl)) (by decide) (backOf (W := 0) (rm4 l Z a0 hw [] b1 p0 p0 p1 T4.heap n0 Z4 F6 F7) hZ (ww hw 22 rfl) (ww hw 2 rfl) (by decide) (by decide)) q10a q10c (g := (mkF m 63 #[.val (.int p0), .val (.int p1), .val (.int p2), .val (.ref b1), .val (.int (B (¬ (((p1.toInt64) - (p0.toInt64)) < (0 : Int64))))), .val (.int (B ((¬ (((p2.toInt64) - (p0.toInt64)) < (0 : Int64))) ∧ (¬ (((p1.toInt64) - (p2.toInt64)) < (0 : Int64)))))), .val (.int (B ((¬ (p2 < p0)) ∧ (¬ (p1 < p2))))), .unset, .unset] [(.int p0), (.ref b1)])) rfl (by rw [hml]; rfl) (Steps.refl _) (argsL := [(.int p0)]) (rest := []) (lenOf pd__40_I_41_Z rfl) rfl (by show 2 * 0 + _ ≤ _; exact Nat.le_of_eq rfl) (hb hby at_63) (fun _ _ => ⟨rfl, eq9, (by decide : 1 + 0 ≤ _), (by decide : 2 + 0 ≤ _)⟩)
      dsimp only [Pt.U, Pt.locs, Pt.cells, Pt.slots] at X10 l10 y10 z10 st10 hQ10
      subst l10 y10 z10
      obtain ⟨rfl, N10q, eq10⟩ := hQ10
      have N10 := Fr.app N9 N10q
      refine goT (u' := T10.setTop (mkF m 66 #[.val (.int p0), .val (.int p1), .val (.int p2), .val (.ref b1), .val (.int (B (¬ (((p1.toInt64) - (p0.toInt64)) < (0 : Int64))))), .val (.int (B ((¬ (((p2.toInt64) - (p0.toInt64)) < (0 : Int64))) ∧ (¬ (((p1.toInt64) - (p2.toInt64)) < (0 : Int64)))))), .val (.int (B ((¬ (p2 < p0)) ∧ (¬ (p1 < p2))))), .unset, .unset] [(.int (B ((¬ (p0 < p0)) ∧ (¬ (p1 < p0)))))])) st10 ?_
      refine go (u' := T10.setTop (mkF m 68 #[.val (.int p0), .val (.int p1), .val (.int p2), .val (.ref b1), .val (.int (B (¬ (((p1.toInt64) - (p0.toInt64)) < (0 : Int64))))), .val (.int (B ((¬ (((p2.toInt64) - (p0.toInt64)) < (0 : Int64))) ∧ (¬ (((p1.toInt64) - (p2.toInt64)) < (0 : Int64)))))), .val (.int (B ((¬ (p2 < p0)) ∧ (¬ (p1 < p2))))), .val (.int (B ((¬ (p0 < p0)) ∧ (¬ (p1 < p0))))), .unset] [])) (fun _ ks_ => XS.istore X10.here hx rfl (hb hby at_66) rfl  (l' := #[.val (.int p0), .val (.int p1), .val (.int p2), .val (.ref b1), .val (.int (B (¬ (((p1.toInt64) - (p0.toInt64)) < (0 : Int64))))), .val (.int (B ((¬ (((p2.toInt64) - (p0.toInt64)) < (0 : Int64))) ∧ (¬ (((p1.toInt64) - (p2.toInt64)) < (0 : Int64)))))), .val (.int (B ((¬ (p2 < p0)) ∧ (¬ (p1 < p2))))), .val (.int (B ((¬ (p0 < p0)) ∧ (¬ (p1 < p0))))), .unset]) rfl ks_) ?_
      refine go (u' := T10.setTop (mkF m 69 #[.val (.int p0), .val (.int p1), .val (.int p2), .val (.ref b1), .val (.int (B (¬ (((p1.toInt64) - (p0.toInt64)) < (0 : Int64))))), .val (.int (B ((¬ (((p2.toInt64) - (p0.toInt64)) < (0 : Int64))) ∧ (¬ (((p1.toInt64) - (p2.toInt64)) < (0 : Int64)))))), .val (.int (B ((¬ (p2 < p0)) ∧ (¬ (p1 < p2))))), .val (.int (B ((¬ (p0 < p0)) ∧ (¬ (p1 < p0))))), .unset] [(.ref b1)])) (fun _ ks_ => XS.aloadN X10.here hx rfl (hb hby at_68) rfl rfl ks_) ?_
      refine go (u' := T10.setTop (mkF m 70 #[.val (.int p0), .val (.int p1), .val (.int p2), .val (.ref b1), .val (.int (B (¬ (((p1.toInt64) - (p0.toInt64)) < (0 : Int64))))), .val (.int (B ((¬ (((p2.toInt64) - (p0.toInt64)) < (0 : Int64))) ∧ (¬ (((p1.toInt64) - (p2.toInt64)) < (0 : Int64)))))), .val (.int (B ((¬ (p2 < p0)) ∧ (¬ (p1 < p2))))), .val (.int (B ((¬ (p0 < p0)) ∧ (¬ (p1 < p0))))), .unset] [(.int p1), (.ref b1)])) (fun _ ks_ => XS.iloadN X10.here hx rfl (hb hby at_69) rfl  ks_) ?_
      obtain ⟨cq11, kq11, q11a, q11b, q11c⟩ := isOf hZ eq10 F5
      obtain ⟨_, _, ⟨T11, L11, k11, n11⟩, -, X11, ⟨Lc11, hQ11, l11, y11, z11⟩, st11⟩ := X10.virtualBack hx (y := (⟨"com/example/bowerbird/bowerbird/parse/Arity", "takes", "(I)Z"⟩ : MethodName)) (z := (⟨"com/example/bowerbird/bowerbird/parse/Arity", "takes", "(I)Z"⟩ : MethodName)) hown (mvT hZ (ww hw 18 rfl)) (mvT hZ (ww hw 19 rfl)) (notFace_of_selects (args := #[]) (mvT hZ (ww hw 21 rfl))) (mvT hZ (ww hw 21 rfl)) (mvT hZ (ww hw 20 rfl)) (by decide) (backOf (W := 0) (rm4 l Z a0 hw [] b1 p1 p0 p1 T4.heap n0 Z4 F6 F7) hZ (ww hw 22 rfl) (ww hw 2 rfl) (by decide) (by decide)) q11a q11c (g := (mkF m 70 #[.val (.int p0), .val (.int p1), .val (.int p2), .val (.ref b1), .val (.int (B (¬ (((p1.toInt64) - (p0.toInt64)) < (0 : Int64))))), .val (.int (B ((¬ (((p2.toInt64) - (p0.toInt64)) < (0 : Int64))) ∧ (¬ (((p1.toInt64) - (p2.toInt64)) < (0 : Int64)))))), .val (.int (B ((¬ (p2 < p0)) ∧ (¬ (p1 < p2))))), .val (.int (B ((¬ (p0 < p0)) ∧ (¬ (p1 < p0))))), .unset] [(.int p1), (.ref b1)])) rfl (by rw [hml]; rfl) (Steps.refl _) (argsL := [(.int p1)]) (rest := []) (lenOf pd__40_I_41_Z rfl) rfl (by show 2 * 0 + _ ≤ _; exact Nat.le_of_eq rfl) (hb hby at_70) (fun _ _ => ⟨rfl, eq10, (by decide : 1 + 0 ≤ _), (by decide : 2 + 0 ≤ _)⟩)
      dsimp only [Pt.U, Pt.locs, Pt.cells, Pt.slots] at X11 l11 y11 z11 st11 hQ11
      subst l11 y11 z11
      obtain ⟨rfl, N11q, eq11⟩ := hQ11
      have N11 := Fr.app N10 N11q
      refine goT (u' := T11.setTop (mkF m 73 #[.val (.int p0), .val (.int p1), .val (.int p2), .val (.ref b1), .val (.int (B (¬ (((p1.toInt64) - (p0.toInt64)) < (0 : Int64))))), .val (.int (B ((¬ (((p2.toInt64) - (p0.toInt64)) < (0 : Int64))) ∧ (¬ (((p1.toInt64) - (p2.toInt64)) < (0 : Int64)))))), .val (.int (B ((¬ (p2 < p0)) ∧ (¬ (p1 < p2))))), .val (.int (B ((¬ (p0 < p0)) ∧ (¬ (p1 < p0))))), .unset] [(.int (B ((¬ (p1 < p0)) ∧ (¬ (p1 < p1)))))])) st11 ?_
      refine go (u' := T11.setTop (mkF m 75 #[.val (.int p0), .val (.int p1), .val (.int p2), .val (.ref b1), .val (.int (B (¬ (((p1.toInt64) - (p0.toInt64)) < (0 : Int64))))), .val (.int (B ((¬ (((p2.toInt64) - (p0.toInt64)) < (0 : Int64))) ∧ (¬ (((p1.toInt64) - (p2.toInt64)) < (0 : Int64)))))), .val (.int (B ((¬ (p2 < p0)) ∧ (¬ (p1 < p2))))), .val (.int (B ((¬ (p0 < p0)) ∧ (¬ (p1 < p0))))), .val (.int (B ((¬ (p1 < p0)) ∧ (¬ (p1 < p1)))))] [])) (fun _ ks_ => XS.istore X11.here hx rfl (hb hby at_73) rfl  (l' := #[.val (.int p0), .val (.int p1), .val (.int p2), .val (.ref b1), .val (.int (B (¬ (((p1.toInt64) - (p0.toInt64)) < (0 : Int64))))), .val (.int (B ((¬ (((p2.toInt64) - (p0.toInt64)) < (0 : Int64))) ∧ (¬ (((p1.toInt64) - (p2.toInt64)) < (0 : Int64)))))), .val (.int (B ((¬ (p2 < p0)) ∧ (¬ (p1 < p2))))), .val (.int (B ((¬ (p0 < p0)) ∧ (¬ (p1 < p0))))), .val (.int (B ((¬ (p1 < p0)) ∧ (¬ (p1 < p1)))))]) rfl ks_) ?_
      refine go (u' := T11.setTop (mkF m 77 #[.val (.int p0), .val (.int p1), .val (.int p2), .val (.ref b1), .val (.int (B (¬ (((p1.toInt64) - (p0.toInt64)) < (0 : Int64))))), .val (.int (B ((¬ (((p2.toInt64) - (p0.toInt64)) < (0 : Int64))) ∧ (¬ (((p1.toInt64) - (p2.toInt64)) < (0 : Int64)))))), .val (.int (B ((¬ (p2 < p0)) ∧ (¬ (p1 < p2))))), .val (.int (B ((¬ (p0 < p0)) ∧ (¬ (p1 < p0))))), .val (.int (B ((¬ (p1 < p0)) ∧ (¬ (p1 < p1)))))] [(.int (B ((¬ (p2 < p0)) ∧ (¬ (p1 < p2)))))])) (fun _ ks_ => XS.iload X11.here hx rfl (hb hby at_75) rfl  ks_) ?_
      refine go (u' := T11.setTop (mkF m 79 #[.val (.int p0), .val (.int p1), .val (.int p2), .val (.ref b1), .val (.int (B (¬ (((p1.toInt64) - (p0.toInt64)) < (0 : Int64))))), .val (.int (B ((¬ (((p2.toInt64) - (p0.toInt64)) < (0 : Int64))) ∧ (¬ (((p1.toInt64) - (p2.toInt64)) < (0 : Int64)))))), .val (.int (B ((¬ (p2 < p0)) ∧ (¬ (p1 < p2))))), .val (.int (B ((¬ (p0 < p0)) ∧ (¬ (p1 < p0))))), .val (.int (B ((¬ (p1 < p0)) ∧ (¬ (p1 < p1)))))] [(.int (B ((¬ (((p2.toInt64) - (p0.toInt64)) < (0 : Int64))) ∧ (¬ (((p1.toInt64) - (p2.toInt64)) < (0 : Int64)))))), (.int (B ((¬ (p2 < p0)) ∧ (¬ (p1 < p2)))))])) (fun _ ks_ => XS.iload X11.here hx rfl (hb hby at_77) rfl  ks_) ?_
      refine go (u' := T11.setTop (mkF m 82 #[.val (.int p0), .val (.int p1), .val (.int p2), .val (.ref b1), .val (.int (B (¬ (((p1.toInt64) - (p0.toInt64)) < (0 : Int64))))), .val (.int (B ((¬ (((p2.toInt64) - (p0.toInt64)) < (0 : Int64))) ∧ (¬ (((p1.toInt64) - (p2.toInt64)) < (0 : Int64)))))), .val (.int (B ((¬ (p2 < p0)) ∧ (¬ (p1 < p2))))), .val (.int (B ((¬ (p0 < p0)) ∧ (¬ (p1 < p0))))), .val (.int (B ((¬ (p1 < p0)) ∧ (¬ (p1 < p1)))))] [])) (fun _ ks_ => XS.icmpNo X11.here hx rfl (hb hby at_79) rfl (teq (show (B ((¬ (p2 < p0)) ∧ (¬ (p1 < p2)))) = (B ((¬ (((p2.toInt64) - (p0.toInt64)) < (0 : Int64))) ∧ (¬ (((p1.toInt64) - (p2.toInt64)) < (0 : Int64))))) from (B_iff (by simp only [own_d, Int32.lt_irrefl, not_false_eq_true, and_true, true_and])))).2 ks_) ?_
      refine go (u' := T11.setTop (mkF m 84 #[.val (.int p0), .val (.int p1), .val (.int p2), .val (.ref b1), .val (.int (B (¬ (((p1.toInt64) - (p0.toInt64)) < (0 : Int64))))), .val (.int (B ((¬ (((p2.toInt64) - (p0.toInt64)) < (0 : Int64))) ∧ (¬ (((p1.toInt64) - (p2.toInt64)) < (0 : Int64)))))), .val (.int (B ((¬ (p2 < p0)) ∧ (¬ (p1 < p2))))), .val (.int (B ((¬ (p0 < p0)) ∧ (¬ (p1 < p0))))), .val (.int (B ((¬ (p1 < p0)) ∧ (¬ (p1 < p1)))))] [(.int (B ((¬ (p0 < p0)) ∧ (¬ (p1 < p0)))))])) (fun _ ks_ => XS.iload X11.here hx rfl (hb hby at_82) rfl  ks_) ?_
      refine go (u' := T11.setTop (mkF m 86 #[.val (.int p0), .val (.int p1), .val (.int p2), .val (.ref b1), .val (.int (B (¬ (((p1.toInt64) - (p0.toInt64)) < (0 : Int64))))), .val (.int (B ((¬ (((p2.toInt64) - (p0.toInt64)) < (0 : Int64))) ∧ (¬ (((p1.toInt64) - (p2.toInt64)) < (0 : Int64)))))), .val (.int (B ((¬ (p2 < p0)) ∧ (¬ (p1 < p2))))), .val (.int (B ((¬ (p0 < p0)) ∧ (¬ (p1 < p0))))), .val (.int (B ((¬ (p1 < p0)) ∧ (¬ (p1 < p1)))))] [(.int (B (¬ (((p1.toInt64) - (p0.toInt64)) < (0 : Int64))))), (.int (B ((¬ (p0 < p0)) ∧ (¬ (p1 < p0)))))])) (fun _ ks_ => XS.iload X11.here hx rfl (hb hby at_84) rfl  ks_) ?_
      refine go (u' := T11.setTop (mkF m 89 #[.val (.int p0), .val (.int p1), .val (.int p2), .val (.ref b1), .val (.int (B (¬ (((p1.toInt64) - (p0.toInt64)) < (0 : Int64))))), .val (.int (B ((¬ (((p2.toInt64) - (p0.toInt64)) < (0 : Int64))) ∧ (¬ (((p1.toInt64) - (p2.toInt64)) < (0 : Int64)))))), .val (.int (B ((¬ (p2 < p0)) ∧ (¬ (p1 < p2))))), .val (.int (B ((¬ (p0 < p0)) ∧ (¬ (p1 < p0))))), .val (.int (B ((¬ (p1 < p0)) ∧ (¬ (p1 < p1)))))] [])) (fun _ ks_ => XS.icmpNo X11.here hx rfl (hb hby at_86) rfl (teq (show (B ((¬ (p0 < p0)) ∧ (¬ (p1 < p0)))) = (B (¬ (((p1.toInt64) - (p0.toInt64)) < (0 : Int64)))) from (B_iff (by simp only [own_d, Int32.lt_irrefl, not_false_eq_true, and_true, true_and])))).2 ks_) ?_
      refine go (u' := T11.setTop (mkF m 91 #[.val (.int p0), .val (.int p1), .val (.int p2), .val (.ref b1), .val (.int (B (¬ (((p1.toInt64) - (p0.toInt64)) < (0 : Int64))))), .val (.int (B ((¬ (((p2.toInt64) - (p0.toInt64)) < (0 : Int64))) ∧ (¬ (((p1.toInt64) - (p2.toInt64)) < (0 : Int64)))))), .val (.int (B ((¬ (p2 < p0)) ∧ (¬ (p1 < p2))))), .val (.int (B ((¬ (p0 < p0)) ∧ (¬ (p1 < p0))))), .val (.int (B ((¬ (p1 < p0)) ∧ (¬ (p1 < p1)))))] [(.int (B ((¬ (p1 < p0)) ∧ (¬ (p1 < p1)))))])) (fun _ ks_ => XS.iload X11.here hx rfl (hb hby at_89) rfl  ks_) ?_
      refine go (u' := T11.setTop (mkF m 93 #[.val (.int p0), .val (.int p1), .val (.int p2), .val (.ref b1), .val (.int (B (¬ (((p1.toInt64) - (p0.toInt64)) < (0 : Int64))))), .val (.int (B ((¬ (((p2.toInt64) - (p0.toInt64)) < (0 : Int64))) ∧ (¬ (((p1.toInt64) - (p2.toInt64)) < (0 : Int64)))))), .val (.int (B ((¬ (p2 < p0)) ∧ (¬ (p1 < p2))))), .val (.int (B ((¬ (p0 < p0)) ∧ (¬ (p1 < p0))))), .val (.int (B ((¬ (p1 < p0)) ∧ (¬ (p1 < p1)))))] [(.int (B (¬ (((p1.toInt64) - (p0.toInt64)) < (0 : Int64))))), (.int (B ((¬ (p1 < p0)) ∧ (¬ (p1 < p1)))))])) (fun _ ks_ => XS.iload X11.here hx rfl (hb hby at_91) rfl  ks_) ?_
      refine go (u' := T11.setTop (mkF m 96 #[.val (.int p0), .val (.int p1), .val (.int p2), .val (.ref b1), .val (.int (B (¬ (((p1.toInt64) - (p0.toInt64)) < (0 : Int64))))), .val (.int (B ((¬ (((p2.toInt64) - (p0.toInt64)) < (0 : Int64))) ∧ (¬ (((p1.toInt64) - (p2.toInt64)) < (0 : Int64)))))), .val (.int (B ((¬ (p2 < p0)) ∧ (¬ (p1 < p2))))), .val (.int (B ((¬ (p0 < p0)) ∧ (¬ (p1 < p0))))), .val (.int (B ((¬ (p1 < p0)) ∧ (¬ (p1 < p1)))))] [])) (fun _ ks_ => XS.icmpNo X11.here hx rfl (hb hby at_93) rfl (teq (show (B ((¬ (p1 < p0)) ∧ (¬ (p1 < p1)))) = (B (¬ (((p1.toInt64) - (p0.toInt64)) < (0 : Int64)))) from (B_iff (by simp only [own_d, Int32.lt_irrefl, not_false_eq_true, and_true, true_and])))).2 ks_) ?_
      refine go (u' := T11.setTop (mkF m 97 #[.val (.int p0), .val (.int p1), .val (.int p2), .val (.ref b1), .val (.int (B (¬ (((p1.toInt64) - (p0.toInt64)) < (0 : Int64))))), .val (.int (B ((¬ (((p2.toInt64) - (p0.toInt64)) < (0 : Int64))) ∧ (¬ (((p1.toInt64) - (p2.toInt64)) < (0 : Int64)))))), .val (.int (B ((¬ (p2 < p0)) ∧ (¬ (p1 < p2))))), .val (.int (B ((¬ (p0 < p0)) ∧ (¬ (p1 < p0))))), .val (.int (B ((¬ (p1 < p0)) ∧ (¬ (p1 < p1)))))] [(.int (1 : Int32))])) (fun _ ks_ => XS.iconst X11.here hx rfl (hb hby at_96) ks_) ?_
      refine go (u' := T11.setTop (mkF m 101 #[.val (.int p0), .val (.int p1), .val (.int p2), .val (.ref b1), .val (.int (B (¬ (((p1.toInt64) - (p0.toInt64)) < (0 : Int64))))), .val (.int (B ((¬ (((p2.toInt64) - (p0.toInt64)) < (0 : Int64))) ∧ (¬ (((p1.toInt64) - (p2.toInt64)) < (0 : Int64)))))), .val (.int (B ((¬ (p2 < p0)) ∧ (¬ (p1 < p2))))), .val (.int (B ((¬ (p0 < p0)) ∧ (¬ (p1 < p0))))), .val (.int (B ((¬ (p1 < p0)) ∧ (¬ (p1 < p1)))))] [(.int (1 : Int32))])) (fun _ ks_ => XS.goto X11.here hx rfl (pc0 := 97) (pc' := 101) rfl (hb hby at_97) (by decide) (by decide) ks_) ?_
      rw [hG]
      refine gN X11 hx hlk (t := .boolean) hret (by simp) rfl (hb hby at_101) ?_ (Nat.le_of_ble_eq_true rfl) (Nat.le_of_ble_eq_true rfl)
      show Q_rm0 Z p0 p1 p2 h0 n0 (some (.int (1 : Int32))) T11.heap _
      rw [eq11]
      exact ⟨rfl, N11⟩
    by_cases c34_1 : ((p2.toInt64) - (p0.toInt64)) < (0 : Int64)
    ·
      refine go (u' := T4.setTop (mkF m 51 #[.val (.int p0), .val (.int p1), .val (.int p2), .val (.ref b1), .val (.int (B (¬ (((p1.toInt64) - (p0.toInt64)) < (0 : Int64))))), .unset, .unset, .unset, .unset] [])) (fun _ ks_ => XS.ifYes X4.here hx rfl (pc0 := 34) (pc' := 51) rfl (hb hby at_34) rfl (lT c34_1).1 (by decide) (by decide) ks_) ?_
      refine go (u' := T4.setTop (mkF m 52 #[.val (.int p0), .val (.int p1), .val (.int p2), .val (.ref b1), .val (.int (B (¬ (((p1.toInt64) - (p0.toInt64)) < (0 : Int64))))), .unset, .unset, .unset, .unset] [(.int (0 : Int32))])) (fun _ ks_ => XS.iconst X4.here hx rfl (hb hby at_51) ks_) ?_
      exact J52_2 _ (B0 (fun q => (fun q => q c34_1) q.1))
    ·
      refine go (u' := T4.setTop (mkF m 37 #[.val (.int p0), .val (.int p1), .val (.int p2), .val (.ref b1), .val (.int (B (¬ (((p1.toInt64) - (p0.toInt64)) < (0 : Int64))))), .unset, .unset, .unset, .unset] [])) (fun _ ks_ => XS.ifNo X4.here hx rfl (hb hby at_34) rfl (lF c34_1).1 ks_) ?_
      refine go (u' := T4.setTop (mkF m 38 #[.val (.int p0), .val (.int p1), .val (.int p2), .val (.ref b1), .val (.int (B (¬ (((p1.toInt64) - (p0.toInt64)) < (0 : Int64))))), .unset, .unset, .unset, .unset] [(.int p1)])) (fun _ ks_ => XS.iloadN X4.here hx rfl (hb hby at_37) rfl  ks_) ?_
      refine go (u' := T4.setTop (mkF m 39 #[.val (.int p0), .val (.int p1), .val (.int p2), .val (.ref b1), .val (.int (B (¬ (((p1.toInt64) - (p0.toInt64)) < (0 : Int64))))), .unset, .unset, .unset, .unset] [(.long (p1.toInt64))])) (fun _ ks_ => XS.i2l X4.here hx rfl (hb hby at_38) rfl ks_) ?_
      refine go (u' := T4.setTop (mkF m 40 #[.val (.int p0), .val (.int p1), .val (.int p2), .val (.ref b1), .val (.int (B (¬ (((p1.toInt64) - (p0.toInt64)) < (0 : Int64))))), .unset, .unset, .unset, .unset] [(.int p2), (.long (p1.toInt64))])) (fun _ ks_ => XS.iloadN X4.here hx rfl (hb hby at_39) rfl  ks_) ?_
      refine go (u' := T4.setTop (mkF m 41 #[.val (.int p0), .val (.int p1), .val (.int p2), .val (.ref b1), .val (.int (B (¬ (((p1.toInt64) - (p0.toInt64)) < (0 : Int64))))), .unset, .unset, .unset, .unset] [(.long (p2.toInt64)), (.long (p1.toInt64))])) (fun _ ks_ => XS.i2l X4.here hx rfl (hb hby at_40) rfl ks_) ?_
      refine go (u' := T4.setTop (mkF m 42 #[.val (.int p0), .val (.int p1), .val (.int p2), .val (.ref b1), .val (.int (B (¬ (((p1.toInt64) - (p0.toInt64)) < (0 : Int64))))), .unset, .unset, .unset, .unset] [(.long ((p1.toInt64) - (p2.toInt64)))])) (fun _ ks_ => XS.lsub X4.here hx rfl (hb hby at_41) rfl ks_) ?_
      refine go (u' := T4.setTop (mkF m 43 #[.val (.int p0), .val (.int p1), .val (.int p2), .val (.ref b1), .val (.int (B (¬ (((p1.toInt64) - (p0.toInt64)) < (0 : Int64))))), .unset, .unset, .unset, .unset] [(.long (0 : Int64)), (.long ((p1.toInt64) - (p2.toInt64)))])) (fun _ ks_ => XS.lconst X4.here hx rfl (hb hby at_42) ks_) ?_
      refine go (u' := T4.setTop (mkF m 44 #[.val (.int p0), .val (.int p1), .val (.int p2), .val (.ref b1), .val (.int (B (¬ (((p1.toInt64) - (p0.toInt64)) < (0 : Int64))))), .unset, .unset, .unset, .unset] [(.int (lcmpW ((p1.toInt64) - (p2.toInt64)) (0 : Int64)))])) (fun _ ks_ => XS.lcmp X4.here hx rfl (hb hby at_43) rfl ks_) ?_
      by_cases c44_2 : ((p1.toInt64) - (p2.toInt64)) < (0 : Int64)
      ·
        refine go (u' := T4.setTop (mkF m 51 #[.val (.int p0), .val (.int p1), .val (.int p2), .val (.ref b1), .val (.int (B (¬ (((p1.toInt64) - (p0.toInt64)) < (0 : Int64))))), .unset, .unset, .unset, .unset] [])) (fun _ ks_ => XS.ifYes X4.here hx rfl (pc0 := 44) (pc' := 51) rfl (hb hby at_44) rfl (lT c44_2).1 (by decide) (by decide) ks_) ?_
        refine go (u' := T4.setTop (mkF m 52 #[.val (.int p0), .val (.int p1), .val (.int p2), .val (.ref b1), .val (.int (B (¬ (((p1.toInt64) - (p0.toInt64)) < (0 : Int64))))), .unset, .unset, .unset, .unset] [(.int (0 : Int32))])) (fun _ ks_ => XS.iconst X4.here hx rfl (hb hby at_51) ks_) ?_
        exact J52_2 _ (B0 (fun q => (fun q => q c44_2) q.2))
      ·
        refine go (u' := T4.setTop (mkF m 47 #[.val (.int p0), .val (.int p1), .val (.int p2), .val (.ref b1), .val (.int (B (¬ (((p1.toInt64) - (p0.toInt64)) < (0 : Int64))))), .unset, .unset, .unset, .unset] [])) (fun _ ks_ => XS.ifNo X4.here hx rfl (hb hby at_44) rfl (lF c44_2).1 ks_) ?_
        refine go (u' := T4.setTop (mkF m 48 #[.val (.int p0), .val (.int p1), .val (.int p2), .val (.ref b1), .val (.int (B (¬ (((p1.toInt64) - (p0.toInt64)) < (0 : Int64))))), .unset, .unset, .unset, .unset] [(.int (1 : Int32))])) (fun _ ks_ => XS.iconst X4.here hx rfl (hb hby at_47) ks_) ?_
        refine go (u' := T4.setTop (mkF m 52 #[.val (.int p0), .val (.int p1), .val (.int p2), .val (.ref b1), .val (.int (B (¬ (((p1.toInt64) - (p0.toInt64)) < (0 : Int64))))), .unset, .unset, .unset, .unset] [(.int (1 : Int32))])) (fun _ ks_ => XS.goto X4.here hx rfl (pc0 := 48) (pc' := 52) rfl (hb hby at_48) (by decide) (by decide) ks_) ?_
        exact J52_2 _ (B1 ⟨c34_1, c44_2⟩)
  by_cases c17_3 : ((p1.toInt64) - (p0.toInt64)) < (0 : Int64)
  ·
    refine go (u' := T4.setTop (mkF m 24 #[.val (.int p0), .val (.int p1), .val (.int p2), .val (.ref b1), .unset, .unset, .unset, .unset, .unset] [])) (fun _ ks_ => XS.ifYes X4.here hx rfl (pc0 := 17) (pc' := 24) rfl (hb hby at_17) rfl (lT c17_3).1 (by decide) (by decide) ks_) ?_
    refine go (u' := T4.setTop (mkF m 25 #[.val (.int p0), .val (.int p1), .val (.int p2), .val (.ref b1), .unset, .unset, .unset, .unset, .unset] [(.int (0 : Int32))])) (fun _ ks_ => XS.iconst X4.here hx rfl (hb hby at_24) ks_) ?_
    exact J25_1 _ (B0 (fun q => q c17_3))
  ·
    refine go (u' := T4.setTop (mkF m 20 #[.val (.int p0), .val (.int p1), .val (.int p2), .val (.ref b1), .unset, .unset, .unset, .unset, .unset] [])) (fun _ ks_ => XS.ifNo X4.here hx rfl (hb hby at_17) rfl (lF c17_3).1 ks_) ?_
    refine go (u' := T4.setTop (mkF m 21 #[.val (.int p0), .val (.int p1), .val (.int p2), .val (.ref b1), .unset, .unset, .unset, .unset, .unset] [(.int (1 : Int32))])) (fun _ ks_ => XS.iconst X4.here hx rfl (hb hby at_20) ks_) ?_
    refine go (u' := T4.setTop (mkF m 25 #[.val (.int p0), .val (.int p1), .val (.int p2), .val (.ref b1), .unset, .unset, .unset, .unset, .unset] [(.int (1 : Int32))])) (fun _ ks_ => XS.goto X4.here hx rfl (pc0 := 21) (pc' := 25) rfl (hb hby at_21) (by decide) (by decide) ks_) ?_
    exact J25_1 _ (B1 c17_3)
set_option maxRecDepth 65536 in
set_option maxHeartbeats 40000000 in
theorem comes_1 {Post : Tables → Env → Array Value → State → Outcome → State → Prop} (hpost : ∀ tb e args s v u, (limb_1_1.after args s (.returned v) u = true ∧ limb_1_2.after args s (.returned v) u = true ∧ True) → FrameEnd s (.returned v) u (Jvm.fieldLocs frame_1_writes args s ++ Jvm.arrayLocs frame_1_arrays args s ++ Jvm.staticLocs frame_1_statics s) 16 128 → Post tb e args s (.returned v) u) :
    ArmFor flags0 classFile x code maxLocals ret World_1 tables_1 room_1 Calls_1 rest_1 Pre_1 Post := by
  intro l hfl _ _ p e ha hc hk s m args below hf hA hF happ hP
  obtain ⟨hcalls, hrest, hpre⟩ := hP
  obtain ⟨-, -, -, hnamed, -, -, -, hat⟩ := (Spec.applies_iff hf).mp happ
  obtain ⟨hg, hn⟩ := and_e (Cond.before_iff.mp (show (Jvm.Cond.and given_1 narrow_1).before args s = true from hpre))
  obtain ⟨hcount, r0⟩ := and_e hg
  obtain ⟨a0, r1⟩ := and_e r0
  obtain ⟨a1, r2⟩ := and_e r1
  obtain ⟨w0, w1, w2, rfl⟩ : ∃ w0 w1 w2 : Value, args = #[w0, w1, w2] := by
    have hs : args.size = 3 := by simpa [Cond.value, given_1] using hcount
    obtain ⟨L⟩ := args
    match L, hs with
    | [w0, w1, w2], _ => exact ⟨w0, w1, w2, rfl⟩
  have hw := fun d (hd : d ∈ tables_1) => atoms_spec (ws := Jvm.Cond.code x code maxLocals ret :: tables_1) hat d (List.mem_cons_of_mem _ hd)
  have hfit : Fit s := fun {y c} hc i hi => by
    obtain ⟨ha, rfl⟩ := Array.getElem?_eq_some_iff.mp hc
    have q := List.all_eq_true.mp ((Array.all_eq_true_iff_forall_mem.mp hF) _ (Array.getElem_mem ha)) i (List.mem_range.mpr hi)
    simpa [Array.getElem?_eq_getElem hi] using q
  obtain ⟨x0, e0⟩ := is_v a0
  obtain rfl : w0 = (.int x0) := Option.some.inj e0
  obtain ⟨x1, e1⟩ := is_v a1
  obtain rfl : w1 = (.int x1) := Option.some.inj e1
  obtain ⟨x2, e2⟩ := is_v r2
  obtain rfl : w2 = (.int x2) := Option.some.inj e2
  obtain ⟨n, o, h1, h2, h3, _, L, rfl, ⟨rfl, N⟩, hq⟩ := rm0 l s _ hw tables_1 x0 x1 x2 s.heap s.heap.size (Nat.le_refl _)  p e ha hc hk s m _ below hf ((Spec.applies_iff_loose hf).mp happ).1 ⟨rfl, State.Warmed39.refl s, rfl⟩ trivial
  refine ⟨n, _, h1, h2, h3, hpost _ _ _ _ _ _ ⟨Cond.after_iff.mpr rfl, Cond.after_iff.mpr (eq_i res_at (Term.int_eval (1)) rfl), trivial⟩ ⟨hq.1, hq.2.1, (hq.2.2.sift fun y hy => Or.inr (N y hy)).mono (by decide) (by decide)⟩⟩
theorem main_1_1 : Claimed_1_1 := comes_1 fun _ _ _ _ _ _ h hF => ⟨h.1, hF⟩
theorem main_1_2 : Claimed_1_2 := comes_1 fun _ _ _ _ _ _ h hF => ⟨h.2.1, hF⟩
end Jvm.Pilot.@@N@@
namespace Jvm.Pilot.@@N@@
open Jvm Jvm.ClassFile Sem Op Lib Jvm.Free Jvm.Stand Jvm.Pilot.@@N@@.Jvm.D
/-! MADE BY PROGRAM (witnessworld.py) out of the Statement's table words and the real class files: 10 classes; the members and pool entries that the words name. The judged class is class 1, her method 1. -/
namespace start1
open Jvm.ClassFile
def u (s : String) : CpInfo := .utf8 (stringToUtf16 s)
/-- a pool by its gaps: so many unusable entries, then the entry; so many at the end -/
def gap : Nat → List CpInfo → List CpInfo
  | 0, r => r
  | n + 1, r => .unusable :: gap n r
def poolList (es : List (Nat × CpInfo)) (last : Nat) : List CpInfo := es.foldr (fun e r => gap e.1 (e.2 :: r)) (gap last [])
def pool (es : List (Nat × CpInfo)) (last : Nat) : Array CpInfo := ⟨poolList es last⟩
def fileOf (pool : Array CpInfo) (this : Nat) (attrs : Array Attribute := #[]) (ms : Array MethodInfo := #[]) (fl : Nat := 33) (sup : Nat := 0) (ifs : Array Nat := #[]) (fds : Array FieldInfo := #[]) : ClassFile where
  minorVersion := 0
  majorVersion := 65
  constantPool := pool
  accessFlags := fl
  thisClass := this
  superClass := sup
  interfaces := ifs
  fields := fds
  methods := ms
  attributes := attrs
def plain (name : String) (sup : Option ClassId) : Class where
  name := name
  kind := .ordinary
  loader := none
  accessFlags := 33
  super := sup
  interfaces := #[]
  cf := none
  fields := #[]
  methods := #[]
  instanceTypes := #[]
  staticTypes := #[]
  resolved := #[]
  callSites := []
  init := .initialized
  statics := none
  mirror := none

def pool0 : Array CpInfo := pool [(5, u "<init>"), (0, u "()V"), (1, .class_ 10), (1, u "java/lang/Object")] 113

def k0c0 : Code := { maxStack := 0, maxLocals := 1, code := object_method_1_code, exceptionTable := #[], attributes := #[] }
def k0m0 : Method := { name := "<init>", desc := "()V", sig := { parameters := [], returnType := none }, accessFlags := 1, code := some k0c0 }
/-- java/lang/Object -/
def k0 : Class := { plain "java/lang/Object" none with
  accessFlags := 33
  interfaces := #[]
  cf := some (fileOf pool0 8 #[] #[{ accessFlags := 1, nameIndex := 5, descriptorIndex := 6, attributes := #[] }] 33 0 #[] #[])
  fields := #[]
  methods := #[k0m0]
  instanceTypes := #[]
  staticTypes := #[]
  resolved := Array.replicate 124 none
  statics := none }

def pool1 : Array CpInfo := pool [(2, .class_ 4), (1, u "java/lang/Object"), (0, u "<init>"), (0, u "()V"), (0, .class_ 8), (0, u "com/example/bowerbird/bowerbird/parse/Arity"), (0, .methodref 7 10), (0, .nameAndType 5 11), (0, u "(II)V"), (0, .methodref 7 13), (0, .nameAndType 14 15), (0, u "takes"), (0, u "(I)Z"), (0, .class_ 17), (0, u "com/example/bowerbird/bowerbird/parse/ArityTakesPinLaw"), (2, u "law"), (0, u "(III)Z")] 3

def k1m0 : Method := { name := "<init>", desc := "()V", sig := { parameters := [], returnType := none }, accessFlags := 1, code := none }
def k1c1 : Code := { maxStack := 4, maxLocals := 9, code := code, exceptionTable := #[], attributes := #[] }
def k1m1 : Method := { name := "law", desc := "(III)Z", sig := { parameters := [.int, .int, .int], returnType := some .boolean }, accessFlags := 9, code := some k1c1 }
/-- com/example/bowerbird/bowerbird/parse/ArityTakesPinLaw -/
def k1 : Class := { plain "com/example/bowerbird/bowerbird/parse/ArityTakesPinLaw" (some 0) with
  accessFlags := 49
  interfaces := #[]
  cf := some (fileOf pool1 16 #[] #[{ accessFlags := 1, nameIndex := 5, descriptorIndex := 6, attributes := #[] }, { accessFlags := 9, nameIndex := 20, descriptorIndex := 21, attributes := #[] }] 49 2 #[] #[])
  fields := #[]
  methods := #[k1m0, k1m1]
  instanceTypes := #[]
  staticTypes := #[]
  resolved := Array.replicate 25 none
  statics := none }

def pool2 : Array CpInfo := pool [(1, .methodref 2 3), (0, .class_ 4), (0, .nameAndType 5 6), (0, u "java/lang/Object"), (0, u "<init>"), (0, u "()V"), (0, .class_ 8), (0, u "java/lang/Record")] 13

def k2c0 : Code := { maxStack := 1, maxLocals := 1, code := jdk_30_method_1_code, exceptionTable := #[], attributes := #[] }
def k2m0 : Method := { name := "<init>", desc := "()V", sig := { parameters := [], returnType := none }, accessFlags := 4, code := some k2c0 }
/-- java/lang/Record -/
def k2 : Class := { plain "java/lang/Record" (some 0) with
  accessFlags := 1057
  interfaces := #[]
  cf := some (fileOf pool2 7 #[] #[{ accessFlags := 4, nameIndex := 5, descriptorIndex := 6, attributes := #[] }] 1057 2 #[] #[])
  fields := #[]
  methods := #[k2m0]
  instanceTypes := #[]
  staticTypes := #[]
  resolved := Array.replicate 22 none
  statics := none }

def pool3 : Array CpInfo := pool [(1, .methodref 2 3), (0, .class_ 4), (0, .nameAndType 5 6), (0, u "java/lang/Record"), (0, u "<init>"), (0, u "()V"), (0, .fieldref 8 9), (0, .class_ 10), (0, .nameAndType 11 12), (0, u "com/example/bowerbird/bowerbird/parse/Arity"), (0, u "minimum"), (0, u "I"), (0, .fieldref 8 14), (0, .nameAndType 15 12), (0, u "maximum"), (26, u "(II)V"), (3, u "takes"), (0, u "(I)Z")] 40

def k3c0 : Code := { maxStack := 2, maxLocals := 3, code := prog_24_method_1_code, exceptionTable := #[], attributes := #[] }
def k3m0 : Method := { name := "<init>", desc := "(II)V", sig := { parameters := [.int, .int], returnType := none }, accessFlags := 1, code := some k3c0 }
def k3c1 : Code := { maxStack := 2, maxLocals := 2, code := prog_24_method_2_code, exceptionTable := #[], attributes := #[] }
def k3m1 : Method := { name := "takes", desc := "(I)Z", sig := { parameters := [.int], returnType := some .boolean }, accessFlags := 0, code := some k3c1 }
/-- com/example/bowerbird/bowerbird/parse/Arity -/
def k3 : Class := { plain "com/example/bowerbird/bowerbird/parse/Arity" (some 2) with
  accessFlags := 49
  interfaces := #[]
  cf := some (fileOf pool3 8 #[] #[{ accessFlags := 1, nameIndex := 5, descriptorIndex := 42, attributes := #[] }, { accessFlags := 0, nameIndex := 46, descriptorIndex := 47, attributes := #[] }] 49 2 #[] #[{ accessFlags := 18, nameIndex := 11, descriptorIndex := 12, attributes := #[] }, { accessFlags := 18, nameIndex := 15, descriptorIndex := 12, attributes := #[] }])
  fields := #[{ name := "minimum", type := .int, accessFlags := 18, slot := 0, constantValue := 0 }, { name := "maximum", type := .int, accessFlags := 18, slot := 1, constantValue := 0 }]
  methods := #[k3m0, k3m1]
  instanceTypes := #[.int, .int]
  staticTypes := #[]
  resolved := Array.replicate 88 none
  statics := none }

def pool4 : Array CpInfo := pool [(1, u "java/lang/Cloneable"), (0, .class_ 1), (0, u "java/lang/Object"), (0, .class_ 3)] 3

/-- java/lang/Cloneable -/
def k4 : Class := { plain "java/lang/Cloneable" (some 0) with
  accessFlags := 1537
  interfaces := #[]
  cf := some (fileOf pool4 2 #[] #[] 1537 4 #[] #[])
  fields := #[]
  methods := #[]
  instanceTypes := #[]
  staticTypes := #[]
  resolved := Array.replicate 8 none
  statics := none }

def pool5 : Array CpInfo := pool [(1, u "java/io/Serializable"), (0, .class_ 1), (0, u "java/lang/Object"), (0, .class_ 3)] 3

/-- java/io/Serializable -/
def k5 : Class := { plain "java/io/Serializable" (some 0) with
  accessFlags := 1537
  interfaces := #[]
  cf := some (fileOf pool5 2 #[] #[] 1537 4 #[] #[])
  fields := #[]
  methods := #[]
  instanceTypes := #[]
  staticTypes := #[]
  resolved := Array.replicate 8 none
  statics := none }

/-- the primitive byte -/
def k6 : Class := { plain "byte" none with kind := .primitive 'B', accessFlags := 0x411 }
/-- [B -/
def k7 : Class := { plain "[B" (some 0) with kind := .array 6 .byte, interfaces := #[4, 5], accessFlags := 1041 }

/-- the primitive int -/
def k8 : Class := { plain "int" none with kind := .primitive 'I', accessFlags := 0x411 }
/-- [I -/
def k9 : Class := { plain "[I" (some 0) with kind := .array 8 .int, interfaces := #[4, 5], accessFlags := 1041 }

def heap : Heap := #[]
def classes : Array Class := #[k0, k1, k2, k3, k4, k5, k6, k7, k8, k9]
def interned : List (Array UInt16 × Addr) := []
def slotsUsed : Nat := 0
def theMethod : MethodId := ⟨1, 1⟩
def args0 : Array Value := #[.int 1, .int 5, .int 3]
def aboutOver (below : List Frame) : State where
  vm := { classes := classes, interned := interned.toArray }
  heap := heap
  slotsUsed := slotsUsed
  threads := #[{ frames := .invoking theMethod args0 :: below }]
def below0 : List Frame := [.native { method := ⟨0, 0⟩, args := #[] }]
def about1 : State := aboutOver below0
def p0 : Program := .bare "" "" ""
def e0 : Env := launch0.env 0 0 0
theorem w_frames : about1.frames = Frame.invoking theMethod args0 :: below0 := rfl
set_option maxRecDepth 65536 in
theorem w_args : argsFit about1.vm theMethod args0 = true := by decide +kernel
set_option maxRecDepth 65536 in
theorem w_heap : heapFits about1 = true := by decide +kernel
set_option maxRecDepth 65536 in
theorem w_runnable : about1.curStatus? = some .runnable := by decide +kernel
set_option maxRecDepth 65536 in
theorem w_alone : about1.alone = true := by decide +kernel
set_option maxRecDepth 65536 in
theorem w_named : about1.methodNamed? x = some theMethod := by decide +kernel
set_option maxRecDepth 65536 in
theorem w_hears : about1.hears theMethod below0 = true := by decide +kernel
set_option maxRecDepth 65536 in
theorem w_ripe : about1.ripe theMethod args0 below0 = true := by decide +kernel
theorem w_running : about1.status = .running := rfl
set_option maxRecDepth 65536 in
theorem w_room : about1.hasRoom e0.platform room_1 = true :=
  launch0.hasRoom_least _ room_1 (by decide +kernel) (by decide +kernel) (by decide +kernel) (by decide +kernel) (by decide +kernel) (by decide +kernel)
theorem allAtoms_all (ts : List Jvm.Cond) (a : Array Jvm.Value) (st : Jvm.State) : (allAtoms ts).before a st = ts.all (fun c => c.before a st) := by
  induction ts with
  | nil => rfl
  | cons c t ih =>
    show (Jvm.Cond.and c (allAtoms t)).before a st = _
    rw [Jvm.Cond.before_and, ih, List.all_cons]
def words1 : List Jvm.Cond := Jvm.Cond.code x code maxLocals ret :: tables_1
/-- a 'code' word, met by the world's own term for the bytes: nothing is compared byte by byte -/
theorem code_word {y : MethodName} {bytes : ByteArray} {mx : Nat} {rt : Option FieldType} {a : Array Value} {s : State} {m : MethodId} {meth : Method} {c : Code} (h1 : s.methodNamed? y = some m) (h2 : s.vm.method? m = some meth) (h3 : meth.code = some c) (h4 : c.code = bytes)
    (h5 : (c.maxLocals == mx && c.exceptionTable.isEmpty && decide (c.maxStack ≤ mostOperands) && decide (meth.sig.returnType = rt) && !meth.locks && decide (parseMethodDescriptor y.desc = some meth.sig)) = true) : (Jvm.Cond.code y bytes mx rt).before a s = true := by
  simp only [Bool.and_eq_true, beq_iff_eq, Bool.not_eq_true', decide_eq_true_eq] at h5
  obtain ⟨⟨⟨⟨⟨g1, g2⟩, g3⟩, g4⟩, g5⟩, g6⟩ := h5
  simp [Cond.before, Cond.holds, Cond.value, h1, h2, h3, h4, g1, g2, g3, g4, g5, g6]
def isCode : Jvm.Cond → Bool
  | .code _ _ _ _ => true
  | _ => false
theorem all_split {L : List Jvm.Cond} {P : Jvm.Cond → Bool} (h1 : L.all (fun c => isCode c || P c) = true) (h2 : ∀ c ∈ L.filter isCode, P c = true) : L.all P = true := by
  refine List.all_eq_true.mpr fun c hc => ?_
  have h := List.all_eq_true.mp h1 c hc
  rcases Bool.eq_false_or_eq_true (isCode c) with hi | hi
  · exact h2 c (List.mem_filter.mpr ⟨hc, hi⟩)
  · simpa [hi] using h
set_option maxRecDepth 65536 in
theorem w_c0 : (Jvm.Cond.code x code maxLocals ret).before args0 about1 = true := code_word (m := ⟨1, 1⟩) (meth := k1m1) (c := k1c1) (by decide +kernel) rfl rfl rfl (by decide +kernel)
set_option maxRecDepth 65536 in
theorem w_c1 : (Jvm.Cond.code ({ cls := "com/example/bowerbird/bowerbird/parse/Arity", name := "<init>", desc := "(II)V" } : Jvm.MethodName) prog_24_method_1_code (3 : Nat) (Option.none : Option Jvm.ClassFile.FieldType)).before args0 about1 = true := code_word (m := ⟨3, 0⟩) (meth := k3m0) (c := k3c0) (by decide +kernel) rfl rfl rfl (by decide +kernel)
set_option maxRecDepth 65536 in
theorem w_c2 : (Jvm.Cond.code ({ cls := "java/lang/Record", name := "<init>", desc := "()V" } : Jvm.MethodName) jdk_30_method_1_code (1 : Nat) (Option.none : Option Jvm.ClassFile.FieldType)).before args0 about1 = true := code_word (m := ⟨2, 0⟩) (meth := k2m0) (c := k2c0) (by decide +kernel) rfl rfl rfl (by decide +kernel)
set_option maxRecDepth 65536 in
theorem w_c3 : (Jvm.Cond.code ({ cls := "java/lang/Object", name := "<init>", desc := "()V" } : Jvm.MethodName) object_method_1_code (1 : Nat) (Option.none : Option Jvm.ClassFile.FieldType)).before args0 about1 = true := code_word (m := ⟨0, 0⟩) (meth := k0m0) (c := k0c0) (by decide +kernel) rfl rfl rfl (by decide +kernel)
set_option maxRecDepth 65536 in
theorem w_c4 : (Jvm.Cond.code ({ cls := "com/example/bowerbird/bowerbird/parse/Arity", name := "takes", desc := "(I)Z" } : Jvm.MethodName) prog_24_method_2_code (2 : Nat) (Option.some Jvm.ClassFile.FieldType.boolean)).before args0 about1 = true := code_word (m := ⟨3, 1⟩) (meth := k3m1) (c := k3c1) (by decide +kernel) rfl rfl rfl (by decide +kernel)
def codes1 : List Jvm.Cond := [Jvm.Cond.code x code maxLocals ret, Jvm.Cond.code ({ cls := "com/example/bowerbird/bowerbird/parse/Arity", name := "<init>", desc := "(II)V" } : Jvm.MethodName) prog_24_method_1_code (3 : Nat) (Option.none : Option Jvm.ClassFile.FieldType), Jvm.Cond.code ({ cls := "java/lang/Record", name := "<init>", desc := "()V" } : Jvm.MethodName) jdk_30_method_1_code (1 : Nat) (Option.none : Option Jvm.ClassFile.FieldType), Jvm.Cond.code ({ cls := "java/lang/Object", name := "<init>", desc := "()V" } : Jvm.MethodName) object_method_1_code (1 : Nat) (Option.none : Option Jvm.ClassFile.FieldType), Jvm.Cond.code ({ cls := "com/example/bowerbird/bowerbird/parse/Arity", name := "takes", desc := "(I)Z" } : Jvm.MethodName) prog_24_method_2_code (2 : Nat) (Option.some Jvm.ClassFile.FieldType.boolean)]
set_option maxRecDepth 65536 in
theorem codes_eq : words1.filter isCode = codes1 := rfl
theorem w_codes : ∀ c ∈ words1.filter isCode, c.before args0 about1 = true := by
  rw [codes_eq]
  intro c hc
  simp only [codes1, List.mem_cons, List.not_mem_nil, or_false] at hc
  rcases hc with rfl | rfl | rfl | rfl | rfl
  · exact w_c0
  · exact w_c1
  · exact w_c2
  · exact w_c3
  · exact w_c4
set_option maxRecDepth 65536 in
theorem w_t1 : words1.all (fun c => isCode c || c.before args0 about1) = true := by decide +kernel
theorem w_tables : (allAtoms (Jvm.Cond.code x code maxLocals ret :: tables_1)).before args0 about1 = true := by
  rw [allAtoms_all]
  show words1.all (fun c => c.before args0 about1) = true
  refine all_split ?_ w_codes
  rw [w_t1]
set_option maxRecDepth 65536 in
theorem w_case : (Jvm.Cond.and given_1 narrow_1).before args0 about1 = true := by decide +kernel
theorem w_applies : (headSpec (Jvm.Cond.code x code maxLocals ret :: tables_1) room_1).applies x e0.platform about1 = true :=
  (Spec.applies_iff w_frames).mpr ⟨w_running, w_runnable, w_alone, w_named, w_hears, w_ripe, w_room, w_tables⟩
theorem atStart : AtStart classFile x code maxLocals ret World_1 tables_1 room_1 Calls_1 rest_1 Pre_1 launch0 p0 e0 about1 theMethod args0 below0 :=
  ⟨lists_1, trivial, launch0.admits_env _ _ _, launch0.least_env, fairChoices_fair.cas, fairChoices_fair.clock, w_frames, w_args, w_heap, w_applies, trivial, trivial, w_case⟩
end start1
theorem witness_1 : WitnessClaimed_1 := ⟨start1.p0, start1.e0, start1.about1, start1.theMethod, start1.args0, start1.below0, start1.atStart⟩
end Jvm.Pilot.@@N@@
