import JvmDerived
import JvmDerived.Pilot.@@N@@Statement
import JvmDerived.Pilot.@@N@@Code
set_option linter.unusedVariables false
set_option linter.unusedSimpArgs false
namespace Jvm.Pilot.@@N@@
open Jvm Jvm.ClassFile Sem Op Lib Jvm.Free Jvm.Stand Jvm.LawKit Jvm.RoadKit Bundle Jvm.Pilot.@@N@@.Jvm.D
section OwnKit
variable {p : Program} {l : Launch} {e : Env} {R : Room} {s : State} {m : MethodId} {args : Array Value} {below : List Frame} {meth : Method} {c : Code} {T : State} {locs : List Loc} {cells slots : Nat}
/-- from the state u the run comes to an end of the invocation at which G holds -/
def Go (tb : Tables) (e : Env) (below : List Frame) (G : Outcome → State → Prop) (u : State) : Prop := ∃ s₂ o, Steps tb e below u s₂ ∧ s₂.status = .running ∧ Ended s₂ below o ∧ G o s₂
def End (Q : Option Value → Heap → List Loc → Prop) (s : State) (C S : Nat) (o : Outcome) (u : State) : Prop := ∃ v L, o = .returned v ∧ Q v u.heap L ∧ FrameEnd s o u L C S
theorem go {tb : Tables} {G : Outcome → State → Prop} {u u' : State} (st : ∀ t, Steps tb e below u' t → Steps tb e below u t) (k : Go tb e below G u') : Go tb e below G u := by
  obtain ⟨s₂, o, h1, h2⟩ := k
  exact ⟨s₂, o, st _ h1, h2⟩
theorem goT {tb : Tables} {G : Outcome → State → Prop} {u u' : State} (st : Steps tb e below u u') (k : Go tb e below G u') : Go tb e below G u := go (fun _ h => st.trans h) k
theorem own_fin (X : Stand p l e R s m args below meth c T locs cells slots) (hlk : meth.locks = false) {v : Option Value} (hv : meth.sig.returnType = none → v = none) {Q : Option Value → Heap → List Loc → Prop} {C S : Nat} (hq : Q v T.heap locs) (hc : cells ≤ C) (hs : slots ≤ S) {u : State}
    (st : ∀ fs, (∀ (f : JFrame) (acts : List Action), f.method = m → f.locked = none → f.entered = [] → (doReturn e (T.setTop f) acts v).1 = T.setFrames fs) → Steps p.tables e below u (T.setFrames fs)) : Go p.tables e below (End Q s C S) u := by
  obtain ⟨fs, hr, hrun, hended, hW, hsame⟩ := X.leave (v := v) hv hlk
  exact ⟨_, _, st fs hr, hrun, hended, _, _, rfl, hq, ⟨_, rfl⟩, hW, hsame.mono hc hs⟩
theorem own_retI (X : Stand p l e R s m args below meth c T locs cells slots) (hx : p.tables.exec = Jvm.exec) {pc : Nat} {Ls : Array Slot} {z : Int32} {rest : List Value} (hret : meth.sig.returnType = some .int) (hd : decode c.code pc = .ok (.ireturn, 1)) {fs : List Frame}
    (hl : ∀ (f : JFrame) (acts : List Action), f.method = m → f.locked = none → f.entered = [] → (doReturn e (T.setTop f) acts (some (.int z))).1 = T.setFrames fs) : Steps p.tables e below (T.setTop (mkF m pc Ls (.int z :: rest))) (T.setFrames fs) := by
  have hm' : T.vm.method? m = some meth := X.method'
  have hn : narrow .int (.int z) = .int z := rfl
  show Steps p.tables e below (T.setTop { method := m, pc := pc, locals := Ls, stack := _ :: rest, locked := none }) _
  jvm_step X.here [X.here.top, hx, hd, hm', hret, hn]
  first | (intro acts; rw [hl _ acts rfl rfl rfl]) | rw [hl _ _ rfl rfl rfl]
  exact Steps.refl _
theorem own_retA (X : Stand p l e R s m args below meth c T locs cells slots) (hx : p.tables.exec = Jvm.exec) {pc : Nat} {Ls : Array Slot} {z : Value} {t : FieldType} {rest : List Value} (hret : meth.sig.returnType = some t) (ht : t.isReference = true) (hz : z.isRef = true) (hd : decode c.code pc = .ok (.areturn, 1)) {fs : List Frame}
    (hl : ∀ (f : JFrame) (acts : List Action), f.method = m → f.locked = none → f.entered = [] → (doReturn e (T.setTop f) acts (some z)).1 = T.setFrames fs) : Steps p.tables e below (T.setTop (mkF m pc Ls (z :: rest))) (T.setFrames fs) := by
  have hm' : T.vm.method? m = some meth := X.method'
  show Steps p.tables e below (T.setTop { method := m, pc := pc, locals := Ls, stack := _ :: rest, locked := none }) _
  jvm_step X.here [X.here.top, hx, hd, hm', hret, ht, hz]
  first | (intro acts; rw [hl _ acts rfl rfl rfl]) | rw [hl _ _ rfl rfl rfl]
  exact Steps.refl _
theorem gI (X : Stand p l e R s m args below meth c T locs cells slots) (hx : p.tables.exec = Jvm.exec) (hlk : meth.locks = false) {pc : Nat} {Ls : Array Slot} {z : Int32} {rest : List Value} (hret : meth.sig.returnType = some .int) (hd : decode c.code pc = .ok (.ireturn, 1)) {Q : Option Value → Heap → List Loc → Prop} {C S : Nat} (hq : Q (some (.int z)) T.heap locs) (hc : cells ≤ C) (hs : slots ≤ S) :
    Go p.tables e below (End Q s C S) (T.setTop (mkF m pc Ls (.int z :: rest))) := own_fin X hlk (fun h => by rw [hret] at h; cases h) hq hc hs fun fs hr => own_retI X hx hret hd hr
theorem gN (X : Stand p l e R s m args below meth c T locs cells slots) (hx : p.tables.exec = Jvm.exec) (hlk : meth.locks = false) {pc : Nat} {Ls : Array Slot} {z : Int32} {t : FieldType} {rest : List Value} (hret : meth.sig.returnType = some t) (ht : t = .boolean ∨ t = .byte ∨ t = .char ∨ t = .short) (hn : nar t z = z) (hd : decode c.code pc = .ok (.ireturn, 1)) {Q : Option Value → Heap → List Loc → Prop} {C S : Nat} (hq : Q (some (.int z)) T.heap locs) (hc : cells ≤ C) (hs : slots ≤ S) :
    Go p.tables e below (End Q s C S) (T.setTop (mkF m pc Ls (.int z :: rest))) := own_fin X hlk (fun h => by rw [hret] at h; cases h) hq hc hs fun fs hr => retN X hx hret ht hd (by rw [hn]; exact hr)
theorem gJ (X : Stand p l e R s m args below meth c T locs cells slots) (hx : p.tables.exec = Jvm.exec) (hlk : meth.locks = false) {pc : Nat} {Ls : Array Slot} {z : Int64} (hret : meth.sig.returnType = some .long) (hd : decode c.code pc = .ok (.lreturn, 1)) {Q : Option Value → Heap → List Loc → Prop} {C S : Nat} (hq : Q (some (.long z)) T.heap locs) (hc : cells ≤ C) (hs : slots ≤ S) :
    Go p.tables e below (End Q s C S) (T.setTop (mkF m pc Ls [.long z])) := own_fin X hlk (fun h => by rw [hret] at h; cases h) hq hc hs fun fs hr => X.lreturnOut hx hret hd hr
theorem g0 (X : Stand p l e R s m args below meth c T locs cells slots) (hx : p.tables.exec = Jvm.exec) (hlk : meth.locks = false) {pc : Nat} {Ls : Array Slot} (hret : meth.sig.returnType = none) (hd : decode c.code pc = .ok (.return_, 1)) {Q : Option Value → Heap → List Loc → Prop} {C S : Nat} (hq : Q none T.heap locs) (hc : cells ≤ C) (hs : slots ≤ S) :
    Go p.tables e below (End Q s C S) (T.setTop (mkF m pc Ls [])) := own_fin X hlk (fun _ => rfl) hq hc hs fun fs hr => X.returnOut hx hret hd hr
theorem gA (X : Stand p l e R s m args below meth c T locs cells slots) (hx : p.tables.exec = Jvm.exec) (hlk : meth.locks = false) {pc : Nat} {Ls : Array Slot} {z : Value} {t : FieldType} {rest : List Value} (hret : meth.sig.returnType = some t) (ht : t.isReference = true) (hz : z.isRef = true) (hd : decode c.code pc = .ok (.areturn, 1)) {Q : Option Value → Heap → List Loc → Prop} {C S : Nat} (hq : Q (some z) T.heap locs) (hc : cells ≤ C) (hs : slots ≤ S) :
    Go p.tables e below (End Q s C S) (T.setTop (mkF m pc Ls (z :: rest))) := own_fin X hlk (fun h => by rw [hret] at h; cases h) hq hc hs fun fs hr => own_retA X hx hret ht hz hd hr
end OwnKit
/-- a body's contract out of its walk -/
theorem body {l : Launch} {y : MethodName} {bytes : ByteArray} {maxL : Nat} {ret : Option FieldType} {ws : List Jvm.Cond} {rm : Room} {as' : Array Value} {Z : State} {h0 : Heap} {Q : Option Value → Heap → List Loc → Prop} (pn : plainFor y = true)
    (k : ∀ (p : Program) (e : Env) (s : State) (m : MethodId) (below : List Frame) (meth : Method) (c : Code) (s₁ : State), p.tables.exec = Jvm.exec → c.code = bytes → c.maxLocals = maxL → s.vm.findClass y.cls = some m.cls → meth.name = y.name → meth.sig.returnType = ret → meth.locks = false → Z.Warmed39 s.vm → s₁.heap = h0 →
      Stand p l e rm s m as' below meth c s₁ [] 0 0 → Go p.tables e below (End Q s rm.cells rm.slots) (s₁.setTop (entryFrame m as' maxL))) :
    MetFree l y (head1 (Jvm.Cond.code y bytes maxL ret :: ws) rm) (fun a U => a = as' ∧ Z.Warmed39 U.vm ∧ U.heap = h0) (fun _ _ _ _ _ => True) (fun _ U o U' => ∃ v L, o = .returned v ∧ Q v U'.heap L ∧ FrameEnd U o U' L rm.cells rm.slots) := by
  refine MetFree.of_bodySF pn hisR ?_
  intro p e s m args below meth c s₁ Bd hml hP _
  obtain ⟨rfl, hZ, hh⟩ := hP
  obtain ⟨s₂, o, h1, h2, h3, h4⟩ := k p e s m below meth c s₁ Bd.exec Bd.bytes hml (findClass_of_methodNamed Bd.named) (name_of_methodNamed Bd.named Bd.method).1 Bd.returns Bd.notSynchronized hZ (by rw [← hh, Bd.state]; rfl) (Stand.of_body Bd)
  exact ⟨s₂, o, h1, h2, h3, h4⟩
/-- a boolean as an int -/
def B (P : Prop) [Decidable P] : Int32 := if P then 1 else 0
theorem Bt {P : Prop} [Decidable P] (h : P) : B P = 1 := if_pos h
theorem Bf {P : Prop} [Decidable P] (h : ¬ P) : B P = 0 := if_neg h
theorem B1 {P : Prop} [Decidable P] (h : P) : (1 : Int32) = B P := (if_pos h).symm
theorem B0 {P : Prop} [Decidable P] (h : ¬ P) : (0 : Int32) = B P := (if_neg h).symm
theorem B_iff {P Q : Prop} [Decidable P] [Decidable Q] (h : P ↔ Q) : B P = B Q := by simp only [B, h]
theorem B_nar {P : Prop} [Decidable P] : nar .boolean (B P) = B P := by by_cases h : P <;> simp only [B, h, if_true, if_false] <;> rfl
theorem bT {P : Prop} [Decidable P] (h : P) : ifCond.holds .ne (B P) = true ∧ ifCond.holds .eq (B P) = false := by rw [Bt h]; exact ⟨rfl, rfl⟩
theorem bF {P : Prop} [Decidable P] (h : ¬ P) : ifCond.holds .ne (B P) = false ∧ ifCond.holds .eq (B P) = true := by rw [Bf h]; exact ⟨rfl, rfl⟩
theorem lT {x y : Int64} (h : x < y) : ifCond.holds .lt (lcmpW x y) = true ∧ ifCond.holds .ge (lcmpW x y) = false ∧ ifCond.holds .gt (lcmpW y x) = true ∧ ifCond.holds .le (lcmpW y x) = false := by
  have h1 := tlt ((lw_lt x y).mpr h)
  have h2 := tlt ((lw_gt y x).mpr h)
  simp only [if0]; exact ⟨h1.1, h1.2.1, h2.2.2.1, h2.2.2.2⟩
theorem lF {x y : Int64} (h : ¬ x < y) : ifCond.holds .lt (lcmpW x y) = false ∧ ifCond.holds .ge (lcmpW x y) = true ∧ ifCond.holds .gt (lcmpW y x) = false ∧ ifCond.holds .le (lcmpW y x) = true := by
  have h1 := flt (fun q => h ((lw_lt x y).mp q))
  have h2 := flt (fun q => h ((lw_gt y x).mp q))
  simp only [if0]; exact ⟨h1.1, h1.2.1, h2.2.2.1, h2.2.2.2⟩
theorem lTe {x y : Int64} (h : x = y) : ifCond.holds .eq (lcmpW x y) = true ∧ ifCond.holds .ne (lcmpW x y) = false := by
  simp only [if0]; exact teq ((lw_eq x y).mpr h)
theorem lFe {x y : Int64} (h : ¬ x = y) : ifCond.holds .eq (lcmpW x y) = false ∧ ifCond.holds .ne (lcmpW x y) = true := by
  simp only [if0]; exact feq (fun q => h ((lw_eq x y).mp q))
theorem bTv {P : Prop} [Decidable P] {v : Int32} (hv : v = B P) (h : P) : ifCond.holds .ne v = true ∧ ifCond.holds .eq v = false := hv ▸ bT h
theorem bFv {P : Prop} [Decidable P] {v : Int32} (hv : v = B P) (h : ¬ P) : ifCond.holds .ne v = false ∧ ifCond.holds .eq v = true := hv ▸ bF h
theorem B_narv {P : Prop} [Decidable P] {v : Int32} (hv : v = B P) : nar .boolean v = v := hv ▸ B_nar
theorem own_fitb {v : Int32} (h : nar .boolean v = v) : fits .boolean (.int v) = true := h ▸ fits_nar_bool v
theorem ww {a0 : Array Value} {Z : State} (hw : ∀ d ∈ tables_1, d.before a0 Z = true) (i : Nat) {d : Jvm.Cond} (h : tables_1[i]? = some d) : d.before a0 Z = true := hw d (List.mem_of_getElem? h)
/-! doubles: single steps -/
section OwnDbl
variable {tb : Tables} [Ours tb] {e : Env} {below : List Frame} {T target : State} {m : MethodId} {c : Code} {g : JFrame}
theorem own_i2d (h : At T m c below) (hx : tb.exec = Jvm.exec) (hg : g.method = m) {x : Int32} {rest : List Value} (hd : decode c.code g.pc = .ok (.i2d, 1)) (hs : g.stack = .int x :: rest)
    (hr : Steps tb e below (T.setTop { g with pc := g.pc + 1, stack := .double (FP.i2d x) :: rest }) target) : Steps tb e below (T.setTop g) target := by
  subst hg
  jvm_step h [h.top, hx, hd, hs]
  exact hr
theorem own_l2d (h : At T m c below) (hx : tb.exec = Jvm.exec) (hg : g.method = m) {x : Int64} {rest : List Value} (hd : decode c.code g.pc = .ok (.l2d, 1)) (hs : g.stack = .long x :: rest)
    (hr : Steps tb e below (T.setTop { g with pc := g.pc + 1, stack := .double (FP.l2d x) :: rest }) target) : Steps tb e below (T.setTop g) target := by
  subst hg
  jvm_step h [h.top, hx, hd, hs]
  exact hr
theorem own_dcmp (h : At T m c below) (hx : tb.exec = Jvm.exec) (hg : g.method = m) {op : CmpOp} {x y : UInt64} {rest : List Value} (hd : decode c.code g.pc = .ok (.dcmp op, 1)) (hs : g.stack = .double y :: .double x :: rest)
    (hr : Steps tb e below (T.setTop { g with pc := g.pc + 1, stack := .int (cmpValue (FP.dcmp x y) op) :: rest }) target) : Steps tb e below (T.setTop g) target := by
  subst hg
  jvm_step h [h.top, hx, hd, hs]
  exact hr
theorem own_dloadN (h : At T m c below) (hx : tb.exec = Jvm.exec) (hg : g.method = m) {k : Fin 4} {v : UInt64} (hd : decode c.code g.pc = .ok (.dload_n k, 1)) (hl : g.locals[k.val]? = some (.val (.double v)))
    (hr : Steps tb e below (T.setTop { g with pc := g.pc + 1, stack := .double v :: g.stack }) target) : Steps tb e below (T.setTop g) target := by
  subst hg
  jvm_step h [h.top, hx, hd, hl]
  exact hr
theorem own_dload (h : At T m c below) (hx : tb.exec = Jvm.exec) (hg : g.method = m) {k : Nat} {v : UInt64} (hd : decode c.code g.pc = .ok (.dload k, 2)) (hl : g.locals[k]? = some (.val (.double v)))
    (hr : Steps tb e below (T.setTop { g with pc := g.pc + 2, stack := .double v :: g.stack }) target) : Steps tb e below (T.setTop g) target := by
  subst hg
  jvm_step h [h.top, hx, hd, hl]
  exact hr
theorem own_dconst0 (h : At T m c below) (hx : tb.exec = Jvm.exec) (hg : g.method = m) (hd : decode c.code g.pc = .ok (.dconst 0, 1))
    (hr : Steps tb e below (T.setTop { g with pc := g.pc + 1, stack := .double 0 :: g.stack }) target) : Steps tb e below (T.setTop g) target := by
  subst hg
  jvm_step h [h.top, hx, hd]
  exact hr
theorem own_dmul (h : At T m c below) (hx : tb.exec = Jvm.exec) (hg : g.method = m) {x y : UInt64} {rest : List Value} (hd : decode c.code g.pc = .ok (.dmul, 1)) (hs : g.stack = .double y :: .double x :: rest) (hn : FP.dmul x y &&& 0x7fffffffffffffff ≤ 0x7ff0000000000000)
    (hr : Steps tb e below (T.setTop { g with pc := g.pc + 1, stack := .double (FP.dmul x y) :: rest }) target) : Steps tb e below (T.setTop g) target := by
  obtain ⟨m0, pc0, l0, s0, k0, e0, r0⟩ := g
  subst hg hs
  jvm_step h [h.top, hx, hd, Op.dmul.at_number h.top hn]
  exact hr
theorem own_ddiv (h : At T m c below) (hx : tb.exec = Jvm.exec) (hg : g.method = m) {x y : UInt64} {rest : List Value} (hd : decode c.code g.pc = .ok (.ddiv, 1)) (hs : g.stack = .double y :: .double x :: rest) (hn : FP.ddiv x y &&& 0x7fffffffffffffff ≤ 0x7ff0000000000000)
    (hr : Steps tb e below (T.setTop { g with pc := g.pc + 1, stack := .double (FP.ddiv x y) :: rest }) target) : Steps tb e below (T.setTop g) target := by
  obtain ⟨m0, pc0, l0, s0, k0, e0, r0⟩ := g
  subst hg hs
  jvm_step h [h.top, hx, hd, Op.ddiv.at_number h.top hn]
  exact hr
end OwnDbl
section OwnDbl2
variable {p : Program} {l : Launch} {e : Env} {R : Room} {s : State} {m : MethodId} {args : Array Value} {below : List Frame} {meth : Method} {c : Code} {T : State} {locs : List Loc} {cells slots : Nat}
theorem own_retD (X : Stand p l e R s m args below meth c T locs cells slots) (hx : p.tables.exec = Jvm.exec) {pc : Nat} {Ls : Array Slot} {z : UInt64} {rest : List Value} (hret : meth.sig.returnType = some .double) (hd : decode c.code pc = .ok (.dreturn, 1)) {fs : List Frame}
    (hl : ∀ (f : JFrame) (acts : List Action), f.method = m → f.locked = none → f.entered = [] → (doReturn e (T.setTop f) acts (some (.double z))).1 = T.setFrames fs) : Steps p.tables e below (T.setTop (mkF m pc Ls (.double z :: rest))) (T.setFrames fs) := by
  have hm' : T.vm.method? m = some meth := X.method'
  show Steps p.tables e below (T.setTop { method := m, pc := pc, locals := Ls, stack := _ :: rest, locked := none }) _
  jvm_step X.here [X.here.top, hx, hd, hm', hret]
  first | (intro acts; rw [hl _ acts rfl rfl rfl]) | rw [hl _ _ rfl rfl rfl]
  exact Steps.refl _
theorem gD (X : Stand p l e R s m args below meth c T locs cells slots) (hx : p.tables.exec = Jvm.exec) (hlk : meth.locks = false) {pc : Nat} {Ls : Array Slot} {z : UInt64} {rest : List Value} (hret : meth.sig.returnType = some .double) (hd : decode c.code pc = .ok (.dreturn, 1)) {Q : Option Value → Heap → List Loc → Prop} {C S : Nat} (hq : Q (some (.double z)) T.heap locs) (hc : cells ≤ C) (hs : slots ≤ S) :
    Go p.tables e below (End Q s C S) (T.setTop (mkF m pc Ls (.double z :: rest))) := own_fin X hlk (fun h => by rw [hret] at h; cases h) hq hc hs fun fs hr => own_retD X hx hret hd hr
end OwnDbl2
theorem own_dc (a b : Int32) : FP.dcmp (FP.i2d a) (FP.i2d b) = some (compare a.toInt b.toInt) := Jvm.FP.Core.dcmp_int (Jvm.FP.Core.i2d_int a) (Jvm.FP.Core.i2d_int b)
theorem own_gt (a b : Int32) : ((0 : Int32) < cmpValue (FP.dcmp (FP.i2d a) (FP.i2d b)) .g) ↔ b < a := by
  rw [own_dc, Int32.lt_iff_toInt_lt (x := b)]
  rcases Int.lt_trichotomy a.toInt b.toInt with h | h | h
  · rw [Int.compare_eq_lt.mpr h]; exact ⟨fun q => absurd q (by decide), fun q => by omega⟩
  · rw [Int.compare_eq_eq.mpr h]; exact ⟨fun q => absurd q (by decide), fun q => by omega⟩
  · rw [Int.compare_eq_gt.mpr h]; exact ⟨fun _ => h, fun _ => by decide⟩
theorem own_lt (a b : Int32) : (cmpValue (FP.dcmp (FP.i2d a) (FP.i2d b)) .g < (0 : Int32)) ↔ a < b := by
  rw [own_dc, Int32.lt_iff_toInt_lt (x := a)]
  rcases Int.lt_trichotomy a.toInt b.toInt with h | h | h
  · rw [Int.compare_eq_lt.mpr h]; exact ⟨fun _ => h, fun _ => by decide⟩
  · rw [Int.compare_eq_eq.mpr h]; exact ⟨fun q => absurd q (by decide), fun q => by omega⟩
  · rw [Int.compare_eq_gt.mpr h]; exact ⟨fun q => absurd q (by decide), fun q => by omega⟩
theorem own_dom (a b : Int32) (q r : Int64) : ((¬ (b < a)) ∧ ((¬ (q < r)) ∧ ((a < b) ∨ (r < q)))) ↔ ((¬ (b < a)) ∧ ((¬ (q < r)) ∧ ((¬ (a = b)) ∨ (¬ (q = r))))) := by
  rw [Int32.lt_iff_toInt_lt, Int32.lt_iff_toInt_lt, Int64.lt_iff_toInt_lt, Int64.lt_iff_toInt_lt, ← Int32.toInt_inj, ← Int64.toInt_inj]
  omega
theorem pn_java_lang_Record__init__2 : plainFor (⟨"java/lang/Record", "<init>", "()V"⟩ : MethodName) = true := by first | exact plainFor_of_name (by first | (simp [plainName, overriddenIn]; done) | decide +kernel) | decide +kernel
def Q_rm2 (Z : State) (o0 : Addr) (h0 : Heap) (n0 : Nat) (v : Option Value) (h : Heap) (L : List Loc) : Prop := v = none ∧ Fr n0 L ∧ h = h0
set_option maxRecDepth 65536 in
set_option maxHeartbeats 4000000 in
theorem ef_rm2 (m : MethodId) (o0 : Addr) : entryFrame m #[(.ref o0)] 1 = mkF m 0 #[.val (.ref o0)] [] := by first | (simp [entryFrame, mkF, argsToLocals, Value.category, maxLocals]; done) | rfl
theorem d2_0 : decode jdk_30_method_1_code 0 = .ok (.aload_n 0, 1) := by decide +kernel
theorem d2_1 : decode jdk_30_method_1_code 1 = .ok (.invokespecial 1, 3) := by decide +kernel
theorem d2_4 : decode jdk_30_method_1_code 4 = .ok (.return_, 1) := by decide +kernel
set_option maxRecDepth 65536 in
set_option maxHeartbeats 40000000 in
theorem rm2 (l : Launch) (Z : State) (a0 : Array Value) (hw : ∀ d ∈ tables_1, d.before a0 Z = true) (ws : List Jvm.Cond) (o0 : Addr) (h0 : Heap) (n0 : Nat) (Z0 : n0 ≤ h0.size)  :
    MetFree l (⟨"java/lang/Record", "<init>", "()V"⟩ : MethodName) (head1 (Jvm.Cond.code (⟨"java/lang/Record", "<init>", "()V"⟩ : MethodName) jdk_30_method_1_code 1 none :: ws) ({ frames := 1, cells := 0, slots := 0, locals := 12 } : Room)) (fun a U => a = #[(.ref o0)] ∧ Z.Warmed39 U.vm ∧ U.heap = h0) (fun _ _ _ _ _ => True) (fun _ U o U' => ∃ v L, o = .returned v ∧ Q_rm2 Z o0 h0 n0 v U'.heap L ∧ FrameEnd U o U' L ({ frames := 1, cells := 0, slots := 0, locals := 12 } : Room).cells ({ frames := 1, cells := 0, slots := 0, locals := 12 } : Room).slots) := by
  refine body pn_java_lang_Record__init__2 ?_
  intro p e s m below meth c s₁ hx hby hml hown hnm hret hlk hZ e0 X0
  replace hml : c.maxLocals = 1 := hml
  replace hown : s.vm.findClass "java/lang/Record" = some m.cls := hown
  replace hnm : meth.name = "<init>" := hnm
  replace hret : meth.sig.returnType = none := hret
  have N0 := Fr.nil n0
  rw [ef_rm2]
  obtain ⟨G, hG⟩ : ∃ G, G = End (Q_rm2 Z o0 h0 n0) s ({ frames := 1, cells := 0, slots := 0, locals := 12 } : Room).cells ({ frames := 1, cells := 0, slots := 0, locals := 12 } : Room).slots := ⟨_, rfl⟩
  rw [← hG]
  refine go (u' := s₁.setTop (mkF m 1 #[.val (.ref o0)] [(.ref o0)])) (fun _ ks_ => XS.aloadN X0.here hx rfl (hb hby d2_0) rfl rfl ks_) ?_
  obtain ⟨T1, X1, e1, st1⟩ := initO X0 hx hZ hown (ww hw 11 rfl) (ww hw 12 rfl) (ww hw 13 rfl) e0 (g := (mkF m 1 #[.val (.ref o0)] [(.ref o0)])) rfl (by rw [hml]; rfl) rfl (hb hby d2_1) (by decide) (W := 0) (by show 2 * 0 + _ ≤ _; exact Nat.le_of_eq rfl) (by decide)
  refine go (u' := T1.setTop (mkF m 4 #[.val (.ref o0)] [])) st1 ?_
  rw [hG]
  refine g0 X1 hx hlk hret (hb hby d2_4) ?_ (Nat.le_of_ble_eq_true rfl) (Nat.le_of_ble_eq_true rfl)
  show Q_rm2 Z o0 h0 n0 (none) T1.heap _
  rw [e1]
  exact ⟨rfl, N0, rfl⟩
theorem pd__40__41_V : parseMethodDescriptor "()V" = some ⟨[], none⟩ := by decide +kernel
theorem pn_com_example_lootpath_lootpath_ttp_Objectives__init__1 : plainFor (⟨"com/example/lootpath/lootpath/ttp/Objectives", "<init>", "(DJ)V"⟩ : MethodName) = true := by first | exact plainFor_of_name (by first | (simp [plainName, overriddenIn]; done) | decide +kernel) | decide +kernel
def Q_rm1 (Z : State) (o0 : Addr) (d1 : UInt64) (q2 : Int64) (h0 : Heap) (n0 : Nat) (v : Option Value) (h : Heap) (L : List Loc) : Prop := v = none ∧ Fr n0 L ∧ Keep h0 h [o0] ∧ (Exa Z h o0 "com/example/lootpath/lootpath/ttp/Objectives") ∧ (Fld Z h o0 "com/example/lootpath/lootpath/ttp/Objectives" "time" "D" (.double d1)) ∧ (Fld Z h o0 "com/example/lootpath/lootpath/ttp/Objectives" "profit" "J" (.long q2))
set_option maxRecDepth 65536 in
set_option maxHeartbeats 4000000 in
theorem ef_rm1 (m : MethodId) (o0 : Addr) (d1 : UInt64) (q2 : Int64) : entryFrame m #[(.ref o0), (.double d1), (.long q2)] 5 = mkF m 0 #[.val (.ref o0), .val (.double d1), .second, .val (.long q2), .second] [] := by first | (simp [entryFrame, mkF, argsToLocals, Value.category, maxLocals]; done) | rfl
theorem d1_0 : decode prog_43_method_1_code 0 = .ok (.aload_n 0, 1) := by decide +kernel
theorem d1_1 : decode prog_43_method_1_code 1 = .ok (.invokespecial 1, 3) := by decide +kernel
theorem d1_4 : decode prog_43_method_1_code 4 = .ok (.aload_n 0, 1) := by decide +kernel
theorem d1_5 : decode prog_43_method_1_code 5 = .ok (.dload_n 1, 1) := by decide +kernel
theorem d1_6 : decode prog_43_method_1_code 6 = .ok (.putfield 7, 3) := by decide +kernel
theorem d1_9 : decode prog_43_method_1_code 9 = .ok (.aload_n 0, 1) := by decide +kernel
theorem d1_10 : decode prog_43_method_1_code 10 = .ok (.lload_n 3, 1) := by decide +kernel
theorem d1_11 : decode prog_43_method_1_code 11 = .ok (.putfield 13, 3) := by decide +kernel
theorem d1_14 : decode prog_43_method_1_code 14 = .ok (.return_, 1) := by decide +kernel
set_option maxRecDepth 65536 in
set_option maxHeartbeats 40000000 in
theorem rm1 (l : Launch) (Z : State) (a0 : Array Value) (hw : ∀ d ∈ tables_1, d.before a0 Z = true) (ws : List Jvm.Cond) (o0 : Addr) (d1 : UInt64) (q2 : Int64) (h0 : Heap) (n0 : Nat) (Z0 : n0 ≤ h0.size) (g_o0 : n0 ≤ o0) (F0 : Exa Z h0 o0 "com/example/lootpath/lootpath/ttp/Objectives") (F1 : Fld Z h0 o0 "com/example/lootpath/lootpath/ttp/Objectives" "time" "D" (.double (0 : UInt64))) (F2 : Fld Z h0 o0 "com/example/lootpath/lootpath/ttp/Objectives" "profit" "J" (.long (0 : Int64))) :
    MetFree l (⟨"com/example/lootpath/lootpath/ttp/Objectives", "<init>", "(DJ)V"⟩ : MethodName) (head1 (Jvm.Cond.code (⟨"com/example/lootpath/lootpath/ttp/Objectives", "<init>", "(DJ)V"⟩ : MethodName) prog_43_method_1_code 5 none :: ws) ({ frames := 2, cells := 0, slots := 0, locals := 24 } : Room)) (fun a U => a = #[(.ref o0), (.double d1), (.long q2)] ∧ Z.Warmed39 U.vm ∧ U.heap = h0) (fun _ _ _ _ _ => True) (fun _ U o U' => ∃ v L, o = .returned v ∧ Q_rm1 Z o0 d1 q2 h0 n0 v U'.heap L ∧ FrameEnd U o U' L ({ frames := 2, cells := 0, slots := 0, locals := 24 } : Room).cells ({ frames := 2, cells := 0, slots := 0, locals := 24 } : Room).slots) := by
  refine body pn_com_example_lootpath_lootpath_ttp_Objectives__init__1 ?_
  intro p e s m below meth c s₁ hx hby hml hown hnm hret hlk hZ e0 X0
  replace hml : c.maxLocals = 5 := hml
  replace hown : s.vm.findClass "com/example/lootpath/lootpath/ttp/Objectives" = some m.cls := hown
  replace hnm : meth.name = "<init>" := hnm
  replace hret : meth.sig.returnType = none := hret
  have N0 := Fr.nil n0
  rw [ef_rm1]
  obtain ⟨G, hG⟩ : ∃ G, G = End (Q_rm1 Z o0 d1 q2 h0 n0) s ({ frames := 2, cells := 0, slots := 0, locals := 24 } : Room).cells ({ frames := 2, cells := 0, slots := 0, locals := 24 } : Room).slots := ⟨_, rfl⟩
  rw [← hG]
  refine go (u' := s₁.setTop (mkF m 1 #[.val (.ref o0), .val (.double d1), .second, .val (.long q2), .second] [(.ref o0)])) (fun _ ks_ => XS.aloadN X0.here hx rfl (hb hby d1_0) rfl rfl ks_) ?_
  obtain ⟨_, _, ⟨T1, L1, k1, n1⟩, -, X1, ⟨Lc1, hQ1, l1, y1, z1⟩, st1⟩ := X0.specialBack hx (y := (⟨"java/lang/Record", "<init>", "()V"⟩ : MethodName)) rfl hown (mvT hZ (ww hw 6 rfl)) (mvT hZ (ww hw 7 rfl)) (mvT hZ (ww hw 10 rfl)) (by decide) (backOf (W := 0) (rm2 l Z a0 hw [] o0 h0 n0 Z0) hZ (ww hw 10 rfl) (ww hw 9 rfl) (by decide) (by decide)) (g := (mkF m 1 #[.val (.ref o0), .val (.double d1), .second, .val (.long q2), .second] [(.ref o0)])) rfl (by rw [hml]; rfl) (Steps.refl _) (a := o0) (argsL := []) (rest := []) (lenOf pd__40__41_V rfl) rfl (by show 2 * 0 + _ ≤ _; exact Nat.le_of_eq rfl) (hb hby d1_1) (fun _ _ => ⟨rfl, e0, (by decide : 0 + 0 ≤ _), (by decide : 0 + 0 ≤ _)⟩)
  dsimp only [Pt.U, Pt.locs, Pt.cells, Pt.slots] at X1 l1 y1 z1 st1 hQ1
  subst l1 y1 z1
  obtain ⟨rfl, N1q, eq1⟩ := hQ1
  have N1 := Fr.app N0 N1q
  refine goT (u' := T1.setTop (mkF m 4 #[.val (.ref o0), .val (.double d1), .second, .val (.long q2), .second] [])) st1 ?_
  refine go (u' := T1.setTop (mkF m 5 #[.val (.ref o0), .val (.double d1), .second, .val (.long q2), .second] [(.ref o0)])) (fun _ ks_ => XS.aloadN X1.here hx rfl (hb hby d1_4) rfl rfl ks_) ?_
  refine go (u' := T1.setTop (mkF m 6 #[.val (.ref o0), .val (.double d1), .second, .val (.long q2), .second] [(.double d1), (.ref o0)])) (fun _ ks_ => own_dloadN X1.here hx rfl (hb hby d1_5) rfl ks_) ?_
  obtain ⟨T2, h2, X2, e2, W2, st2⟩ := putF X1 hx hZ hown (host := "") (Or.inl (ww hw 14 rfl)) Via.refl eq1 F1 F0 (Or.inr ⟨(ww hw 15 rfl), rfl, hnm⟩) (ww hw 1 rfl) (ty := .double) (by decide) rfl rfl (g := (mkF m 6 #[.val (.ref o0), .val (.double d1), .second, .val (.long q2), .second] [(.double d1), (.ref o0)])) rfl rfl (hb hby d1_6)
  have N2 := Fr.snoc X2 N1 g_o0
  have K2 : Keep h0 h2 [o0] := (Keep.refl h0 [o0]).wr W2 (Or.inl (List.mem_of_getElem? (i := 0) rfl))
  have Z2 : n0 ≤ h2.size := Nat.le_trans Z0 (Keep.of_wr W2).1
  have Fa3 : Exa Z h2 o0 "com/example/lootpath/lootpath/ttp/Objectives" := F0.wr W2
  have Fa4 : Fld Z h2 o0 "com/example/lootpath/lootpath/ttp/Objectives" "profit" "J" (.long (0 : Int64)) := F2.other W2 (Or.inr (slot_ne (Or.inr (ww hw 17 rfl)) (Or.inr (ww hw 15 rfl)) (by decide) (t := .long) (t' := .double) (by decide) (by decide)))
  have Fa5 : Fld Z h2 o0 "com/example/lootpath/lootpath/ttp/Objectives" "time" "D" (.double d1) := F1.same W2
  refine go (u' := T2.setTop (mkF m 9 #[.val (.ref o0), .val (.double d1), .second, .val (.long q2), .second] [])) st2 ?_
  refine go (u' := T2.setTop (mkF m 10 #[.val (.ref o0), .val (.double d1), .second, .val (.long q2), .second] [(.ref o0)])) (fun _ ks_ => XS.aloadN X2.here hx rfl (hb hby d1_9) rfl rfl ks_) ?_
  refine go (u' := T2.setTop (mkF m 11 #[.val (.ref o0), .val (.double d1), .second, .val (.long q2), .second] [(.long q2), (.ref o0)])) (fun _ ks_ => XS.lloadN X2.here hx rfl (hb hby d1_10) rfl  ks_) ?_
  obtain ⟨T6, h6, X6, e6, W6, st6⟩ := putF X2 hx hZ hown (host := "") (Or.inl (ww hw 16 rfl)) Via.refl e2 Fa4 Fa3 (Or.inr ⟨(ww hw 17 rfl), rfl, hnm⟩) (ww hw 1 rfl) (ty := .long) (by decide) rfl rfl (g := (mkF m 11 #[.val (.ref o0), .val (.double d1), .second, .val (.long q2), .second] [(.long q2), (.ref o0)])) rfl rfl (hb hby d1_11)
  have N6 := Fr.snoc X6 N2 g_o0
  have K6 : Keep h0 h6 [o0] := K2.wr W6 (Or.inl (List.mem_of_getElem? (i := 0) rfl))
  have Z6 : n0 ≤ h6.size := Nat.le_trans Z2 (Keep.of_wr W6).1
  have Fa7 : Exa Z h6 o0 "com/example/lootpath/lootpath/ttp/Objectives" := Fa3.wr W6
  have Fa8 : Fld Z h6 o0 "com/example/lootpath/lootpath/ttp/Objectives" "time" "D" (.double d1) := Fa5.other W6 (Or.inr (slot_ne (Or.inr (ww hw 15 rfl)) (Or.inr (ww hw 17 rfl)) (by decide) (t := .double) (t' := .long) (by decide) (by decide)))
  have Fa9 : Fld Z h6 o0 "com/example/lootpath/lootpath/ttp/Objectives" "profit" "J" (.long q2) := Fa4.same W6
  refine go (u' := T6.setTop (mkF m 14 #[.val (.ref o0), .val (.double d1), .second, .val (.long q2), .second] [])) st6 ?_
  rw [hG]
  refine g0 X6 hx hlk hret (hb hby d1_14) ?_ (Nat.le_of_ble_eq_true rfl) (Nat.le_of_ble_eq_true rfl)
  show Q_rm1 Z o0 d1 q2 h0 n0 (none) T6.heap _
  rw [e6]
  exact ⟨rfl, N6, K6, Fa7, Fa8, Fa9⟩
theorem pn_com_example_lootpath_lootpath_ttp_ObjectivesDominatesPinLaw_expected_4 : plainFor (⟨"com/example/lootpath/lootpath/ttp/ObjectivesDominatesPinLaw", "expected", "(IJIJ)Z"⟩ : MethodName) = true := by first | exact plainFor_of_name (by first | (simp [plainName, overriddenIn]; done) | decide +kernel) | decide +kernel
def Q_rm4 (Z : State) (p0 : Int32) (q1 : Int64) (p2 : Int32) (q3 : Int64) (h0 : Heap) (n0 : Nat) (v : Option Value) (h : Heap) (L : List Loc) : Prop := v = some (.int (B ((¬ (p2 < p0)) ∧ ((¬ (q1 < q3)) ∧ ((¬ (p0 = p2)) ∨ (¬ (q1 = q3))))))) ∧ Fr n0 L ∧ h = h0
set_option maxRecDepth 65536 in
set_option maxHeartbeats 4000000 in
theorem ef_rm4 (m : MethodId) (p0 : Int32) (q1 : Int64) (p2 : Int32) (q3 : Int64) : entryFrame m #[(.int p0), (.long q1), (.int p2), (.long q3)] 8 = mkF m 0 #[.val (.int p0), .val (.long q1), .second, .val (.int p2), .val (.long q3), .second, .unset, .unset] [] := by first | (simp [entryFrame, mkF, argsToLocals, Value.category, maxLocals]; done) | rfl
theorem d4_0 : decode method_3_code 0 = .ok (.iload_n 0, 1) := by decide +kernel
theorem d4_1 : decode method_3_code 1 = .ok (.iload_n 3, 1) := by decide +kernel
theorem d4_2 : decode method_3_code 2 = .ok (.if_icmp .gt 14, 3) := by decide +kernel
theorem d4_5 : decode method_3_code 5 = .ok (.lload_n 1, 1) := by decide +kernel
theorem d4_6 : decode method_3_code 6 = .ok (.lload 4, 2) := by decide +kernel
theorem d4_8 : decode method_3_code 8 = .ok (.lcmp, 1) := by decide +kernel
theorem d4_9 : decode method_3_code 9 = .ok (.ifCond .lt 7, 3) := by decide +kernel
theorem d4_12 : decode method_3_code 12 = .ok (.iconst 1, 1) := by decide +kernel
theorem d4_13 : decode method_3_code 13 = .ok (.goto 4, 3) := by decide +kernel
theorem d4_16 : decode method_3_code 16 = .ok (.iconst 0, 1) := by decide +kernel
theorem d4_17 : decode method_3_code 17 = .ok (.istore 6, 2) := by decide +kernel
theorem d4_19 : decode method_3_code 19 = .ok (.iload_n 0, 1) := by decide +kernel
theorem d4_20 : decode method_3_code 20 = .ok (.iload_n 3, 1) := by decide +kernel
theorem d4_21 : decode method_3_code 21 = .ok (.if_icmp .ne 14, 3) := by decide +kernel
theorem d4_24 : decode method_3_code 24 = .ok (.lload_n 1, 1) := by decide +kernel
theorem d4_25 : decode method_3_code 25 = .ok (.lload 4, 2) := by decide +kernel
theorem d4_27 : decode method_3_code 27 = .ok (.lcmp, 1) := by decide +kernel
theorem d4_28 : decode method_3_code 28 = .ok (.ifCond .ne 7, 3) := by decide +kernel
theorem d4_31 : decode method_3_code 31 = .ok (.iconst 1, 1) := by decide +kernel
theorem d4_32 : decode method_3_code 32 = .ok (.goto 4, 3) := by decide +kernel
theorem d4_35 : decode method_3_code 35 = .ok (.iconst 0, 1) := by decide +kernel
theorem d4_36 : decode method_3_code 36 = .ok (.istore 7, 2) := by decide +kernel
theorem d4_38 : decode method_3_code 38 = .ok (.iload 6, 2) := by decide +kernel
theorem d4_40 : decode method_3_code 40 = .ok (.ifCond .eq 12, 3) := by decide +kernel
theorem d4_43 : decode method_3_code 43 = .ok (.iload 7, 2) := by decide +kernel
theorem d4_45 : decode method_3_code 45 = .ok (.ifCond .ne 7, 3) := by decide +kernel
theorem d4_48 : decode method_3_code 48 = .ok (.iconst 1, 1) := by decide +kernel
theorem d4_49 : decode method_3_code 49 = .ok (.goto 4, 3) := by decide +kernel
theorem d4_52 : decode method_3_code 52 = .ok (.iconst 0, 1) := by decide +kernel
theorem d4_53 : decode method_3_code 53 = .ok (.ireturn, 1) := by decide +kernel
set_option maxRecDepth 65536 in
set_option maxHeartbeats 40000000 in
theorem rm4 (l : Launch) (Z : State) (a0 : Array Value) (hw : ∀ d ∈ tables_1, d.before a0 Z = true) (ws : List Jvm.Cond) (p0 : Int32) (q1 : Int64) (p2 : Int32) (q3 : Int64) (h0 : Heap) (n0 : Nat) (Z0 : n0 ≤ h0.size)  :
    MetFree l (⟨"com/example/lootpath/lootpath/ttp/ObjectivesDominatesPinLaw", "expected", "(IJIJ)Z"⟩ : MethodName) (head1 (Jvm.Cond.code (⟨"com/example/lootpath/lootpath/ttp/ObjectivesDominatesPinLaw", "expected", "(IJIJ)Z"⟩ : MethodName) method_3_code 8 (some .boolean) :: ws) ({ frames := 0, cells := 0, slots := 0, locals := 0 } : Room)) (fun a U => a = #[(.int p0), (.long q1), (.int p2), (.long q3)] ∧ Z.Warmed39 U.vm ∧ U.heap = h0) (fun _ _ _ _ _ => True) (fun _ U o U' => ∃ v L, o = .returned v ∧ Q_rm4 Z p0 q1 p2 q3 h0 n0 v U'.heap L ∧ FrameEnd U o U' L ({ frames := 0, cells := 0, slots := 0, locals := 0 } : Room).cells ({ frames := 0, cells := 0, slots := 0, locals := 0 } : Room).slots) := by
  refine body pn_com_example_lootpath_lootpath_ttp_ObjectivesDominatesPinLaw_expected_4 ?_
  intro p e s m below meth c s₁ hx hby hml hown hnm hret hlk hZ e0 X0
  replace hml : c.maxLocals = 8 := hml
  replace hown : s.vm.findClass "com/example/lootpath/lootpath/ttp/ObjectivesDominatesPinLaw" = some m.cls := hown
  replace hnm : meth.name = "expected" := hnm
  replace hret : meth.sig.returnType = (some .boolean) := hret
  have N0 := Fr.nil n0
  rw [ef_rm4]
  obtain ⟨G, hG⟩ : ∃ G, G = End (Q_rm4 Z p0 q1 p2 q3 h0 n0) s ({ frames := 0, cells := 0, slots := 0, locals := 0 } : Room).cells ({ frames := 0, cells := 0, slots := 0, locals := 0 } : Room).slots := ⟨_, rfl⟩
  rw [← hG]
  refine go (u' := s₁.setTop (mkF m 1 #[.val (.int p0), .val (.long q1), .second, .val (.int p2), .val (.long q3), .second, .unset, .unset] [(.int p0)])) (fun _ ks_ => XS.iloadN X0.here hx rfl (hb hby d4_0) rfl  ks_) ?_
  refine go (u' := s₁.setTop (mkF m 2 #[.val (.int p0), .val (.long q1), .second, .val (.int p2), .val (.long q3), .second, .unset, .unset] [(.int p2), (.int p0)])) (fun _ ks_ => XS.iloadN X0.here hx rfl (hb hby d4_1) rfl  ks_) ?_
  by_cases c2_1 : p2 < p0
  ·
    refine go (u' := s₁.setTop (mkF m 16 #[.val (.int p0), .val (.long q1), .second, .val (.int p2), .val (.long q3), .second, .unset, .unset] [])) (fun _ ks_ => XS.icmpYes X0.here hx rfl (pc0 := 2) (pc' := 16) rfl (hb hby d4_2) rfl (tlt c2_1).2.2.1 (by decide) (by decide) ks_) ?_
    refine go (u' := s₁.setTop (mkF m 17 #[.val (.int p0), .val (.long q1), .second, .val (.int p2), .val (.long q3), .second, .unset, .unset] [(.int (0 : Int32))])) (fun _ ks_ => XS.iconst X0.here hx rfl (hb hby d4_16) ks_) ?_
    refine go (u' := s₁.setTop (mkF m 19 #[.val (.int p0), .val (.long q1), .second, .val (.int p2), .val (.long q3), .second, .val (.int (0 : Int32)), .unset] [])) (fun _ ks_ => XS.istore X0.here hx rfl (hb hby d4_17) rfl  (l' := #[.val (.int p0), .val (.long q1), .second, .val (.int p2), .val (.long q3), .second, .val (.int (0 : Int32)), .unset]) rfl ks_) ?_
    refine go (u' := s₁.setTop (mkF m 20 #[.val (.int p0), .val (.long q1), .second, .val (.int p2), .val (.long q3), .second, .val (.int (0 : Int32)), .unset] [(.int p0)])) (fun _ ks_ => XS.iloadN X0.here hx rfl (hb hby d4_19) rfl  ks_) ?_
    refine go (u' := s₁.setTop (mkF m 21 #[.val (.int p0), .val (.long q1), .second, .val (.int p2), .val (.long q3), .second, .val (.int (0 : Int32)), .unset] [(.int p2), (.int p0)])) (fun _ ks_ => XS.iloadN X0.here hx rfl (hb hby d4_20) rfl  ks_) ?_
    by_cases c21_2 : p0 = p2
    ·
      refine go (u' := s₁.setTop (mkF m 24 #[.val (.int p0), .val (.long q1), .second, .val (.int p2), .val (.long q3), .second, .val (.int (0 : Int32)), .unset] [])) (fun _ ks_ => XS.icmpNo X0.here hx rfl (hb hby d4_21) rfl (teq c21_2).2 ks_) ?_
      refine go (u' := s₁.setTop (mkF m 25 #[.val (.int p0), .val (.long q1), .second, .val (.int p2), .val (.long q3), .second, .val (.int (0 : Int32)), .unset] [(.long q1)])) (fun _ ks_ => XS.lloadN X0.here hx rfl (hb hby d4_24) rfl  ks_) ?_
      refine go (u' := s₁.setTop (mkF m 27 #[.val (.int p0), .val (.long q1), .second, .val (.int p2), .val (.long q3), .second, .val (.int (0 : Int32)), .unset] [(.long q3), (.long q1)])) (fun _ ks_ => XS.lload X0.here hx rfl (hb hby d4_25) rfl  ks_) ?_
      refine go (u' := s₁.setTop (mkF m 28 #[.val (.int p0), .val (.long q1), .second, .val (.int p2), .val (.long q3), .second, .val (.int (0 : Int32)), .unset] [(.int (lcmpW q1 q3))])) (fun _ ks_ => XS.lcmp X0.here hx rfl (hb hby d4_27) rfl ks_) ?_
      by_cases c28_3 : q1 = q3
      ·
        refine go (u' := s₁.setTop (mkF m 31 #[.val (.int p0), .val (.long q1), .second, .val (.int p2), .val (.long q3), .second, .val (.int (0 : Int32)), .unset] [])) (fun _ ks_ => XS.ifNo X0.here hx rfl (hb hby d4_28) rfl (lTe c28_3).2 ks_) ?_
        refine go (u' := s₁.setTop (mkF m 32 #[.val (.int p0), .val (.long q1), .second, .val (.int p2), .val (.long q3), .second, .val (.int (0 : Int32)), .unset] [(.int (1 : Int32))])) (fun _ ks_ => XS.iconst X0.here hx rfl (hb hby d4_31) ks_) ?_
        refine go (u' := s₁.setTop (mkF m 36 #[.val (.int p0), .val (.long q1), .second, .val (.int p2), .val (.long q3), .second, .val (.int (0 : Int32)), .unset] [(.int (1 : Int32))])) (fun _ ks_ => XS.goto X0.here hx rfl (pc0 := 32) (pc' := 36) rfl (hb hby d4_32) (by decide) (by decide) ks_) ?_
        refine go (u' := s₁.setTop (mkF m 38 #[.val (.int p0), .val (.long q1), .second, .val (.int p2), .val (.long q3), .second, .val (.int (0 : Int32)), .val (.int (1 : Int32))] [])) (fun _ ks_ => XS.istore X0.here hx rfl (hb hby d4_36) rfl  (l' := #[.val (.int p0), .val (.long q1), .second, .val (.int p2), .val (.long q3), .second, .val (.int (0 : Int32)), .val (.int (1 : Int32))]) rfl ks_) ?_
        refine go (u' := s₁.setTop (mkF m 40 #[.val (.int p0), .val (.long q1), .second, .val (.int p2), .val (.long q3), .second, .val (.int (0 : Int32)), .val (.int (1 : Int32))] [(.int (0 : Int32))])) (fun _ ks_ => XS.iload X0.here hx rfl (hb hby d4_38) rfl  ks_) ?_
        refine go (u' := s₁.setTop (mkF m 52 #[.val (.int p0), .val (.long q1), .second, .val (.int p2), .val (.long q3), .second, .val (.int (0 : Int32)), .val (.int (1 : Int32))] [])) (fun _ ks_ => XS.ifYes X0.here hx rfl (pc0 := 40) (pc' := 52) rfl (hb hby d4_40) rfl ((if0 _ _).trans (teq (show (0 : Int32) = (0 : Int32) from (by decide))).1) (by decide) (by decide) ks_) ?_
        refine go (u' := s₁.setTop (mkF m 53 #[.val (.int p0), .val (.long q1), .second, .val (.int p2), .val (.long q3), .second, .val (.int (0 : Int32)), .val (.int (1 : Int32))] [(.int (0 : Int32))])) (fun _ ks_ => XS.iconst X0.here hx rfl (hb hby d4_52) ks_) ?_
        rw [hG]
        refine gN X0 hx hlk (t := .boolean) hret (by simp) rfl (hb hby d4_53) ?_ (Nat.le_of_ble_eq_true rfl) (Nat.le_of_ble_eq_true rfl)
        show Q_rm4 Z p0 q1 p2 q3 h0 n0 (some (.int (0 : Int32))) s₁.heap _
        rw [e0]
        exact ⟨congrArg (fun z => some (Value.int z)) (B0 (fun q => (fun q => q c2_1) q.1)), N0, rfl⟩
      ·
        refine go (u' := s₁.setTop (mkF m 35 #[.val (.int p0), .val (.long q1), .second, .val (.int p2), .val (.long q3), .second, .val (.int (0 : Int32)), .unset] [])) (fun _ ks_ => XS.ifYes X0.here hx rfl (pc0 := 28) (pc' := 35) rfl (hb hby d4_28) rfl (lFe c28_3).2 (by decide) (by decide) ks_) ?_
        refine go (u' := s₁.setTop (mkF m 36 #[.val (.int p0), .val (.long q1), .second, .val (.int p2), .val (.long q3), .second, .val (.int (0 : Int32)), .unset] [(.int (0 : Int32))])) (fun _ ks_ => XS.iconst X0.here hx rfl (hb hby d4_35) ks_) ?_
        refine go (u' := s₁.setTop (mkF m 38 #[.val (.int p0), .val (.long q1), .second, .val (.int p2), .val (.long q3), .second, .val (.int (0 : Int32)), .val (.int (0 : Int32))] [])) (fun _ ks_ => XS.istore X0.here hx rfl (hb hby d4_36) rfl  (l' := #[.val (.int p0), .val (.long q1), .second, .val (.int p2), .val (.long q3), .second, .val (.int (0 : Int32)), .val (.int (0 : Int32))]) rfl ks_) ?_
        refine go (u' := s₁.setTop (mkF m 40 #[.val (.int p0), .val (.long q1), .second, .val (.int p2), .val (.long q3), .second, .val (.int (0 : Int32)), .val (.int (0 : Int32))] [(.int (0 : Int32))])) (fun _ ks_ => XS.iload X0.here hx rfl (hb hby d4_38) rfl  ks_) ?_
        refine go (u' := s₁.setTop (mkF m 52 #[.val (.int p0), .val (.long q1), .second, .val (.int p2), .val (.long q3), .second, .val (.int (0 : Int32)), .val (.int (0 : Int32))] [])) (fun _ ks_ => XS.ifYes X0.here hx rfl (pc0 := 40) (pc' := 52) rfl (hb hby d4_40) rfl ((if0 _ _).trans (teq (show (0 : Int32) = (0 : Int32) from (by decide))).1) (by decide) (by decide) ks_) ?_
        refine go (u' := s₁.setTop (mkF m 53 #[.val (.int p0), .val (.long q1), .second, .val (.int p2), .val (.long q3), .second, .val (.int (0 : Int32)), .val (.int (0 : Int32))] [(.int (0 : Int32))])) (fun _ ks_ => XS.iconst X0.here hx rfl (hb hby d4_52) ks_) ?_
        rw [hG]
        refine gN X0 hx hlk (t := .boolean) hret (by simp) rfl (hb hby d4_53) ?_ (Nat.le_of_ble_eq_true rfl) (Nat.le_of_ble_eq_true rfl)
        show Q_rm4 Z p0 q1 p2 q3 h0 n0 (some (.int (0 : Int32))) s₁.heap _
        rw [e0]
        exact ⟨congrArg (fun z => some (Value.int z)) (B0 (fun q => (fun q => q c2_1) q.1)), N0, rfl⟩
    ·
      refine go (u' := s₁.setTop (mkF m 35 #[.val (.int p0), .val (.long q1), .second, .val (.int p2), .val (.long q3), .second, .val (.int (0 : Int32)), .unset] [])) (fun _ ks_ => XS.icmpYes X0.here hx rfl (pc0 := 21) (pc' := 35) rfl (hb hby d4_21) rfl (feq c21_2).2 (by decide) (by decide) ks_) ?_
      refine go (u' := s₁.setTop (mkF m 36 #[.val (.int p0), .val (.long q1), .second, .val (.int p2), .val (.long q3), .second, .val (.int (0 : Int32)), .unset] [(.int (0 : Int32))])) (fun _ ks_ => XS.iconst X0.here hx rfl (hb hby d4_35) ks_) ?_
      refine go (u' := s₁.setTop (mkF m 38 #[.val (.int p0), .val (.long q1), .second, .val (.int p2), .val (.long q3), .second, .val (.int (0 : Int32)), .val (.int (0 : Int32))] [])) (fun _ ks_ => XS.istore X0.here hx rfl (hb hby d4_36) rfl  (l' := #[.val (.int p0), .val (.long q1), .second, .val (.int p2), .val (.long q3), .second, .val (.int (0 : Int32)), .val (.int (0 : Int32))]) rfl ks_) ?_
      refine go (u' := s₁.setTop (mkF m 40 #[.val (.int p0), .val (.long q1), .second, .val (.int p2), .val (.long q3), .second, .val (.int (0 : Int32)), .val (.int (0 : Int32))] [(.int (0 : Int32))])) (fun _ ks_ => XS.iload X0.here hx rfl (hb hby d4_38) rfl  ks_) ?_
      refine go (u' := s₁.setTop (mkF m 52 #[.val (.int p0), .val (.long q1), .second, .val (.int p2), .val (.long q3), .second, .val (.int (0 : Int32)), .val (.int (0 : Int32))] [])) (fun _ ks_ => XS.ifYes X0.here hx rfl (pc0 := 40) (pc' := 52) rfl (hb hby d4_40) rfl ((if0 _ _).trans (teq (show (0 : Int32) = (0 : Int32) from (by decide))).1) (by decide) (by decide) ks_) ?_
      refine go (u' := s₁.setTop (mkF m 53 #[.val (.int p0), .val (.long q1), .second, .val (.int p2), .val (.long q3), .second, .val (.int (0 : Int32)), .val (.int (0 : Int32))] [(.int (0 : Int32))])) (fun _ ks_ => XS.iconst X0.here hx rfl (hb hby d4_52) ks_) ?_
      rw [hG]
      refine gN X0 hx hlk (t := .boolean) hret (by simp) rfl (hb hby d4_53) ?_ (Nat.le_of_ble_eq_true rfl) (Nat.le_of_ble_eq_true rfl)
      show Q_rm4 Z p0 q1 p2 q3 h0 n0 (some (.int (0 : Int32))) s₁.heap _
      rw [e0]
      exact ⟨congrArg (fun z => some (Value.int z)) (B0 (fun q => (fun q => q c2_1) q.1)), N0, rfl⟩
  ·
    refine go (u' := s₁.setTop (mkF m 5 #[.val (.int p0), .val (.long q1), .second, .val (.int p2), .val (.long q3), .second, .unset, .unset] [])) (fun _ ks_ => XS.icmpNo X0.here hx rfl (hb hby d4_2) rfl (flt c2_1).2.2.1 ks_) ?_
    refine go (u' := s₁.setTop (mkF m 6 #[.val (.int p0), .val (.long q1), .second, .val (.int p2), .val (.long q3), .second, .unset, .unset] [(.long q1)])) (fun _ ks_ => XS.lloadN X0.here hx rfl (hb hby d4_5) rfl  ks_) ?_
    refine go (u' := s₁.setTop (mkF m 8 #[.val (.int p0), .val (.long q1), .second, .val (.int p2), .val (.long q3), .second, .unset, .unset] [(.long q3), (.long q1)])) (fun _ ks_ => XS.lload X0.here hx rfl (hb hby d4_6) rfl  ks_) ?_
    refine go (u' := s₁.setTop (mkF m 9 #[.val (.int p0), .val (.long q1), .second, .val (.int p2), .val (.long q3), .second, .unset, .unset] [(.int (lcmpW q1 q3))])) (fun _ ks_ => XS.lcmp X0.here hx rfl (hb hby d4_8) rfl ks_) ?_
    by_cases c9_4 : q1 < q3
    ·
      refine go (u' := s₁.setTop (mkF m 16 #[.val (.int p0), .val (.long q1), .second, .val (.int p2), .val (.long q3), .second, .unset, .unset] [])) (fun _ ks_ => XS.ifYes X0.here hx rfl (pc0 := 9) (pc' := 16) rfl (hb hby d4_9) rfl (lT c9_4).1 (by decide) (by decide) ks_) ?_
      refine go (u' := s₁.setTop (mkF m 17 #[.val (.int p0), .val (.long q1), .second, .val (.int p2), .val (.long q3), .second, .unset, .unset] [(.int (0 : Int32))])) (fun _ ks_ => XS.iconst X0.here hx rfl (hb hby d4_16) ks_) ?_
      refine go (u' := s₁.setTop (mkF m 19 #[.val (.int p0), .val (.long q1), .second, .val (.int p2), .val (.long q3), .second, .val (.int (0 : Int32)), .unset] [])) (fun _ ks_ => XS.istore X0.here hx rfl (hb hby d4_17) rfl  (l' := #[.val (.int p0), .val (.long q1), .second, .val (.int p2), .val (.long q3), .second, .val (.int (0 : Int32)), .unset]) rfl ks_) ?_
      refine go (u' := s₁.setTop (mkF m 20 #[.val (.int p0), .val (.long q1), .second, .val (.int p2), .val (.long q3), .second, .val (.int (0 : Int32)), .unset] [(.int p0)])) (fun _ ks_ => XS.iloadN X0.here hx rfl (hb hby d4_19) rfl  ks_) ?_
      refine go (u' := s₁.setTop (mkF m 21 #[.val (.int p0), .val (.long q1), .second, .val (.int p2), .val (.long q3), .second, .val (.int (0 : Int32)), .unset] [(.int p2), (.int p0)])) (fun _ ks_ => XS.iloadN X0.here hx rfl (hb hby d4_20) rfl  ks_) ?_
      by_cases c21_5 : p0 = p2
      ·
        refine go (u' := s₁.setTop (mkF m 24 #[.val (.int p0), .val (.long q1), .second, .val (.int p2), .val (.long q3), .second, .val (.int (0 : Int32)), .unset] [])) (fun _ ks_ => XS.icmpNo X0.here hx rfl (hb hby d4_21) rfl (teq c21_5).2 ks_) ?_
        refine go (u' := s₁.setTop (mkF m 25 #[.val (.int p0), .val (.long q1), .second, .val (.int p2), .val (.long q3), .second, .val (.int (0 : Int32)), .unset] [(.long q1)])) (fun _ ks_ => XS.lloadN X0.here hx rfl (hb hby d4_24) rfl  ks_) ?_
        refine go (u' := s₁.setTop (mkF m 27 #[.val (.int p0), .val (.long q1), .second, .val (.int p2), .val (.long q3), .second, .val (.int (0 : Int32)), .unset] [(.long q3), (.long q1)])) (fun _ ks_ => XS.lload X0.here hx rfl (hb hby d4_25) rfl  ks_) ?_
        refine go (u' := s₁.setTop (mkF m 28 #[.val (.int p0), .val (.long q1), .second, .val (.int p2), .val (.long q3), .second, .val (.int (0 : Int32)), .unset] [(.int (lcmpW q1 q3))])) (fun _ ks_ => XS.lcmp X0.here hx rfl (hb hby d4_27) rfl ks_) ?_
        by_cases c28_6 : q1 = q3
        ·
          refine go (u' := s₁.setTop (mkF m 31 #[.val (.int p0), .val (.long q1), .second, .val (.int p2), .val (.long q3), .second, .val (.int (0 : Int32)), .unset] [])) (fun _ ks_ => XS.ifNo X0.here hx rfl (hb hby d4_28) rfl (lTe c28_6).2 ks_) ?_
          refine go (u' := s₁.setTop (mkF m 32 #[.val (.int p0), .val (.long q1), .second, .val (.int p2), .val (.long q3), .second, .val (.int (0 : Int32)), .unset] [(.int (1 : Int32))])) (fun _ ks_ => XS.iconst X0.here hx rfl (hb hby d4_31) ks_) ?_
          refine go (u' := s₁.setTop (mkF m 36 #[.val (.int p0), .val (.long q1), .second, .val (.int p2), .val (.long q3), .second, .val (.int (0 : Int32)), .unset] [(.int (1 : Int32))])) (fun _ ks_ => XS.goto X0.here hx rfl (pc0 := 32) (pc' := 36) rfl (hb hby d4_32) (by decide) (by decide) ks_) ?_
          refine go (u' := s₁.setTop (mkF m 38 #[.val (.int p0), .val (.long q1), .second, .val (.int p2), .val (.long q3), .second, .val (.int (0 : Int32)), .val (.int (1 : Int32))] [])) (fun _ ks_ => XS.istore X0.here hx rfl (hb hby d4_36) rfl  (l' := #[.val (.int p0), .val (.long q1), .second, .val (.int p2), .val (.long q3), .second, .val (.int (0 : Int32)), .val (.int (1 : Int32))]) rfl ks_) ?_
          refine go (u' := s₁.setTop (mkF m 40 #[.val (.int p0), .val (.long q1), .second, .val (.int p2), .val (.long q3), .second, .val (.int (0 : Int32)), .val (.int (1 : Int32))] [(.int (0 : Int32))])) (fun _ ks_ => XS.iload X0.here hx rfl (hb hby d4_38) rfl  ks_) ?_
          refine go (u' := s₁.setTop (mkF m 52 #[.val (.int p0), .val (.long q1), .second, .val (.int p2), .val (.long q3), .second, .val (.int (0 : Int32)), .val (.int (1 : Int32))] [])) (fun _ ks_ => XS.ifYes X0.here hx rfl (pc0 := 40) (pc' := 52) rfl (hb hby d4_40) rfl ((if0 _ _).trans (teq (show (0 : Int32) = (0 : Int32) from (by decide))).1) (by decide) (by decide) ks_) ?_
          refine go (u' := s₁.setTop (mkF m 53 #[.val (.int p0), .val (.long q1), .second, .val (.int p2), .val (.long q3), .second, .val (.int (0 : Int32)), .val (.int (1 : Int32))] [(.int (0 : Int32))])) (fun _ ks_ => XS.iconst X0.here hx rfl (hb hby d4_52) ks_) ?_
          rw [hG]
          refine gN X0 hx hlk (t := .boolean) hret (by simp) rfl (hb hby d4_53) ?_ (Nat.le_of_ble_eq_true rfl) (Nat.le_of_ble_eq_true rfl)
          show Q_rm4 Z p0 q1 p2 q3 h0 n0 (some (.int (0 : Int32))) s₁.heap _
          rw [e0]
          exact ⟨congrArg (fun z => some (Value.int z)) (B0 (fun q => (fun q => (fun q => q c9_4) q.1) q.2)), N0, rfl⟩
        ·
          refine go (u' := s₁.setTop (mkF m 35 #[.val (.int p0), .val (.long q1), .second, .val (.int p2), .val (.long q3), .second, .val (.int (0 : Int32)), .unset] [])) (fun _ ks_ => XS.ifYes X0.here hx rfl (pc0 := 28) (pc' := 35) rfl (hb hby d4_28) rfl (lFe c28_6).2 (by decide) (by decide) ks_) ?_
          refine go (u' := s₁.setTop (mkF m 36 #[.val (.int p0), .val (.long q1), .second, .val (.int p2), .val (.long q3), .second, .val (.int (0 : Int32)), .unset] [(.int (0 : Int32))])) (fun _ ks_ => XS.iconst X0.here hx rfl (hb hby d4_35) ks_) ?_
          refine go (u' := s₁.setTop (mkF m 38 #[.val (.int p0), .val (.long q1), .second, .val (.int p2), .val (.long q3), .second, .val (.int (0 : Int32)), .val (.int (0 : Int32))] [])) (fun _ ks_ => XS.istore X0.here hx rfl (hb hby d4_36) rfl  (l' := #[.val (.int p0), .val (.long q1), .second, .val (.int p2), .val (.long q3), .second, .val (.int (0 : Int32)), .val (.int (0 : Int32))]) rfl ks_) ?_
          refine go (u' := s₁.setTop (mkF m 40 #[.val (.int p0), .val (.long q1), .second, .val (.int p2), .val (.long q3), .second, .val (.int (0 : Int32)), .val (.int (0 : Int32))] [(.int (0 : Int32))])) (fun _ ks_ => XS.iload X0.here hx rfl (hb hby d4_38) rfl  ks_) ?_
          refine go (u' := s₁.setTop (mkF m 52 #[.val (.int p0), .val (.long q1), .second, .val (.int p2), .val (.long q3), .second, .val (.int (0 : Int32)), .val (.int (0 : Int32))] [])) (fun _ ks_ => XS.ifYes X0.here hx rfl (pc0 := 40) (pc' := 52) rfl (hb hby d4_40) rfl ((if0 _ _).trans (teq (show (0 : Int32) = (0 : Int32) from (by decide))).1) (by decide) (by decide) ks_) ?_
          refine go (u' := s₁.setTop (mkF m 53 #[.val (.int p0), .val (.long q1), .second, .val (.int p2), .val (.long q3), .second, .val (.int (0 : Int32)), .val (.int (0 : Int32))] [(.int (0 : Int32))])) (fun _ ks_ => XS.iconst X0.here hx rfl (hb hby d4_52) ks_) ?_
          rw [hG]
          refine gN X0 hx hlk (t := .boolean) hret (by simp) rfl (hb hby d4_53) ?_ (Nat.le_of_ble_eq_true rfl) (Nat.le_of_ble_eq_true rfl)
          show Q_rm4 Z p0 q1 p2 q3 h0 n0 (some (.int (0 : Int32))) s₁.heap _
          rw [e0]
          exact ⟨congrArg (fun z => some (Value.int z)) (B0 (fun q => (fun q => (fun q => q c9_4) q.1) q.2)), N0, rfl⟩
      ·
        refine go (u' := s₁.setTop (mkF m 35 #[.val (.int p0), .val (.long q1), .second, .val (.int p2), .val (.long q3), .second, .val (.int (0 : Int32)), .unset] [])) (fun _ ks_ => XS.icmpYes X0.here hx rfl (pc0 := 21) (pc' := 35) rfl (hb hby d4_21) rfl (feq c21_5).2 (by decide) (by decide) ks_) ?_
        refine go (u' := s₁.setTop (mkF m 36 #[.val (.int p0), .val (.long q1), .second, .val (.int p2), .val (.long q3), .second, .val (.int (0 : Int32)), .unset] [(.int (0 : Int32))])) (fun _ ks_ => XS.iconst X0.here hx rfl (hb hby d4_35) ks_) ?_
        refine go (u' := s₁.setTop (mkF m 38 #[.val (.int p0), .val (.long q1), .second, .val (.int p2), .val (.long q3), .second, .val (.int (0 : Int32)), .val (.int (0 : Int32))] [])) (fun _ ks_ => XS.istore X0.here hx rfl (hb hby d4_36) rfl  (l' := #[.val (.int p0), .val (.long q1), .second, .val (.int p2), .val (.long q3), .second, .val (.int (0 : Int32)), .val (.int (0 : Int32))]) rfl ks_) ?_
        refine go (u' := s₁.setTop (mkF m 40 #[.val (.int p0), .val (.long q1), .second, .val (.int p2), .val (.long q3), .second, .val (.int (0 : Int32)), .val (.int (0 : Int32))] [(.int (0 : Int32))])) (fun _ ks_ => XS.iload X0.here hx rfl (hb hby d4_38) rfl  ks_) ?_
        refine go (u' := s₁.setTop (mkF m 52 #[.val (.int p0), .val (.long q1), .second, .val (.int p2), .val (.long q3), .second, .val (.int (0 : Int32)), .val (.int (0 : Int32))] [])) (fun _ ks_ => XS.ifYes X0.here hx rfl (pc0 := 40) (pc' := 52) rfl (hb hby d4_40) rfl ((if0 _ _).trans (teq (show (0 : Int32) = (0 : Int32) from (by decide))).1) (by decide) (by decide) ks_) ?_
        refine go (u' := s₁.setTop (mkF m 53 #[.val (.int p0), .val (.long q1), .second, .val (.int p2), .val (.long q3), .second, .val (.int (0 : Int32)), .val (.int (0 : Int32))] [(.int (0 : Int32))])) (fun _ ks_ => XS.iconst X0.here hx rfl (hb hby d4_52) ks_) ?_
        rw [hG]
        refine gN X0 hx hlk (t := .boolean) hret (by simp) rfl (hb hby d4_53) ?_ (Nat.le_of_ble_eq_true rfl) (Nat.le_of_ble_eq_true rfl)
        show Q_rm4 Z p0 q1 p2 q3 h0 n0 (some (.int (0 : Int32))) s₁.heap _
        rw [e0]
        exact ⟨congrArg (fun z => some (Value.int z)) (B0 (fun q => (fun q => (fun q => q c9_4) q.1) q.2)), N0, rfl⟩
    ·
      refine go (u' := s₁.setTop (mkF m 12 #[.val (.int p0), .val (.long q1), .second, .val (.int p2), .val (.long q3), .second, .unset, .unset] [])) (fun _ ks_ => XS.ifNo X0.here hx rfl (hb hby d4_9) rfl (lF c9_4).1 ks_) ?_
      refine go (u' := s₁.setTop (mkF m 13 #[.val (.int p0), .val (.long q1), .second, .val (.int p2), .val (.long q3), .second, .unset, .unset] [(.int (1 : Int32))])) (fun _ ks_ => XS.iconst X0.here hx rfl (hb hby d4_12) ks_) ?_
      refine go (u' := s₁.setTop (mkF m 17 #[.val (.int p0), .val (.long q1), .second, .val (.int p2), .val (.long q3), .second, .unset, .unset] [(.int (1 : Int32))])) (fun _ ks_ => XS.goto X0.here hx rfl (pc0 := 13) (pc' := 17) rfl (hb hby d4_13) (by decide) (by decide) ks_) ?_
      refine go (u' := s₁.setTop (mkF m 19 #[.val (.int p0), .val (.long q1), .second, .val (.int p2), .val (.long q3), .second, .val (.int (1 : Int32)), .unset] [])) (fun _ ks_ => XS.istore X0.here hx rfl (hb hby d4_17) rfl  (l' := #[.val (.int p0), .val (.long q1), .second, .val (.int p2), .val (.long q3), .second, .val (.int (1 : Int32)), .unset]) rfl ks_) ?_
      refine go (u' := s₁.setTop (mkF m 20 #[.val (.int p0), .val (.long q1), .second, .val (.int p2), .val (.long q3), .second, .val (.int (1 : Int32)), .unset] [(.int p0)])) (fun _ ks_ => XS.iloadN X0.here hx rfl (hb hby d4_19) rfl  ks_) ?_
      refine go (u' := s₁.setTop (mkF m 21 #[.val (.int p0), .val (.long q1), .second, .val (.int p2), .val (.long q3), .second, .val (.int (1 : Int32)), .unset] [(.int p2), (.int p0)])) (fun _ ks_ => XS.iloadN X0.here hx rfl (hb hby d4_20) rfl  ks_) ?_
      by_cases c21_7 : p0 = p2
      ·
        refine go (u' := s₁.setTop (mkF m 24 #[.val (.int p0), .val (.long q1), .second, .val (.int p2), .val (.long q3), .second, .val (.int (1 : Int32)), .unset] [])) (fun _ ks_ => XS.icmpNo X0.here hx rfl (hb hby d4_21) rfl (teq c21_7).2 ks_) ?_
        refine go (u' := s₁.setTop (mkF m 25 #[.val (.int p0), .val (.long q1), .second, .val (.int p2), .val (.long q3), .second, .val (.int (1 : Int32)), .unset] [(.long q1)])) (fun _ ks_ => XS.lloadN X0.here hx rfl (hb hby d4_24) rfl  ks_) ?_
        refine go (u' := s₁.setTop (mkF m 27 #[.val (.int p0), .val (.long q1), .second, .val (.int p2), .val (.long q3), .second, .val (.int (1 : Int32)), .unset] [(.long q3), (.long q1)])) (fun _ ks_ => XS.lload X0.here hx rfl (hb hby d4_25) rfl  ks_) ?_
        refine go (u' := s₁.setTop (mkF m 28 #[.val (.int p0), .val (.long q1), .second, .val (.int p2), .val (.long q3), .second, .val (.int (1 : Int32)), .unset] [(.int (lcmpW q1 q3))])) (fun _ ks_ => XS.lcmp X0.here hx rfl (hb hby d4_27) rfl ks_) ?_
        by_cases c28_8 : q1 = q3
        ·
          refine go (u' := s₁.setTop (mkF m 31 #[.val (.int p0), .val (.long q1), .second, .val (.int p2), .val (.long q3), .second, .val (.int (1 : Int32)), .unset] [])) (fun _ ks_ => XS.ifNo X0.here hx rfl (hb hby d4_28) rfl (lTe c28_8).2 ks_) ?_
          refine go (u' := s₁.setTop (mkF m 32 #[.val (.int p0), .val (.long q1), .second, .val (.int p2), .val (.long q3), .second, .val (.int (1 : Int32)), .unset] [(.int (1 : Int32))])) (fun _ ks_ => XS.iconst X0.here hx rfl (hb hby d4_31) ks_) ?_
          refine go (u' := s₁.setTop (mkF m 36 #[.val (.int p0), .val (.long q1), .second, .val (.int p2), .val (.long q3), .second, .val (.int (1 : Int32)), .unset] [(.int (1 : Int32))])) (fun _ ks_ => XS.goto X0.here hx rfl (pc0 := 32) (pc' := 36) rfl (hb hby d4_32) (by decide) (by decide) ks_) ?_
          refine go (u' := s₁.setTop (mkF m 38 #[.val (.int p0), .val (.long q1), .second, .val (.int p2), .val (.long q3), .second, .val (.int (1 : Int32)), .val (.int (1 : Int32))] [])) (fun _ ks_ => XS.istore X0.here hx rfl (hb hby d4_36) rfl  (l' := #[.val (.int p0), .val (.long q1), .second, .val (.int p2), .val (.long q3), .second, .val (.int (1 : Int32)), .val (.int (1 : Int32))]) rfl ks_) ?_
          refine go (u' := s₁.setTop (mkF m 40 #[.val (.int p0), .val (.long q1), .second, .val (.int p2), .val (.long q3), .second, .val (.int (1 : Int32)), .val (.int (1 : Int32))] [(.int (1 : Int32))])) (fun _ ks_ => XS.iload X0.here hx rfl (hb hby d4_38) rfl  ks_) ?_
          refine go (u' := s₁.setTop (mkF m 43 #[.val (.int p0), .val (.long q1), .second, .val (.int p2), .val (.long q3), .second, .val (.int (1 : Int32)), .val (.int (1 : Int32))] [])) (fun _ ks_ => XS.ifNo X0.here hx rfl (hb hby d4_40) rfl ((if0 _ _).trans (feq (show ¬ ((1 : Int32) = (0 : Int32)) from (by decide))).1) ks_) ?_
          refine go (u' := s₁.setTop (mkF m 45 #[.val (.int p0), .val (.long q1), .second, .val (.int p2), .val (.long q3), .second, .val (.int (1 : Int32)), .val (.int (1 : Int32))] [(.int (1 : Int32))])) (fun _ ks_ => XS.iload X0.here hx rfl (hb hby d4_43) rfl  ks_) ?_
          refine go (u' := s₁.setTop (mkF m 52 #[.val (.int p0), .val (.long q1), .second, .val (.int p2), .val (.long q3), .second, .val (.int (1 : Int32)), .val (.int (1 : Int32))] [])) (fun _ ks_ => XS.ifYes X0.here hx rfl (pc0 := 45) (pc' := 52) rfl (hb hby d4_45) rfl ((if0 _ _).trans (feq (show ¬ ((1 : Int32) = (0 : Int32)) from (by decide))).2) (by decide) (by decide) ks_) ?_
          refine go (u' := s₁.setTop (mkF m 53 #[.val (.int p0), .val (.long q1), .second, .val (.int p2), .val (.long q3), .second, .val (.int (1 : Int32)), .val (.int (1 : Int32))] [(.int (0 : Int32))])) (fun _ ks_ => XS.iconst X0.here hx rfl (hb hby d4_52) ks_) ?_
          rw [hG]
          refine gN X0 hx hlk (t := .boolean) hret (by simp) rfl (hb hby d4_53) ?_ (Nat.le_of_ble_eq_true rfl) (Nat.le_of_ble_eq_true rfl)
          show Q_rm4 Z p0 q1 p2 q3 h0 n0 (some (.int (0 : Int32))) s₁.heap _
          rw [e0]
          exact ⟨congrArg (fun z => some (Value.int z)) (B0 (fun q => (fun q => (fun q => q.elim (fun q => q c21_7) (fun q => q c28_8)) q.2) q.2)), N0, rfl⟩
        ·
          refine go (u' := s₁.setTop (mkF m 35 #[.val (.int p0), .val (.long q1), .second, .val (.int p2), .val (.long q3), .second, .val (.int (1 : Int32)), .unset] [])) (fun _ ks_ => XS.ifYes X0.here hx rfl (pc0 := 28) (pc' := 35) rfl (hb hby d4_28) rfl (lFe c28_8).2 (by decide) (by decide) ks_) ?_
          refine go (u' := s₁.setTop (mkF m 36 #[.val (.int p0), .val (.long q1), .second, .val (.int p2), .val (.long q3), .second, .val (.int (1 : Int32)), .unset] [(.int (0 : Int32))])) (fun _ ks_ => XS.iconst X0.here hx rfl (hb hby d4_35) ks_) ?_
          refine go (u' := s₁.setTop (mkF m 38 #[.val (.int p0), .val (.long q1), .second, .val (.int p2), .val (.long q3), .second, .val (.int (1 : Int32)), .val (.int (0 : Int32))] [])) (fun _ ks_ => XS.istore X0.here hx rfl (hb hby d4_36) rfl  (l' := #[.val (.int p0), .val (.long q1), .second, .val (.int p2), .val (.long q3), .second, .val (.int (1 : Int32)), .val (.int (0 : Int32))]) rfl ks_) ?_
          refine go (u' := s₁.setTop (mkF m 40 #[.val (.int p0), .val (.long q1), .second, .val (.int p2), .val (.long q3), .second, .val (.int (1 : Int32)), .val (.int (0 : Int32))] [(.int (1 : Int32))])) (fun _ ks_ => XS.iload X0.here hx rfl (hb hby d4_38) rfl  ks_) ?_
          refine go (u' := s₁.setTop (mkF m 43 #[.val (.int p0), .val (.long q1), .second, .val (.int p2), .val (.long q3), .second, .val (.int (1 : Int32)), .val (.int (0 : Int32))] [])) (fun _ ks_ => XS.ifNo X0.here hx rfl (hb hby d4_40) rfl ((if0 _ _).trans (feq (show ¬ ((1 : Int32) = (0 : Int32)) from (by decide))).1) ks_) ?_
          refine go (u' := s₁.setTop (mkF m 45 #[.val (.int p0), .val (.long q1), .second, .val (.int p2), .val (.long q3), .second, .val (.int (1 : Int32)), .val (.int (0 : Int32))] [(.int (0 : Int32))])) (fun _ ks_ => XS.iload X0.here hx rfl (hb hby d4_43) rfl  ks_) ?_
          refine go (u' := s₁.setTop (mkF m 48 #[.val (.int p0), .val (.long q1), .second, .val (.int p2), .val (.long q3), .second, .val (.int (1 : Int32)), .val (.int (0 : Int32))] [])) (fun _ ks_ => XS.ifNo X0.here hx rfl (hb hby d4_45) rfl ((if0 _ _).trans (teq (show (0 : Int32) = (0 : Int32) from (by decide))).2) ks_) ?_
          refine go (u' := s₁.setTop (mkF m 49 #[.val (.int p0), .val (.long q1), .second, .val (.int p2), .val (.long q3), .second, .val (.int (1 : Int32)), .val (.int (0 : Int32))] [(.int (1 : Int32))])) (fun _ ks_ => XS.iconst X0.here hx rfl (hb hby d4_48) ks_) ?_
          refine go (u' := s₁.setTop (mkF m 53 #[.val (.int p0), .val (.long q1), .second, .val (.int p2), .val (.long q3), .second, .val (.int (1 : Int32)), .val (.int (0 : Int32))] [(.int (1 : Int32))])) (fun _ ks_ => XS.goto X0.here hx rfl (pc0 := 49) (pc' := 53) rfl (hb hby d4_49) (by decide) (by decide) ks_) ?_
          rw [hG]
          refine gN X0 hx hlk (t := .boolean) hret (by simp) rfl (hb hby d4_53) ?_ (Nat.le_of_ble_eq_true rfl) (Nat.le_of_ble_eq_true rfl)
          show Q_rm4 Z p0 q1 p2 q3 h0 n0 (some (.int (1 : Int32))) s₁.heap _
          rw [e0]
          exact ⟨congrArg (fun z => some (Value.int z)) (B1 ⟨c2_1, ⟨c9_4, (Or.inr c28_8)⟩⟩), N0, rfl⟩
      ·
        refine go (u' := s₁.setTop (mkF m 35 #[.val (.int p0), .val (.long q1), .second, .val (.int p2), .val (.long q3), .second, .val (.int (1 : Int32)), .unset] [])) (fun _ ks_ => XS.icmpYes X0.here hx rfl (pc0 := 21) (pc' := 35) rfl (hb hby d4_21) rfl (feq c21_7).2 (by decide) (by decide) ks_) ?_
        refine go (u' := s₁.setTop (mkF m 36 #[.val (.int p0), .val (.long q1), .second, .val (.int p2), .val (.long q3), .second, .val (.int (1 : Int32)), .unset] [(.int (0 : Int32))])) (fun _ ks_ => XS.iconst X0.here hx rfl (hb hby d4_35) ks_) ?_
        refine go (u' := s₁.setTop (mkF m 38 #[.val (.int p0), .val (.long q1), .second, .val (.int p2), .val (.long q3), .second, .val (.int (1 : Int32)), .val (.int (0 : Int32))] [])) (fun _ ks_ => XS.istore X0.here hx rfl (hb hby d4_36) rfl  (l' := #[.val (.int p0), .val (.long q1), .second, .val (.int p2), .val (.long q3), .second, .val (.int (1 : Int32)), .val (.int (0 : Int32))]) rfl ks_) ?_
        refine go (u' := s₁.setTop (mkF m 40 #[.val (.int p0), .val (.long q1), .second, .val (.int p2), .val (.long q3), .second, .val (.int (1 : Int32)), .val (.int (0 : Int32))] [(.int (1 : Int32))])) (fun _ ks_ => XS.iload X0.here hx rfl (hb hby d4_38) rfl  ks_) ?_
        refine go (u' := s₁.setTop (mkF m 43 #[.val (.int p0), .val (.long q1), .second, .val (.int p2), .val (.long q3), .second, .val (.int (1 : Int32)), .val (.int (0 : Int32))] [])) (fun _ ks_ => XS.ifNo X0.here hx rfl (hb hby d4_40) rfl ((if0 _ _).trans (feq (show ¬ ((1 : Int32) = (0 : Int32)) from (by decide))).1) ks_) ?_
        refine go (u' := s₁.setTop (mkF m 45 #[.val (.int p0), .val (.long q1), .second, .val (.int p2), .val (.long q3), .second, .val (.int (1 : Int32)), .val (.int (0 : Int32))] [(.int (0 : Int32))])) (fun _ ks_ => XS.iload X0.here hx rfl (hb hby d4_43) rfl  ks_) ?_
        refine go (u' := s₁.setTop (mkF m 48 #[.val (.int p0), .val (.long q1), .second, .val (.int p2), .val (.long q3), .second, .val (.int (1 : Int32)), .val (.int (0 : Int32))] [])) (fun _ ks_ => XS.ifNo X0.here hx rfl (hb hby d4_45) rfl ((if0 _ _).trans (teq (show (0 : Int32) = (0 : Int32) from (by decide))).2) ks_) ?_
        refine go (u' := s₁.setTop (mkF m 49 #[.val (.int p0), .val (.long q1), .second, .val (.int p2), .val (.long q3), .second, .val (.int (1 : Int32)), .val (.int (0 : Int32))] [(.int (1 : Int32))])) (fun _ ks_ => XS.iconst X0.here hx rfl (hb hby d4_48) ks_) ?_
        refine go (u' := s₁.setTop (mkF m 53 #[.val (.int p0), .val (.long q1), .second, .val (.int p2), .val (.long q3), .second, .val (.int (1 : Int32)), .val (.int (0 : Int32))] [(.int (1 : Int32))])) (fun _ ks_ => XS.goto X0.here hx rfl (pc0 := 49) (pc' := 53) rfl (hb hby d4_49) (by decide) (by decide) ks_) ?_
        rw [hG]
        refine gN X0 hx hlk (t := .boolean) hret (by simp) rfl (hb hby d4_53) ?_ (Nat.le_of_ble_eq_true rfl) (Nat.le_of_ble_eq_true rfl)
        show Q_rm4 Z p0 q1 p2 q3 h0 n0 (some (.int (1 : Int32))) s₁.heap _
        rw [e0]
        exact ⟨congrArg (fun z => some (Value.int z)) (B1 ⟨c2_1, ⟨c9_4, (Or.inl c21_7)⟩⟩), N0, rfl⟩
theorem pn_com_example_lootpath_lootpath_ttp_Objectives_dominates_5 : plainFor (⟨"com/example/lootpath/lootpath/ttp/Objectives", "dominates", "(Lcom/example/lootpath/lootpath/ttp/Objectives;)Z"⟩ : MethodName) = true := by first | exact plainFor_of_name (by first | (simp [plainName, overriddenIn]; done) | decide +kernel) | decide +kernel
def Q_rm5 (Z : State) (o0 : Addr) (o1 : Addr) (t0 : UInt64) (r0 : Int64) (t1 : UInt64) (r1 : Int64) (h0 : Heap) (n0 : Nat) (v : Option Value) (h : Heap) (L : List Loc) : Prop := v = some (.int (B ((¬ ((0 : Int32) < (cmpValue (FP.dcmp t0 t1) .g))) ∧ ((¬ (r0 < r1)) ∧ (((cmpValue (FP.dcmp t0 t1) .g) < (0 : Int32)) ∨ (r1 < r0)))))) ∧ Fr n0 L ∧ h = h0
set_option maxRecDepth 65536 in
set_option maxHeartbeats 4000000 in
theorem ef_rm5 (m : MethodId) (o0 : Addr) (o1 : Addr) : entryFrame m #[(.ref o0), (.ref o1)] 2 = mkF m 0 #[.val (.ref o0), .val (.ref o1)] [] := by first | (simp [entryFrame, mkF, argsToLocals, Value.category, maxLocals]; done) | rfl
theorem d5_0 : decode prog_43_method_2_code 0 = .ok (.aload_n 0, 1) := by decide +kernel
theorem d5_1 : decode prog_43_method_2_code 1 = .ok (.getfield 7, 3) := by decide +kernel
theorem d5_4 : decode prog_43_method_2_code 4 = .ok (.aload_n 1, 1) := by decide +kernel
theorem d5_5 : decode prog_43_method_2_code 5 = .ok (.getfield 7, 3) := by decide +kernel
theorem d5_8 : decode prog_43_method_2_code 8 = .ok (.dcmp .g, 1) := by decide +kernel
theorem d5_9 : decode prog_43_method_2_code 9 = .ok (.ifCond .gt 43, 3) := by decide +kernel
theorem d5_12 : decode prog_43_method_2_code 12 = .ok (.aload_n 0, 1) := by decide +kernel
theorem d5_13 : decode prog_43_method_2_code 13 = .ok (.getfield 13, 3) := by decide +kernel
theorem d5_16 : decode prog_43_method_2_code 16 = .ok (.aload_n 1, 1) := by decide +kernel
theorem d5_17 : decode prog_43_method_2_code 17 = .ok (.getfield 13, 3) := by decide +kernel
theorem d5_20 : decode prog_43_method_2_code 20 = .ok (.lcmp, 1) := by decide +kernel
theorem d5_21 : decode prog_43_method_2_code 21 = .ok (.ifCond .lt 31, 3) := by decide +kernel
theorem d5_24 : decode prog_43_method_2_code 24 = .ok (.aload_n 0, 1) := by decide +kernel
theorem d5_25 : decode prog_43_method_2_code 25 = .ok (.getfield 7, 3) := by decide +kernel
theorem d5_28 : decode prog_43_method_2_code 28 = .ok (.aload_n 1, 1) := by decide +kernel
theorem d5_29 : decode prog_43_method_2_code 29 = .ok (.getfield 7, 3) := by decide +kernel
theorem d5_32 : decode prog_43_method_2_code 32 = .ok (.dcmp .g, 1) := by decide +kernel
theorem d5_33 : decode prog_43_method_2_code 33 = .ok (.ifCond .lt 15, 3) := by decide +kernel
theorem d5_36 : decode prog_43_method_2_code 36 = .ok (.aload_n 0, 1) := by decide +kernel
theorem d5_37 : decode prog_43_method_2_code 37 = .ok (.getfield 13, 3) := by decide +kernel
theorem d5_40 : decode prog_43_method_2_code 40 = .ok (.aload_n 1, 1) := by decide +kernel
theorem d5_41 : decode prog_43_method_2_code 41 = .ok (.getfield 13, 3) := by decide +kernel
theorem d5_44 : decode prog_43_method_2_code 44 = .ok (.lcmp, 1) := by decide +kernel
theorem d5_45 : decode prog_43_method_2_code 45 = .ok (.ifCond .le 7, 3) := by decide +kernel
theorem d5_48 : decode prog_43_method_2_code 48 = .ok (.iconst 1, 1) := by decide +kernel
theorem d5_49 : decode prog_43_method_2_code 49 = .ok (.goto 4, 3) := by decide +kernel
theorem d5_52 : decode prog_43_method_2_code 52 = .ok (.iconst 0, 1) := by decide +kernel
theorem d5_53 : decode prog_43_method_2_code 53 = .ok (.ireturn, 1) := by decide +kernel
set_option maxRecDepth 65536 in
set_option maxHeartbeats 40000000 in
theorem rm5 (l : Launch) (Z : State) (a0 : Array Value) (hw : ∀ d ∈ tables_1, d.before a0 Z = true) (ws : List Jvm.Cond) (o0 : Addr) (o1 : Addr) (t0 : UInt64) (r0 : Int64) (t1 : UInt64) (r1 : Int64) (h0 : Heap) (n0 : Nat) (Z0 : n0 ≤ h0.size) (F0 : Fld Z h0 o0 "com/example/lootpath/lootpath/ttp/Objectives" "time" "D" (.double t0)) (F1 : Fld Z h0 o0 "com/example/lootpath/lootpath/ttp/Objectives" "profit" "J" (.long r0)) (F2 : Fld Z h0 o1 "com/example/lootpath/lootpath/ttp/Objectives" "time" "D" (.double t1)) (F3 : Fld Z h0 o1 "com/example/lootpath/lootpath/ttp/Objectives" "profit" "J" (.long r1)) :
    MetFree l (⟨"com/example/lootpath/lootpath/ttp/Objectives", "dominates", "(Lcom/example/lootpath/lootpath/ttp/Objectives;)Z"⟩ : MethodName) (head1 (Jvm.Cond.code (⟨"com/example/lootpath/lootpath/ttp/Objectives", "dominates", "(Lcom/example/lootpath/lootpath/ttp/Objectives;)Z"⟩ : MethodName) prog_43_method_2_code 2 (some .boolean) :: ws) ({ frames := 0, cells := 0, slots := 0, locals := 0 } : Room)) (fun a U => a = #[(.ref o0), (.ref o1)] ∧ Z.Warmed39 U.vm ∧ U.heap = h0) (fun _ _ _ _ _ => True) (fun _ U o U' => ∃ v L, o = .returned v ∧ Q_rm5 Z o0 o1 t0 r0 t1 r1 h0 n0 v U'.heap L ∧ FrameEnd U o U' L ({ frames := 0, cells := 0, slots := 0, locals := 0 } : Room).cells ({ frames := 0, cells := 0, slots := 0, locals := 0 } : Room).slots) := by
  refine body pn_com_example_lootpath_lootpath_ttp_Objectives_dominates_5 ?_
  intro p e s m below meth c s₁ hx hby hml hown hnm hret hlk hZ e0 X0
  replace hml : c.maxLocals = 2 := hml
  replace hown : s.vm.findClass "com/example/lootpath/lootpath/ttp/Objectives" = some m.cls := hown
  replace hnm : meth.name = "dominates" := hnm
  replace hret : meth.sig.returnType = (some .boolean) := hret
  have N0 := Fr.nil n0
  rw [ef_rm5]
  obtain ⟨G, hG⟩ : ∃ G, G = End (Q_rm5 Z o0 o1 t0 r0 t1 r1 h0 n0) s ({ frames := 0, cells := 0, slots := 0, locals := 0 } : Room).cells ({ frames := 0, cells := 0, slots := 0, locals := 0 } : Room).slots := ⟨_, rfl⟩
  rw [← hG]
  refine go (u' := s₁.setTop (mkF m 1 #[.val (.ref o0), .val (.ref o1)] [(.ref o0)])) (fun _ ks_ => XS.aloadN X0.here hx rfl (hb hby d5_0) rfl rfl ks_) ?_
  obtain ⟨T1, X1, e1, st1⟩ := getF X0 hx hZ hown (host := "") (Or.inl (ww hw 14 rfl)) Via.refl e0 F0 (g := (mkF m 1 #[.val (.ref o0), .val (.ref o1)] [(.ref o0)])) rfl rfl (hb hby d5_1)
  refine go (u' := T1.setTop (mkF m 4 #[.val (.ref o0), .val (.ref o1)] [(.double t0)])) st1 ?_
  refine go (u' := T1.setTop (mkF m 5 #[.val (.ref o0), .val (.ref o1)] [(.ref o1), (.double t0)])) (fun _ ks_ => XS.aloadN X1.here hx rfl (hb hby d5_4) rfl rfl ks_) ?_
  obtain ⟨T2, X2, e2, st2⟩ := getF X1 hx hZ hown (host := "") (Or.inl (ww hw 14 rfl)) Via.refl e1 F2 (g := (mkF m 5 #[.val (.ref o0), .val (.ref o1)] [(.ref o1), (.double t0)])) rfl rfl (hb hby d5_5)
  refine go (u' := T2.setTop (mkF m 8 #[.val (.ref o0), .val (.ref o1)] [(.double t1), (.double t0)])) st2 ?_
  refine go (u' := T2.setTop (mkF m 9 #[.val (.ref o0), .val (.ref o1)] [(.int (cmpValue (FP.dcmp t0 t1) .g))])) (fun _ ks_ => own_dcmp X2.here hx rfl (hb hby d5_8) rfl ks_) ?_
  by_cases c9_1 : (0 : Int32) < (cmpValue (FP.dcmp t0 t1) .g)
  ·
    refine go (u' := T2.setTop (mkF m 52 #[.val (.ref o0), .val (.ref o1)] [])) (fun _ ks_ => XS.ifYes X2.here hx rfl (pc0 := 9) (pc' := 52) rfl (hb hby d5_9) rfl ((if0 _ _).trans (tlt c9_1).2.2.1) (by decide) (by decide) ks_) ?_
    refine go (u' := T2.setTop (mkF m 53 #[.val (.ref o0), .val (.ref o1)] [(.int (0 : Int32))])) (fun _ ks_ => XS.iconst X2.here hx rfl (hb hby d5_52) ks_) ?_
    rw [hG]
    refine gN X2 hx hlk (t := .boolean) hret (by simp) rfl (hb hby d5_53) ?_ (Nat.le_of_ble_eq_true rfl) (Nat.le_of_ble_eq_true rfl)
    show Q_rm5 Z o0 o1 t0 r0 t1 r1 h0 n0 (some (.int (0 : Int32))) T2.heap _
    rw [e2]
    exact ⟨congrArg (fun z => some (Value.int z)) (B0 (fun q => (fun q => q c9_1) q.1)), N0, rfl⟩
  ·
    refine go (u' := T2.setTop (mkF m 12 #[.val (.ref o0), .val (.ref o1)] [])) (fun _ ks_ => XS.ifNo X2.here hx rfl (hb hby d5_9) rfl ((if0 _ _).trans (flt c9_1).2.2.1) ks_) ?_
    refine go (u' := T2.setTop (mkF m 13 #[.val (.ref o0), .val (.ref o1)] [(.ref o0)])) (fun _ ks_ => XS.aloadN X2.here hx rfl (hb hby d5_12) rfl rfl ks_) ?_
    obtain ⟨T3, X3, e3, st3⟩ := getF X2 hx hZ hown (host := "") (Or.inl (ww hw 16 rfl)) Via.refl e2 F1 (g := (mkF m 13 #[.val (.ref o0), .val (.ref o1)] [(.ref o0)])) rfl rfl (hb hby d5_13)
    refine go (u' := T3.setTop (mkF m 16 #[.val (.ref o0), .val (.ref o1)] [(.long r0)])) st3 ?_
    refine go (u' := T3.setTop (mkF m 17 #[.val (.ref o0), .val (.ref o1)] [(.ref o1), (.long r0)])) (fun _ ks_ => XS.aloadN X3.here hx rfl (hb hby d5_16) rfl rfl ks_) ?_
    obtain ⟨T4, X4, e4, st4⟩ := getF X3 hx hZ hown (host := "") (Or.inl (ww hw 16 rfl)) Via.refl e3 F3 (g := (mkF m 17 #[.val (.ref o0), .val (.ref o1)] [(.ref o1), (.long r0)])) rfl rfl (hb hby d5_17)
    refine go (u' := T4.setTop (mkF m 20 #[.val (.ref o0), .val (.ref o1)] [(.long r1), (.long r0)])) st4 ?_
    refine go (u' := T4.setTop (mkF m 21 #[.val (.ref o0), .val (.ref o1)] [(.int (lcmpW r0 r1))])) (fun _ ks_ => XS.lcmp X4.here hx rfl (hb hby d5_20) rfl ks_) ?_
    by_cases c21_2 : r0 < r1
    ·
      refine go (u' := T4.setTop (mkF m 52 #[.val (.ref o0), .val (.ref o1)] [])) (fun _ ks_ => XS.ifYes X4.here hx rfl (pc0 := 21) (pc' := 52) rfl (hb hby d5_21) rfl (lT c21_2).1 (by decide) (by decide) ks_) ?_
      refine go (u' := T4.setTop (mkF m 53 #[.val (.ref o0), .val (.ref o1)] [(.int (0 : Int32))])) (fun _ ks_ => XS.iconst X4.here hx rfl (hb hby d5_52) ks_) ?_
      rw [hG]
      refine gN X4 hx hlk (t := .boolean) hret (by simp) rfl (hb hby d5_53) ?_ (Nat.le_of_ble_eq_true rfl) (Nat.le_of_ble_eq_true rfl)
      show Q_rm5 Z o0 o1 t0 r0 t1 r1 h0 n0 (some (.int (0 : Int32))) T4.heap _
      rw [e4]
      exact ⟨congrArg (fun z => some (Value.int z)) (B0 (fun q => (fun q => (fun q => q c21_2) q.1) q.2)), N0, rfl⟩
    ·
      refine go (u' := T4.setTop (mkF m 24 #[.val (.ref o0), .val (.ref o1)] [])) (fun _ ks_ => XS.ifNo X4.here hx rfl (hb hby d5_21) rfl (lF c21_2).1 ks_) ?_
      refine go (u' := T4.setTop (mkF m 25 #[.val (.ref o0), .val (.ref o1)] [(.ref o0)])) (fun _ ks_ => XS.aloadN X4.here hx rfl (hb hby d5_24) rfl rfl ks_) ?_
      obtain ⟨T5, X5, e5, st5⟩ := getF X4 hx hZ hown (host := "") (Or.inl (ww hw 14 rfl)) Via.refl e4 F0 (g := (mkF m 25 #[.val (.ref o0), .val (.ref o1)] [(.ref o0)])) rfl rfl (hb hby d5_25)
      refine go (u' := T5.setTop (mkF m 28 #[.val (.ref o0), .val (.ref o1)] [(.double t0)])) st5 ?_
      refine go (u' := T5.setTop (mkF m 29 #[.val (.ref o0), .val (.ref o1)] [(.ref o1), (.double t0)])) (fun _ ks_ => XS.aloadN X5.here hx rfl (hb hby d5_28) rfl rfl ks_) ?_
      obtain ⟨T6, X6, e6, st6⟩ := getF X5 hx hZ hown (host := "") (Or.inl (ww hw 14 rfl)) Via.refl e5 F2 (g := (mkF m 29 #[.val (.ref o0), .val (.ref o1)] [(.ref o1), (.double t0)])) rfl rfl (hb hby d5_29)
      refine go (u' := T6.setTop (mkF m 32 #[.val (.ref o0), .val (.ref o1)] [(.double t1), (.double t0)])) st6 ?_
      refine go (u' := T6.setTop (mkF m 33 #[.val (.ref o0), .val (.ref o1)] [(.int (cmpValue (FP.dcmp t0 t1) .g))])) (fun _ ks_ => own_dcmp X6.here hx rfl (hb hby d5_32) rfl ks_) ?_
      by_cases c33_3 : (cmpValue (FP.dcmp t0 t1) .g) < (0 : Int32)
      ·
        refine go (u' := T6.setTop (mkF m 48 #[.val (.ref o0), .val (.ref o1)] [])) (fun _ ks_ => XS.ifYes X6.here hx rfl (pc0 := 33) (pc' := 48) rfl (hb hby d5_33) rfl ((if0 _ _).trans (tlt c33_3).1) (by decide) (by decide) ks_) ?_
        refine go (u' := T6.setTop (mkF m 49 #[.val (.ref o0), .val (.ref o1)] [(.int (1 : Int32))])) (fun _ ks_ => XS.iconst X6.here hx rfl (hb hby d5_48) ks_) ?_
        refine go (u' := T6.setTop (mkF m 53 #[.val (.ref o0), .val (.ref o1)] [(.int (1 : Int32))])) (fun _ ks_ => XS.goto X6.here hx rfl (pc0 := 49) (pc' := 53) rfl (hb hby d5_49) (by decide) (by decide) ks_) ?_
        rw [hG]
        refine gN X6 hx hlk (t := .boolean) hret (by simp) rfl (hb hby d5_53) ?_ (Nat.le_of_ble_eq_true rfl) (Nat.le_of_ble_eq_true rfl)
        show Q_rm5 Z o0 o1 t0 r0 t1 r1 h0 n0 (some (.int (1 : Int32))) T6.heap _
        rw [e6]
        exact ⟨congrArg (fun z => some (Value.int z)) (B1 ⟨c9_1, ⟨c21_2, (Or.inl c33_3)⟩⟩), N0, rfl⟩
      ·
        refine go (u' := T6.setTop (mkF m 36 #[.val (.ref o0), .val (.ref o1)] [])) (fun _ ks_ => XS.ifNo X6.here hx rfl (hb hby d5_33) rfl ((if0 _ _).trans (flt c33_3).1) ks_) ?_
        refine go (u' := T6.setTop (mkF m 37 #[.val (.ref o0), .val (.ref o1)] [(.ref o0)])) (fun _ ks_ => XS.aloadN X6.here hx rfl (hb hby d5_36) rfl rfl ks_) ?_
        obtain ⟨T7, X7, e7, st7⟩ := getF X6 hx hZ hown (host := "") (Or.inl (ww hw 16 rfl)) Via.refl e6 F1 (g := (mkF m 37 #[.val (.ref o0), .val (.ref o1)] [(.ref o0)])) rfl rfl (hb hby d5_37)
        refine go (u' := T7.setTop (mkF m 40 #[.val (.ref o0), .val (.ref o1)] [(.long r0)])) st7 ?_
        refine go (u' := T7.setTop (mkF m 41 #[.val (.ref o0), .val (.ref o1)] [(.ref o1), (.long r0)])) (fun _ ks_ => XS.aloadN X7.here hx rfl (hb hby d5_40) rfl rfl ks_) ?_
        obtain ⟨T8, X8, e8, st8⟩ := getF X7 hx hZ hown (host := "") (Or.inl (ww hw 16 rfl)) Via.refl e7 F3 (g := (mkF m 41 #[.val (.ref o0), .val (.ref o1)] [(.ref o1), (.long r0)])) rfl rfl (hb hby d5_41)
        refine go (u' := T8.setTop (mkF m 44 #[.val (.ref o0), .val (.ref o1)] [(.long r1), (.long r0)])) st8 ?_
        refine go (u' := T8.setTop (mkF m 45 #[.val (.ref o0), .val (.ref o1)] [(.int (lcmpW r0 r1))])) (fun _ ks_ => XS.lcmp X8.here hx rfl (hb hby d5_44) rfl ks_) ?_
        by_cases c45_4 : r1 < r0
        ·
          refine go (u' := T8.setTop (mkF m 48 #[.val (.ref o0), .val (.ref o1)] [])) (fun _ ks_ => XS.ifNo X8.here hx rfl (hb hby d5_45) rfl (lT c45_4).2.2.2 ks_) ?_
          refine go (u' := T8.setTop (mkF m 49 #[.val (.ref o0), .val (.ref o1)] [(.int (1 : Int32))])) (fun _ ks_ => XS.iconst X8.here hx rfl (hb hby d5_48) ks_) ?_
          refine go (u' := T8.setTop (mkF m 53 #[.val (.ref o0), .val (.ref o1)] [(.int (1 : Int32))])) (fun _ ks_ => XS.goto X8.here hx rfl (pc0 := 49) (pc' := 53) rfl (hb hby d5_49) (by decide) (by decide) ks_) ?_
          rw [hG]
          refine gN X8 hx hlk (t := .boolean) hret (by simp) rfl (hb hby d5_53) ?_ (Nat.le_of_ble_eq_true rfl) (Nat.le_of_ble_eq_true rfl)
          show Q_rm5 Z o0 o1 t0 r0 t1 r1 h0 n0 (some (.int (1 : Int32))) T8.heap _
          rw [e8]
          exact ⟨congrArg (fun z => some (Value.int z)) (B1 ⟨c9_1, ⟨c21_2, (Or.inr c45_4)⟩⟩), N0, rfl⟩
        ·
          refine go (u' := T8.setTop (mkF m 52 #[.val (.ref o0), .val (.ref o1)] [])) (fun _ ks_ => XS.ifYes X8.here hx rfl (pc0 := 45) (pc' := 52) rfl (hb hby d5_45) rfl (lF c45_4).2.2.2 (by decide) (by decide) ks_) ?_
          refine go (u' := T8.setTop (mkF m 53 #[.val (.ref o0), .val (.ref o1)] [(.int (0 : Int32))])) (fun _ ks_ => XS.iconst X8.here hx rfl (hb hby d5_52) ks_) ?_
          rw [hG]
          refine gN X8 hx hlk (t := .boolean) hret (by simp) rfl (hb hby d5_53) ?_ (Nat.le_of_ble_eq_true rfl) (Nat.le_of_ble_eq_true rfl)
          show Q_rm5 Z o0 o1 t0 r0 t1 r1 h0 n0 (some (.int (0 : Int32))) T8.heap _
          rw [e8]
          exact ⟨congrArg (fun z => some (Value.int z)) (B0 (fun q => (fun q => (fun q => q.elim c33_3 c45_4) q.2) q.2)), N0, rfl⟩
theorem pd__40_DJ_41_V : parseMethodDescriptor "(DJ)V" = some ⟨[.double, .long], none⟩ := by decide +kernel
theorem pd__40_IJIJ_41_Z : parseMethodDescriptor "(IJIJ)Z" = some ⟨[.int, .long, .int, .long], some .boolean⟩ := by decide +kernel
theorem pd__40_Lcom_47_example_47_lootpath_47_lootpath_47_ttp_47_Objectives_59__41_Z : parseMethodDescriptor "(Lcom/example/lootpath/lootpath/ttp/Objectives;)Z" = some ⟨[(.object "com/example/lootpath/lootpath/ttp/Objectives")], some .boolean⟩ := by decide +kernel
theorem pn_com_example_lootpath_lootpath_ttp_ObjectivesDominatesPinLaw_law_0 : plainFor x = true := by first | exact plainFor_of_name (by first | (simp [plainName, overriddenIn]; done) | decide +kernel) | decide +kernel
def Q_rm0 (Z : State) (p0 : Int32) (p1 : Int32) (q2 : Int64) (q3 : Int64) (p4 : Int32) (h0 : Heap) (n0 : Nat) (v : Option Value) (h : Heap) (L : List Loc) : Prop := v = some (.int (1 : Int32)) ∧ Fr n0 L
set_option maxRecDepth 65536 in
set_option maxHeartbeats 4000000 in
theorem ef_rm0 (m : MethodId) (p0 : Int32) (p1 : Int32) (q2 : Int64) (q3 : Int64) (p4 : Int32) : entryFrame m #[(.int p0), (.int p1), (.long q2), (.long q3), (.int p4)] maxLocals = mkF m 0 #[.val (.int p0), .val (.int p1), .val (.long q2), .second, .val (.long q3), .second, .val (.int p4), .unset, .unset, .unset, .unset, .unset, .unset, .unset, .unset, .unset, .unset] [] := by first | (simp [entryFrame, mkF, argsToLocals, Value.category, maxLocals]; done) | rfl
set_option maxRecDepth 65536 in
set_option maxHeartbeats 40000000 in
theorem rm0 (l : Launch) (Z : State) (a0 : Array Value) (hw : ∀ d ∈ tables_1, d.before a0 Z = true) (ws : List Jvm.Cond) (p0 : Int32) (p1 : Int32) (q2 : Int64) (q3 : Int64) (p4 : Int32) (h0 : Heap) (n0 : Nat) (Z0 : n0 ≤ h0.size)  :
    MetFree l x (head1 (Jvm.Cond.code x code maxLocals ret :: ws) room_1) (fun a U => a = #[(.int p0), (.int p1), (.long q2), (.long q3), (.int p4)] ∧ Z.Warmed39 U.vm ∧ U.heap = h0) (fun _ _ _ _ _ => True) (fun _ U o U' => ∃ v L, o = .returned v ∧ Q_rm0 Z p0 p1 q2 q3 p4 h0 n0 v U'.heap L ∧ FrameEnd U o U' L room_1.cells room_1.slots) := by
  refine body pn_com_example_lootpath_lootpath_ttp_ObjectivesDominatesPinLaw_law_0 ?_
  intro p e s m below meth c s₁ hx hby hml hown hnm hret hlk hZ e0 X0
  replace hml : c.maxLocals = 17 := hml
  replace hown : s.vm.findClass "com/example/lootpath/lootpath/ttp/ObjectivesDominatesPinLaw" = some m.cls := hown
  replace hnm : meth.name = "law" := hnm
  replace hret : meth.sig.returnType = (some .boolean) := hret
  have N0 := Fr.nil n0
  rw [ef_rm0]
  obtain ⟨G, hG⟩ : ∃ G, G = End (Q_rm0 Z p0 p1 q2 q3 p4 h0 n0) s room_1.cells room_1.slots := ⟨_, rfl⟩
  rw [← hG]
  refine go (u' := s₁.setTop (mkF m 1 #[.val (.int p0), .val (.int p1), .val (.long q2), .second, .val (.long q3), .second, .val (.int p4), .unset, .unset, .unset, .unset, .unset, .unset, .unset, .unset, .unset, .unset] [(.int p0)])) (fun _ ks_ => XS.iloadN X0.here hx rfl (hb hby at_0) rfl  ks_) ?_
  refine go (u' := s₁.setTop (mkF m 3 #[.val (.int p0), .val (.int p1), .val (.long q2), .second, .val (.long q3), .second, .val (.int p4), .val (.int p0), .unset, .unset, .unset, .unset, .unset, .unset, .unset, .unset, .unset] [])) (fun _ ks_ => XS.istore X0.here hx rfl (hb hby at_1) rfl  (l' := #[.val (.int p0), .val (.int p1), .val (.long q2), .second, .val (.long q3), .second, .val (.int p4), .val (.int p0), .unset, .unset, .unset, .unset, .unset, .unset, .unset, .unset, .unset]) rfl ks_) ?_
  refine go (u' := s₁.setTop (mkF m 5 #[.val (.int p0), .val (.int p1), .val (.long q2), .second, .val (.long q3), .second, .val (.int p4), .val (.int p0), .unset, .unset, .unset, .unset, .unset, .unset, .unset, .unset, .unset] [(.int p4)])) (fun _ ks_ => XS.iload X0.here hx rfl (hb hby at_3) rfl  ks_) ?_
  refine go (u' := s₁.setTop (mkF m 6 #[.val (.int p0), .val (.int p1), .val (.long q2), .second, .val (.long q3), .second, .val (.int p4), .val (.int p0), .unset, .unset, .unset, .unset, .unset, .unset, .unset, .unset, .unset] [(.int (1 : Int32)), (.int p4)])) (fun _ ks_ => XS.iconst X0.here hx rfl (hb hby at_5) ks_) ?_
  refine go (u' := s₁.setTop (mkF m 7 #[.val (.int p0), .val (.int p1), .val (.long q2), .second, .val (.long q3), .second, .val (.int p4), .val (.int p0), .unset, .unset, .unset, .unset, .unset, .unset, .unset, .unset, .unset] [(.int (p4 &&& (1 : Int32)))])) (fun _ ks_ => XS.iand X0.here hx rfl (hb hby at_6) rfl ks_) ?_
  have J15_1 : ∀ tb : Int32, tb = (if (p4 &&& (1 : Int32)) = (0 : Int32) then p1 else p0) → Go p.tables e below G (s₁.setTop (mkF m 15 #[.val (.int p0), .val (.int p1), .val (.long q2), .second, .val (.long q3), .second, .val (.int p4), .val (.int p0), .unset, .unset, .unset, .unset, .unset, .unset, .unset, .unset, .unset] [(.int tb)])) := by
    intro tb htb
    refine go (u' := s₁.setTop (mkF m 17 #[.val (.int p0), .val (.int p1), .val (.long q2), .second, .val (.long q3), .second, .val (.int p4), .val (.int p0), .val (.int tb), .unset, .unset, .unset, .unset, .unset, .unset, .unset, .unset] [])) (fun _ ks_ => XS.istore X0.here hx rfl (hb hby at_15) rfl  (l' := #[.val (.int p0), .val (.int p1), .val (.long q2), .second, .val (.long q3), .second, .val (.int p4), .val (.int p0), .val (.int tb), .unset, .unset, .unset, .unset, .unset, .unset, .unset, .unset]) rfl ks_) ?_
    refine go (u' := s₁.setTop (mkF m 18 #[.val (.int p0), .val (.int p1), .val (.long q2), .second, .val (.long q3), .second, .val (.int p4), .val (.int p0), .val (.int tb), .unset, .unset, .unset, .unset, .unset, .unset, .unset, .unset] [(.long q2)])) (fun _ ks_ => XS.lloadN X0.here hx rfl (hb hby at_17) rfl  ks_) ?_
    refine go (u' := s₁.setTop (mkF m 20 #[.val (.int p0), .val (.int p1), .val (.long q2), .second, .val (.long q3), .second, .val (.int p4), .val (.int p0), .val (.int tb), .val (.long q2), .second, .unset, .unset, .unset, .unset, .unset, .unset] [])) (fun _ ks_ => XS.lstore X0.here hx rfl (hb hby at_18) rfl  (l' := #[.val (.int p0), .val (.int p1), .val (.long q2), .second, .val (.long q3), .second, .val (.int p4), .val (.int p0), .val (.int tb), .val (.long q2), .second, .unset, .unset, .unset, .unset, .unset, .unset]) rfl ks_) ?_
    refine go (u' := s₁.setTop (mkF m 22 #[.val (.int p0), .val (.int p1), .val (.long q2), .second, .val (.long q3), .second, .val (.int p4), .val (.int p0), .val (.int tb), .val (.long q2), .second, .unset, .unset, .unset, .unset, .unset, .unset] [(.int p4)])) (fun _ ks_ => XS.iload X0.here hx rfl (hb hby at_20) rfl  ks_) ?_
    refine go (u' := s₁.setTop (mkF m 23 #[.val (.int p0), .val (.int p1), .val (.long q2), .second, .val (.long q3), .second, .val (.int p4), .val (.int p0), .val (.int tb), .val (.long q2), .second, .unset, .unset, .unset, .unset, .unset, .unset] [(.int (2 : Int32)), (.int p4)])) (fun _ ks_ => XS.iconst X0.here hx rfl (hb hby at_22) ks_) ?_
    refine go (u' := s₁.setTop (mkF m 24 #[.val (.int p0), .val (.int p1), .val (.long q2), .second, .val (.long q3), .second, .val (.int p4), .val (.int p0), .val (.int tb), .val (.long q2), .second, .unset, .unset, .unset, .unset, .unset, .unset] [(.int (p4 &&& (2 : Int32)))])) (fun _ ks_ => XS.iand X0.here hx rfl (hb hby at_23) rfl ks_) ?_
    have J33_2 : ∀ pb : Int64, pb = (if (p4 &&& (2 : Int32)) = (0 : Int32) then q3 else q2) → Go p.tables e below G (s₁.setTop (mkF m 33 #[.val (.int p0), .val (.int p1), .val (.long q2), .second, .val (.long q3), .second, .val (.int p4), .val (.int p0), .val (.int tb), .val (.long q2), .second, .unset, .unset, .unset, .unset, .unset, .unset] [(.long pb)])) := by
      intro pb hpb
      refine go (u' := s₁.setTop (mkF m 35 #[.val (.int p0), .val (.int p1), .val (.long q2), .second, .val (.long q3), .second, .val (.int p4), .val (.int p0), .val (.int tb), .val (.long q2), .second, .val (.long pb), .second, .unset, .unset, .unset, .unset] [])) (fun _ ks_ => XS.lstore X0.here hx rfl (hb hby at_33) rfl  (l' := #[.val (.int p0), .val (.int p1), .val (.long q2), .second, .val (.long q3), .second, .val (.int p4), .val (.int p0), .val (.int tb), .val (.long q2), .second, .val (.long pb), .second, .unset, .unset, .unset, .unset]) rfl ks_) ?_
      obtain ⟨T1, h1, X1, e1, E1, A1, D1, -, st1⟩ := newO X0 hx hZ hown (ww hw 0 rfl) (ww hw 1 rfl) (ww hw 2 rfl) e0 (g := (mkF m 35 #[.val (.int p0), .val (.int p1), .val (.long q2), .second, .val (.long q3), .second, .val (.int p4), .val (.int p0), .val (.int tb), .val (.long q2), .second, .val (.long pb), .second, .unset, .unset, .unset, .unset] [])) rfl (hb hby at_35) (by decide) (by decide)
      obtain ⟨b1, g1⟩ : ∃ z, z = h0.size := ⟨_, rfl⟩
      rw [← g1] at A1 D1 st1
      have g_b1 : n0 ≤ b1 := Nat.le_trans Z0 (Nat.le_of_eq g1.symm)
      have sz_b1 : h0.size ≤ b1 := Nat.le_trans (Keep.refl h0 []).1 (Nat.le_of_eq g1.symm)
      have K1 : Keep h0 h1 [] := (Keep.refl h0 []).ext E1
      have Z1 : n0 ≤ h1.size := Nat.le_trans Z0 E1.1
      have Fa2 : Fld Z h1 b1 "com/example/lootpath/lootpath/ttp/Objectives" "time" "D" (.double (0 : UInt64)) := D1 (Or.inr (ww hw 15 rfl)) (ty := .double) (by decide)
      have Fa3 : Fld Z h1 b1 "com/example/lootpath/lootpath/ttp/Objectives" "profit" "J" (.long (0 : Int64)) := D1 (Or.inr (ww hw 17 rfl)) (ty := .long) (by decide)
      refine go (u' := T1.setTop (mkF m 38 #[.val (.int p0), .val (.int p1), .val (.long q2), .second, .val (.long q3), .second, .val (.int p4), .val (.int p0), .val (.int tb), .val (.long q2), .second, .val (.long pb), .second, .unset, .unset, .unset, .unset] [(.ref b1)])) st1 ?_
      refine go (u' := T1.setTop (mkF m 39 #[.val (.int p0), .val (.int p1), .val (.long q2), .second, .val (.long q3), .second, .val (.int p4), .val (.int p0), .val (.int tb), .val (.long q2), .second, .val (.long pb), .second, .unset, .unset, .unset, .unset] [(.ref b1), (.ref b1)])) (fun _ ks_ => XS.dup X1.here hx rfl (hb hby at_38) rfl rfl ks_) ?_
      refine go (u' := T1.setTop (mkF m 41 #[.val (.int p0), .val (.int p1), .val (.long q2), .second, .val (.long q3), .second, .val (.int p4), .val (.int p0), .val (.int tb), .val (.long q2), .second, .val (.long pb), .second, .unset, .unset, .unset, .unset] [(.int p0), (.ref b1), (.ref b1)])) (fun _ ks_ => XS.iload X1.here hx rfl (hb hby at_39) rfl  ks_) ?_
      refine go (u' := T1.setTop (mkF m 42 #[.val (.int p0), .val (.int p1), .val (.long q2), .second, .val (.long q3), .second, .val (.int p4), .val (.int p0), .val (.int tb), .val (.long q2), .second, .val (.long pb), .second, .unset, .unset, .unset, .unset] [(.double (FP.i2d p0)), (.ref b1), (.ref b1)])) (fun _ ks_ => own_i2d X1.here hx rfl (hb hby at_41) rfl ks_) ?_
      refine go (u' := T1.setTop (mkF m 44 #[.val (.int p0), .val (.int p1), .val (.long q2), .second, .val (.long q3), .second, .val (.int p4), .val (.int p0), .val (.int tb), .val (.long q2), .second, .val (.long pb), .second, .unset, .unset, .unset, .unset] [(.long q2), (.double (FP.i2d p0)), (.ref b1), (.ref b1)])) (fun _ ks_ => XS.lload X1.here hx rfl (hb hby at_42) rfl  ks_) ?_
      obtain ⟨_, _, ⟨T4, L4, k4, n4⟩, -, X4, ⟨Lc4, hQ4, l4, y4, z4⟩, st4⟩ := X1.specialBack hx (y := (⟨"com/example/lootpath/lootpath/ttp/Objectives", "<init>", "(DJ)V"⟩ : MethodName)) rfl hown (mvT hZ (ww hw 3 rfl)) (mvT hZ (ww hw 4 rfl)) (mvT hZ (ww hw 5 rfl)) (by decide) (backOf (W := 1) (rm1 l Z a0 hw [] b1 (FP.i2d p0) q2 h1 n0 Z1 g_b1 A1 Fa2 Fa3) hZ (ww hw 5 rfl) (ww hw 2 rfl) (by decide) (by decide)) (g := (mkF m 44 #[.val (.int p0), .val (.int p1), .val (.long q2), .second, .val (.long q3), .second, .val (.int p4), .val (.int p0), .val (.int tb), .val (.long q2), .second, .val (.long pb), .second, .unset, .unset, .unset, .unset] [(.long q2), (.double (FP.i2d p0)), (.ref b1), (.ref b1)])) rfl (by rw [hml]; rfl) (Steps.refl _) (a := b1) (argsL := [(.double (FP.i2d p0)), (.long q2)]) (rest := [(.ref b1)]) (lenOf pd__40_DJ_41_V rfl) rfl (by show 2 * 0 + _ ≤ _; exact Nat.le_of_eq rfl) (hb hby at_44) (fun _ _ => ⟨rfl, e1, (by decide : 1 + 0 ≤ _), (by decide : 2 + 0 ≤ _)⟩)
      dsimp only [Pt.U, Pt.locs, Pt.cells, Pt.slots] at X4 l4 y4 z4 st4 hQ4
      subst l4 y4 z4
      obtain ⟨rfl, N4q, Kq4, Fa5, Fa6, Fa7⟩ := hQ4
      have N4 := Fr.app N0 N4q
      have K4 : Keep h0 T4.heap [] := K1.trans Kq4 (allS (P := fun x => x ∈ [] ∨ h0.size ≤ x) (Or.inr sz_b1) all0)
      have Z4 : n0 ≤ T4.heap.size := Nat.le_trans Z1 Kq4.1
      have Fa8 : Exa Z T4.heap b1 "com/example/lootpath/lootpath/ttp/Objectives" := A1.keep Kq4
      refine goT (u' := T4.setTop (mkF m 47 #[.val (.int p0), .val (.int p1), .val (.long q2), .second, .val (.long q3), .second, .val (.int p4), .val (.int p0), .val (.int tb), .val (.long q2), .second, .val (.long pb), .second, .unset, .unset, .unset, .unset] [(.ref b1)])) st4 ?_
      refine go (u' := T4.setTop (mkF m 49 #[.val (.int p0), .val (.int p1), .val (.long q2), .second, .val (.long q3), .second, .val (.int p4), .val (.int p0), .val (.int tb), .val (.long q2), .second, .val (.long pb), .second, .val (.ref b1), .unset, .unset, .unset] [])) (fun _ ks_ => XS.astore X4.here hx rfl (hb hby at_47) rfl rfl (l' := #[.val (.int p0), .val (.int p1), .val (.long q2), .second, .val (.long q3), .second, .val (.int p4), .val (.int p0), .val (.int tb), .val (.long q2), .second, .val (.long pb), .second, .val (.ref b1), .unset, .unset, .unset]) rfl ks_) ?_
      obtain ⟨T9, h9, X9, e9, E9, A9, D9, -, st9⟩ := newO X4 hx hZ hown (ww hw 0 rfl) (ww hw 1 rfl) (ww hw 2 rfl) (rfl : T4.heap = _) (g := (mkF m 49 #[.val (.int p0), .val (.int p1), .val (.long q2), .second, .val (.long q3), .second, .val (.int p4), .val (.int p0), .val (.int tb), .val (.long q2), .second, .val (.long pb), .second, .val (.ref b1), .unset, .unset, .unset] [])) rfl (hb hby at_49) (by decide) (by decide)
      obtain ⟨b9, g9⟩ : ∃ z, z = T4.heap.size := ⟨_, rfl⟩
      rw [← g9] at A9 D9 st9
      have ne_b1_b9 : b1 ≠ b9 := Nat.ne_of_lt (Nat.lt_of_lt_of_le Fa5.lt (Nat.le_of_eq g9.symm))
      have g_b9 : n0 ≤ b9 := Nat.le_trans Z4 (Nat.le_of_eq g9.symm)
      have sz_b9 : h0.size ≤ b9 := Nat.le_trans K4.1 (Nat.le_of_eq g9.symm)
      have K9 : Keep h0 h9 [] := K4.ext E9
      have Fa10 : Exa Z h9 b1 "com/example/lootpath/lootpath/ttp/Objectives" := Fa5.ext E9
      have Fa11 : Fld Z h9 b1 "com/example/lootpath/lootpath/ttp/Objectives" "time" "D" (.double (FP.i2d p0)) := Fa6.ext E9
      have Fa12 : Fld Z h9 b1 "com/example/lootpath/lootpath/ttp/Objectives" "profit" "J" (.long q2) := Fa7.ext E9
      have Z9 : n0 ≤ h9.size := Nat.le_trans Z4 E9.1
      have Fa13 : Fld Z h9 b9 "com/example/lootpath/lootpath/ttp/Objectives" "time" "D" (.double (0 : UInt64)) := D9 (Or.inr (ww hw 15 rfl)) (ty := .double) (by decide)
      have Fa14 : Fld Z h9 b9 "com/example/lootpath/lootpath/ttp/Objectives" "profit" "J" (.long (0 : Int64)) := D9 (Or.inr (ww hw 17 rfl)) (ty := .long) (by decide)
      refine go (u' := T9.setTop (mkF m 52 #[.val (.int p0), .val (.int p1), .val (.long q2), .second, .val (.long q3), .second, .val (.int p4), .val (.int p0), .val (.int tb), .val (.long q2), .second, .val (.long pb), .second, .val (.ref b1), .unset, .unset, .unset] [(.ref b9)])) st9 ?_
      refine go (u' := T9.setTop (mkF m 53 #[.val (.int p0), .val (.int p1), .val (.long q2), .second, .val (.long q3), .second, .val (.int p4), .val (.int p0), .val (.int tb), .val (.long q2), .second, .val (.long pb), .second, .val (.ref b1), .unset, .unset, .unset] [(.ref b9), (.ref b9)])) (fun _ ks_ => XS.dup X9.here hx rfl (hb hby at_52) rfl rfl ks_) ?_
      refine go (u' := T9.setTop (mkF m 55 #[.val (.int p0), .val (.int p1), .val (.long q2), .second, .val (.long q3), .second, .val (.int p4), .val (.int p0), .val (.int tb), .val (.long q2), .second, .val (.long pb), .second, .val (.ref b1), .unset, .unset, .unset] [(.int tb), (.ref b9), (.ref b9)])) (fun _ ks_ => XS.iload X9.here hx rfl (hb hby at_53) rfl  ks_) ?_
      refine go (u' := T9.setTop (mkF m 56 #[.val (.int p0), .val (.int p1), .val (.long q2), .second, .val (.long q3), .second, .val (.int p4), .val (.int p0), .val (.int tb), .val (.long q2), .second, .val (.long pb), .second, .val (.ref b1), .unset, .unset, .unset] [(.double (FP.i2d tb)), (.ref b9), (.ref b9)])) (fun _ ks_ => own_i2d X9.here hx rfl (hb hby at_55) rfl ks_) ?_
      refine go (u' := T9.setTop (mkF m 58 #[.val (.int p0), .val (.int p1), .val (.long q2), .second, .val (.long q3), .second, .val (.int p4), .val (.int p0), .val (.int tb), .val (.long q2), .second, .val (.long pb), .second, .val (.ref b1), .unset, .unset, .unset] [(.long pb), (.double (FP.i2d tb)), (.ref b9), (.ref b9)])) (fun _ ks_ => XS.lload X9.here hx rfl (hb hby at_56) rfl  ks_) ?_
      obtain ⟨_, _, ⟨T15, L15, k15, n15⟩, -, X15, ⟨Lc15, hQ15, l15, y15, z15⟩, st15⟩ := X9.specialBack hx (y := (⟨"com/example/lootpath/lootpath/ttp/Objectives", "<init>", "(DJ)V"⟩ : MethodName)) rfl hown (mvT hZ (ww hw 3 rfl)) (mvT hZ (ww hw 4 rfl)) (mvT hZ (ww hw 5 rfl)) (by decide) (backOf (W := 1) (rm1 l Z a0 hw [] b9 (FP.i2d tb) pb h9 n0 Z9 g_b9 A9 Fa13 Fa14) hZ (ww hw 5 rfl) (ww hw 2 rfl) (by decide) (by decide)) (g := (mkF m 58 #[.val (.int p0), .val (.int p1), .val (.long q2), .second, .val (.long q3), .second, .val (.int p4), .val (.int p0), .val (.int tb), .val (.long q2), .second, .val (.long pb), .second, .val (.ref b1), .unset, .unset, .unset] [(.long pb), (.double (FP.i2d tb)), (.ref b9), (.ref b9)])) rfl (by rw [hml]; rfl) (Steps.refl _) (a := b9) (argsL := [(.double (FP.i2d tb)), (.long pb)]) (rest := [(.ref b9)]) (lenOf pd__40_DJ_41_V rfl) rfl (by show 2 * 0 + _ ≤ _; exact Nat.le_of_eq rfl) (hb hby at_58) (fun _ _ => ⟨rfl, e9, (by decide : 2 + 0 ≤ _), (by decide : 4 + 0 ≤ _)⟩)
      dsimp only [Pt.U, Pt.locs, Pt.cells, Pt.slots] at X15 l15 y15 z15 st15 hQ15
      subst l15 y15 z15
      obtain ⟨rfl, N15q, Kq15, Fa16, Fa17, Fa18⟩ := hQ15
      have N15 := Fr.app N4 N15q
      have K15 : Keep h0 T15.heap [] := K9.trans Kq15 (allS (P := fun x => x ∈ [] ∨ h0.size ≤ x) (Or.inr sz_b9) all0)
      have Z15 : n0 ≤ T15.heap.size := Nat.le_trans Z9 Kq15.1
      have Fa19 : Exa Z T15.heap b1 "com/example/lootpath/lootpath/ttp/Objectives" := Fa10.keep Kq15
      have Fa20 : Fld Z T15.heap b1 "com/example/lootpath/lootpath/ttp/Objectives" "time" "D" (.double (FP.i2d p0)) := Fa11.keep Kq15 (ninS ne_b1_b9 nin0)
      have Fa21 : Fld Z T15.heap b1 "com/example/lootpath/lootpath/ttp/Objectives" "profit" "J" (.long q2) := Fa12.keep Kq15 (ninS ne_b1_b9 nin0)
      have Fa22 : Exa Z T15.heap b9 "com/example/lootpath/lootpath/ttp/Objectives" := A9.keep Kq15
      refine goT (u' := T15.setTop (mkF m 61 #[.val (.int p0), .val (.int p1), .val (.long q2), .second, .val (.long q3), .second, .val (.int p4), .val (.int p0), .val (.int tb), .val (.long q2), .second, .val (.long pb), .second, .val (.ref b1), .unset, .unset, .unset] [(.ref b9)])) st15 ?_
      refine go (u' := T15.setTop (mkF m 63 #[.val (.int p0), .val (.int p1), .val (.long q2), .second, .val (.long q3), .second, .val (.int p4), .val (.int p0), .val (.int tb), .val (.long q2), .second, .val (.long pb), .second, .val (.ref b1), .val (.ref b9), .unset, .unset] [])) (fun _ ks_ => XS.astore X15.here hx rfl (hb hby at_61) rfl rfl (l' := #[.val (.int p0), .val (.int p1), .val (.long q2), .second, .val (.long q3), .second, .val (.int p4), .val (.int p0), .val (.int tb), .val (.long q2), .second, .val (.long pb), .second, .val (.ref b1), .val (.ref b9), .unset, .unset]) rfl ks_) ?_
      refine go (u' := T15.setTop (mkF m 65 #[.val (.int p0), .val (.int p1), .val (.long q2), .second, .val (.long q3), .second, .val (.int p4), .val (.int p0), .val (.int tb), .val (.long q2), .second, .val (.long pb), .second, .val (.ref b1), .val (.ref b9), .unset, .unset] [(.int p0)])) (fun _ ks_ => XS.iload X15.here hx rfl (hb hby at_63) rfl  ks_) ?_
      refine go (u' := T15.setTop (mkF m 67 #[.val (.int p0), .val (.int p1), .val (.long q2), .second, .val (.long q3), .second, .val (.int p4), .val (.int p0), .val (.int tb), .val (.long q2), .second, .val (.long pb), .second, .val (.ref b1), .val (.ref b9), .unset, .unset] [(.long q2), (.int p0)])) (fun _ ks_ => XS.lload X15.here hx rfl (hb hby at_65) rfl  ks_) ?_
      refine go (u' := T15.setTop (mkF m 69 #[.val (.int p0), .val (.int p1), .val (.long q2), .second, .val (.long q3), .second, .val (.int p4), .val (.int p0), .val (.int tb), .val (.long q2), .second, .val (.long pb), .second, .val (.ref b1), .val (.ref b9), .unset, .unset] [(.int tb), (.long q2), (.int p0)])) (fun _ ks_ => XS.iload X15.here hx rfl (hb hby at_67) rfl  ks_) ?_
      refine go (u' := T15.setTop (mkF m 71 #[.val (.int p0), .val (.int p1), .val (.long q2), .second, .val (.long q3), .second, .val (.int p4), .val (.int p0), .val (.int tb), .val (.long q2), .second, .val (.long pb), .second, .val (.ref b1), .val (.ref b9), .unset, .unset] [(.long pb), (.int tb), (.long q2), (.int p0)])) (fun _ ks_ => XS.lload X15.here hx rfl (hb hby at_69) rfl  ks_) ?_
      obtain ⟨_, _, ⟨T23, L23, k23, n23⟩, -, X23, ⟨Lc23, hQ23, l23, y23, z23⟩, st23⟩ := Jvm.LawKit.callS X15 hx (y := (⟨"com/example/lootpath/lootpath/ttp/ObjectivesDominatesPinLaw", "expected", "(IJIJ)Z"⟩ : MethodName)) hown (mvT hZ (ww hw 18 rfl)) (mvT hZ (ww hw 19 rfl)) (mvT hZ (ww hw 20 rfl)) (mvT hZ (ww hw 21 rfl)) (by decide) (backOf (W := 0) (rm4 l Z a0 hw [] p0 q2 tb pb T15.heap n0 Z15) hZ (ww hw 21 rfl) (ww hw 20 rfl) (by decide) (by decide)) (g := (mkF m 71 #[.val (.int p0), .val (.int p1), .val (.long q2), .second, .val (.long q3), .second, .val (.int p4), .val (.int p0), .val (.int tb), .val (.long q2), .second, .val (.long pb), .second, .val (.ref b1), .val (.ref b9), .unset, .unset] [(.long pb), (.int tb), (.long q2), (.int p0)])) rfl (by rw [hml]; rfl) (argsL := [(.int p0), (.long q2), (.int tb), (.long pb)]) (rest := []) (lenOf pd__40_IJIJ_41_Z rfl) rfl (by show 2 * 0 + _ ≤ _; exact Nat.le_of_eq rfl) (hb hby at_71) (fun _ _ => ⟨rfl, (rfl : T15.heap = _), (by decide : 2 + 0 ≤ _), (by decide : 4 + 0 ≤ _)⟩)
      dsimp only [Pt.U, Pt.locs, Pt.cells, Pt.slots] at X23 l23 y23 z23 st23 hQ23
      subst l23 y23 z23
      obtain ⟨rfl, N23q, eq23⟩ := hQ23
      have N23 := Fr.app N15 N23q
      refine go (u' := T23.setTop (mkF m 74 #[.val (.int p0), .val (.int p1), .val (.long q2), .second, .val (.long q3), .second, .val (.int p4), .val (.int p0), .val (.int tb), .val (.long q2), .second, .val (.long pb), .second, .val (.ref b1), .val (.ref b9), .unset, .unset] [(.int (B ((¬ (tb < p0)) ∧ ((¬ (q2 < pb)) ∧ ((¬ (p0 = tb)) ∨ (¬ (q2 = pb)))))))])) st23 ?_
      refine go (u' := T23.setTop (mkF m 76 #[.val (.int p0), .val (.int p1), .val (.long q2), .second, .val (.long q3), .second, .val (.int p4), .val (.int p0), .val (.int tb), .val (.long q2), .second, .val (.long pb), .second, .val (.ref b1), .val (.ref b9), .val (.int (B ((¬ (tb < p0)) ∧ ((¬ (q2 < pb)) ∧ ((¬ (p0 = tb)) ∨ (¬ (q2 = pb))))))), .unset] [])) (fun _ ks_ => XS.istore X23.here hx rfl (hb hby at_74) rfl  (l' := #[.val (.int p0), .val (.int p1), .val (.long q2), .second, .val (.long q3), .second, .val (.int p4), .val (.int p0), .val (.int tb), .val (.long q2), .second, .val (.long pb), .second, .val (.ref b1), .val (.ref b9), .val (.int (B ((¬ (tb < p0)) ∧ ((¬ (q2 < pb)) ∧ ((¬ (p0 = tb)) ∨ (¬ (q2 = pb))))))), .unset]) rfl ks_) ?_
      refine go (u' := T23.setTop (mkF m 78 #[.val (.int p0), .val (.int p1), .val (.long q2), .second, .val (.long q3), .second, .val (.int p4), .val (.int p0), .val (.int tb), .val (.long q2), .second, .val (.long pb), .second, .val (.ref b1), .val (.ref b9), .val (.int (B ((¬ (tb < p0)) ∧ ((¬ (q2 < pb)) ∧ ((¬ (p0 = tb)) ∨ (¬ (q2 = pb))))))), .unset] [(.int tb)])) (fun _ ks_ => XS.iload X23.here hx rfl (hb hby at_76) rfl  ks_) ?_
      refine go (u' := T23.setTop (mkF m 80 #[.val (.int p0), .val (.int p1), .val (.long q2), .second, .val (.long q3), .second, .val (.int p4), .val (.int p0), .val (.int tb), .val (.long q2), .second, .val (.long pb), .second, .val (.ref b1), .val (.ref b9), .val (.int (B ((¬ (tb < p0)) ∧ ((¬ (q2 < pb)) ∧ ((¬ (p0 = tb)) ∨ (¬ (q2 = pb))))))), .unset] [(.long pb), (.int tb)])) (fun _ ks_ => XS.lload X23.here hx rfl (hb hby at_78) rfl  ks_) ?_
      refine go (u' := T23.setTop (mkF m 82 #[.val (.int p0), .val (.int p1), .val (.long q2), .second, .val (.long q3), .second, .val (.int p4), .val (.int p0), .val (.int tb), .val (.long q2), .second, .val (.long pb), .second, .val (.ref b1), .val (.ref b9), .val (.int (B ((¬ (tb < p0)) ∧ ((¬ (q2 < pb)) ∧ ((¬ (p0 = tb)) ∨ (¬ (q2 = pb))))))), .unset] [(.int p0), (.long pb), (.int tb)])) (fun _ ks_ => XS.iload X23.here hx rfl (hb hby at_80) rfl  ks_) ?_
      refine go (u' := T23.setTop (mkF m 84 #[.val (.int p0), .val (.int p1), .val (.long q2), .second, .val (.long q3), .second, .val (.int p4), .val (.int p0), .val (.int tb), .val (.long q2), .second, .val (.long pb), .second, .val (.ref b1), .val (.ref b9), .val (.int (B ((¬ (tb < p0)) ∧ ((¬ (q2 < pb)) ∧ ((¬ (p0 = tb)) ∨ (¬ (q2 = pb))))))), .unset] [(.long q2), (.int p0), (.long pb), (.int tb)])) (fun _ ks_ => XS.lload X23.here hx rfl (hb hby at_82) rfl  ks_) ?_
      obtain ⟨_, _, ⟨T24, L24, k24, n24⟩, -, X24, ⟨Lc24, hQ24, l24, y24, z24⟩, st24⟩ := Jvm.LawKit.callS X23 hx (y := (⟨"com/example/lootpath/lootpath/ttp/ObjectivesDominatesPinLaw", "expected", "(IJIJ)Z"⟩ : MethodName)) hown (mvT hZ (ww hw 18 rfl)) (mvT hZ (ww hw 19 rfl)) (mvT hZ (ww hw 20 rfl)) (mvT hZ (ww hw 21 rfl)) (by decide) (backOf (W := 0) (rm4 l Z a0 hw [] tb pb p0 q2 T15.heap n0 Z15) hZ (ww hw 21 rfl) (ww hw 20 rfl) (by decide) (by decide)) (g := (mkF m 84 #[.val (.int p0), .val (.int p1), .val (.long q2), .second, .val (.long q3), .second, .val (.int p4), .val (.int p0), .val (.int tb), .val (.long q2), .second, .val (.long pb), .second, .val (.ref b1), .val (.ref b9), .val (.int (B ((¬ (tb < p0)) ∧ ((¬ (q2 < pb)) ∧ ((¬ (p0 = tb)) ∨ (¬ (q2 = pb))))))), .unset] [(.long q2), (.int p0), (.long pb), (.int tb)])) rfl (by rw [hml]; rfl) (argsL := [(.int tb), (.long pb), (.int p0), (.long q2)]) (rest := []) (lenOf pd__40_IJIJ_41_Z rfl) rfl (by show 2 * 0 + _ ≤ _; exact Nat.le_of_eq rfl) (hb hby at_84) (fun _ _ => ⟨rfl, eq23, (by decide : 2 + 0 ≤ _), (by decide : 4 + 0 ≤ _)⟩)
      dsimp only [Pt.U, Pt.locs, Pt.cells, Pt.slots] at X24 l24 y24 z24 st24 hQ24
      subst l24 y24 z24
      obtain ⟨rfl, N24q, eq24⟩ := hQ24
      have N24 := Fr.app N23 N24q
      refine go (u' := T24.setTop (mkF m 87 #[.val (.int p0), .val (.int p1), .val (.long q2), .second, .val (.long q3), .second, .val (.int p4), .val (.int p0), .val (.int tb), .val (.long q2), .second, .val (.long pb), .second, .val (.ref b1), .val (.ref b9), .val (.int (B ((¬ (tb < p0)) ∧ ((¬ (q2 < pb)) ∧ ((¬ (p0 = tb)) ∨ (¬ (q2 = pb))))))), .unset] [(.int (B ((¬ (p0 < tb)) ∧ ((¬ (pb < q2)) ∧ ((¬ (tb = p0)) ∨ (¬ (pb = q2)))))))])) st24 ?_
      refine go (u' := T24.setTop (mkF m 89 #[.val (.int p0), .val (.int p1), .val (.long q2), .second, .val (.long q3), .second, .val (.int p4), .val (.int p0), .val (.int tb), .val (.long q2), .second, .val (.long pb), .second, .val (.ref b1), .val (.ref b9), .val (.int (B ((¬ (tb < p0)) ∧ ((¬ (q2 < pb)) ∧ ((¬ (p0 = tb)) ∨ (¬ (q2 = pb))))))), .val (.int (B ((¬ (p0 < tb)) ∧ ((¬ (pb < q2)) ∧ ((¬ (tb = p0)) ∨ (¬ (pb = q2)))))))] [])) (fun _ ks_ => XS.istore X24.here hx rfl (hb hby at_87) rfl  (l' := #[.val (.int p0), .val (.int p1), .val (.long q2), .second, .val (.long q3), .second, .val (.int p4), .val (.int p0), .val (.int tb), .val (.long q2), .second, .val (.long pb), .second, .val (.ref b1), .val (.ref b9), .val (.int (B ((¬ (tb < p0)) ∧ ((¬ (q2 < pb)) ∧ ((¬ (p0 = tb)) ∨ (¬ (q2 = pb))))))), .val (.int (B ((¬ (p0 < tb)) ∧ ((¬ (pb < q2)) ∧ ((¬ (tb = p0)) ∨ (¬ (pb = q2)))))))]) rfl ks_) ?_
      refine go (u' := T24.setTop (mkF m 91 #[.val (.int p0), .val (.int p1), .val (.long q2), .second, .val (.long q3), .second, .val (.int p4), .val (.int p0), .val (.int tb), .val (.long q2), .second, .val (.long pb), .second, .val (.ref b1), .val (.ref b9), .val (.int (B ((¬ (tb < p0)) ∧ ((¬ (q2 < pb)) ∧ ((¬ (p0 = tb)) ∨ (¬ (q2 = pb))))))), .val (.int (B ((¬ (p0 < tb)) ∧ ((¬ (pb < q2)) ∧ ((¬ (tb = p0)) ∨ (¬ (pb = q2)))))))] [(.ref b1)])) (fun _ ks_ => XS.aload X24.here hx rfl (hb hby at_89) rfl rfl ks_) ?_
      refine go (u' := T24.setTop (mkF m 93 #[.val (.int p0), .val (.int p1), .val (.long q2), .second, .val (.long q3), .second, .val (.int p4), .val (.int p0), .val (.int tb), .val (.long q2), .second, .val (.long pb), .second, .val (.ref b1), .val (.ref b9), .val (.int (B ((¬ (tb < p0)) ∧ ((¬ (q2 < pb)) ∧ ((¬ (p0 = tb)) ∨ (¬ (q2 = pb))))))), .val (.int (B ((¬ (p0 < tb)) ∧ ((¬ (pb < q2)) ∧ ((¬ (tb = p0)) ∨ (¬ (pb = q2)))))))] [(.ref b9), (.ref b1)])) (fun _ ks_ => XS.aload X24.here hx rfl (hb hby at_91) rfl rfl ks_) ?_
      obtain ⟨cq25, kq25, q25a, q25b, q25c⟩ := isOf hZ eq24 Fa19
      obtain ⟨_, _, ⟨T25, L25, k25, n25⟩, -, X25, ⟨Lc25, hQ25, l25, y25, z25⟩, st25⟩ := X24.virtualBack hx (y := (⟨"com/example/lootpath/lootpath/ttp/Objectives", "dominates", "(Lcom/example/lootpath/lootpath/ttp/Objectives;)Z"⟩ : MethodName)) (z := (⟨"com/example/lootpath/lootpath/ttp/Objectives", "dominates", "(Lcom/example/lootpath/lootpath/ttp/Objectives;)Z"⟩ : MethodName)) hown (mvT hZ (ww hw 22 rfl)) (mvT hZ (ww hw 23 rfl)) (notFace_of_selects (args := #[]) (mvT hZ (ww hw 25 rfl))) (mvT hZ (ww hw 25 rfl)) (mvT hZ (ww hw 24 rfl)) (by decide) (backOf (W := 0) (rm5 l Z a0 hw [] b1 b9 (FP.i2d p0) q2 (FP.i2d tb) pb T15.heap n0 Z15 Fa20 Fa21 Fa17 Fa18) hZ (ww hw 26 rfl) (ww hw 2 rfl) (by decide) (by decide)) q25a q25c (g := (mkF m 93 #[.val (.int p0), .val (.int p1), .val (.long q2), .second, .val (.long q3), .second, .val (.int p4), .val (.int p0), .val (.int tb), .val (.long q2), .second, .val (.long pb), .second, .val (.ref b1), .val (.ref b9), .val (.int (B ((¬ (tb < p0)) ∧ ((¬ (q2 < pb)) ∧ ((¬ (p0 = tb)) ∨ (¬ (q2 = pb))))))), .val (.int (B ((¬ (p0 < tb)) ∧ ((¬ (pb < q2)) ∧ ((¬ (tb = p0)) ∨ (¬ (pb = q2)))))))] [(.ref b9), (.ref b1)])) rfl (by rw [hml]; rfl) (Steps.refl _) (argsL := [(.ref b9)]) (rest := []) (lenOf pd__40_Lcom_47_example_47_lootpath_47_lootpath_47_ttp_47_Objectives_59__41_Z rfl) rfl (by show 2 * 0 + _ ≤ _; exact Nat.le_of_eq rfl) (hb hby at_93) (fun _ _ => ⟨rfl, eq24, (by decide : 2 + 0 ≤ _), (by decide : 4 + 0 ≤ _)⟩)
      dsimp only [Pt.U, Pt.locs, Pt.cells, Pt.slots] at X25 l25 y25 z25 st25 hQ25
      subst l25 y25 z25
      obtain ⟨rfl, N25q, eq25⟩ := hQ25
      have N25 := Fr.app N24 N25q
      refine goT (u' := T25.setTop (mkF m 96 #[.val (.int p0), .val (.int p1), .val (.long q2), .second, .val (.long q3), .second, .val (.int p4), .val (.int p0), .val (.int tb), .val (.long q2), .second, .val (.long pb), .second, .val (.ref b1), .val (.ref b9), .val (.int (B ((¬ (tb < p0)) ∧ ((¬ (q2 < pb)) ∧ ((¬ (p0 = tb)) ∨ (¬ (q2 = pb))))))), .val (.int (B ((¬ (p0 < tb)) ∧ ((¬ (pb < q2)) ∧ ((¬ (tb = p0)) ∨ (¬ (pb = q2)))))))] [(.int (B ((¬ ((0 : Int32) < (cmpValue (FP.dcmp (FP.i2d p0) (FP.i2d tb)) .g))) ∧ ((¬ (q2 < pb)) ∧ (((cmpValue (FP.dcmp (FP.i2d p0) (FP.i2d tb)) .g) < (0 : Int32)) ∨ (pb < q2))))))])) st25 ?_
      refine go (u' := T25.setTop (mkF m 98 #[.val (.int p0), .val (.int p1), .val (.long q2), .second, .val (.long q3), .second, .val (.int p4), .val (.int p0), .val (.int tb), .val (.long q2), .second, .val (.long pb), .second, .val (.ref b1), .val (.ref b9), .val (.int (B ((¬ (tb < p0)) ∧ ((¬ (q2 < pb)) ∧ ((¬ (p0 = tb)) ∨ (¬ (q2 = pb))))))), .val (.int (B ((¬ (p0 < tb)) ∧ ((¬ (pb < q2)) ∧ ((¬ (tb = p0)) ∨ (¬ (pb = q2)))))))] [(.int (B ((¬ (tb < p0)) ∧ ((¬ (q2 < pb)) ∧ ((¬ (p0 = tb)) ∨ (¬ (q2 = pb))))))), (.int (B ((¬ ((0 : Int32) < (cmpValue (FP.dcmp (FP.i2d p0) (FP.i2d tb)) .g))) ∧ ((¬ (q2 < pb)) ∧ (((cmpValue (FP.dcmp (FP.i2d p0) (FP.i2d tb)) .g) < (0 : Int32)) ∨ (pb < q2))))))])) (fun _ ks_ => XS.iload X25.here hx rfl (hb hby at_96) rfl  ks_) ?_
      refine go (u' := T25.setTop (mkF m 101 #[.val (.int p0), .val (.int p1), .val (.long q2), .second, .val (.long q3), .second, .val (.int p4), .val (.int p0), .val (.int tb), .val (.long q2), .second, .val (.long pb), .second, .val (.ref b1), .val (.ref b9), .val (.int (B ((¬ (tb < p0)) ∧ ((¬ (q2 < pb)) ∧ ((¬ (p0 = tb)) ∨ (¬ (q2 = pb))))))), .val (.int (B ((¬ (p0 < tb)) ∧ ((¬ (pb < q2)) ∧ ((¬ (tb = p0)) ∨ (¬ (pb = q2)))))))] [])) (fun _ ks_ => XS.icmpNo X25.here hx rfl (hb hby at_98) rfl (teq (show (B ((¬ ((0 : Int32) < (cmpValue (FP.dcmp (FP.i2d p0) (FP.i2d tb)) .g))) ∧ ((¬ (q2 < pb)) ∧ (((cmpValue (FP.dcmp (FP.i2d p0) (FP.i2d tb)) .g) < (0 : Int32)) ∨ (pb < q2))))) = (B ((¬ (tb < p0)) ∧ ((¬ (q2 < pb)) ∧ ((¬ (p0 = tb)) ∨ (¬ (q2 = pb)))))) from (B_iff (by simp only [own_gt, own_lt]; exact own_dom _ _ _ _)))).2 ks_) ?_
      refine go (u' := T25.setTop (mkF m 103 #[.val (.int p0), .val (.int p1), .val (.long q2), .second, .val (.long q3), .second, .val (.int p4), .val (.int p0), .val (.int tb), .val (.long q2), .second, .val (.long pb), .second, .val (.ref b1), .val (.ref b9), .val (.int (B ((¬ (tb < p0)) ∧ ((¬ (q2 < pb)) ∧ ((¬ (p0 = tb)) ∨ (¬ (q2 = pb))))))), .val (.int (B ((¬ (p0 < tb)) ∧ ((¬ (pb < q2)) ∧ ((¬ (tb = p0)) ∨ (¬ (pb = q2)))))))] [(.ref b9)])) (fun _ ks_ => XS.aload X25.here hx rfl (hb hby at_101) rfl rfl ks_) ?_
      refine go (u' := T25.setTop (mkF m 105 #[.val (.int p0), .val (.int p1), .val (.long q2), .second, .val (.long q3), .second, .val (.int p4), .val (.int p0), .val (.int tb), .val (.long q2), .second, .val (.long pb), .second, .val (.ref b1), .val (.ref b9), .val (.int (B ((¬ (tb < p0)) ∧ ((¬ (q2 < pb)) ∧ ((¬ (p0 = tb)) ∨ (¬ (q2 = pb))))))), .val (.int (B ((¬ (p0 < tb)) ∧ ((¬ (pb < q2)) ∧ ((¬ (tb = p0)) ∨ (¬ (pb = q2)))))))] [(.ref b1), (.ref b9)])) (fun _ ks_ => XS.aload X25.here hx rfl (hb hby at_103) rfl rfl ks_) ?_
      obtain ⟨cq26, kq26, q26a, q26b, q26c⟩ := isOf hZ eq25 Fa16
      obtain ⟨_, _, ⟨T26, L26, k26, n26⟩, -, X26, ⟨Lc26, hQ26, l26, y26, z26⟩, st26⟩ := X25.virtualBack hx (y := (⟨"com/example/lootpath/lootpath/ttp/Objectives", "dominates", "(Lcom/example/lootpath/lootpath/ttp/Objectives;)Z"⟩ : MethodName)) (z := (⟨"com/example/lootpath/lootpath/ttp/Objectives", "dominates", "(Lcom/example/lootpath/lootpath/ttp/Objectives;)Z"⟩ : MethodName)) hown (mvT hZ (ww hw 22 rfl)) (mvT hZ (ww hw 23 rfl)) (notFace_of_selects (args := #[]) (mvT hZ (ww hw 25 rfl))) (mvT hZ (ww hw 25 rfl)) (mvT hZ (ww hw 24 rfl)) (by decide) (backOf (W := 0) (rm5 l Z a0 hw [] b9 b1 (FP.i2d tb) pb (FP.i2d p0) q2 T15.heap n0 Z15 Fa17 Fa18 Fa20 Fa21) hZ (ww hw 26 rfl) (ww hw 2 rfl) (by decide) (by decide)) q26a q26c (g := (mkF m 105 #[.val (.int p0), .val (.int p1), .val (.long q2), .second, .val (.long q3), .second, .val (.int p4), .val (.int p0), .val (.int tb), .val (.long q2), .second, .val (.long pb), .second, .val (.ref b1), .val (.ref b9), .val (.int (B ((¬ (tb < p0)) ∧ ((¬ (q2 < pb)) ∧ ((¬ (p0 = tb)) ∨ (¬ (q2 = pb))))))), .val (.int (B ((¬ (p0 < tb)) ∧ ((¬ (pb < q2)) ∧ ((¬ (tb = p0)) ∨ (¬ (pb = q2)))))))] [(.ref b1), (.ref b9)])) rfl (by rw [hml]; rfl) (Steps.refl _) (argsL := [(.ref b1)]) (rest := []) (lenOf pd__40_Lcom_47_example_47_lootpath_47_lootpath_47_ttp_47_Objectives_59__41_Z rfl) rfl (by show 2 * 0 + _ ≤ _; exact Nat.le_of_eq rfl) (hb hby at_105) (fun _ _ => ⟨rfl, eq25, (by decide : 2 + 0 ≤ _), (by decide : 4 + 0 ≤ _)⟩)
      dsimp only [Pt.U, Pt.locs, Pt.cells, Pt.slots] at X26 l26 y26 z26 st26 hQ26
      subst l26 y26 z26
      obtain ⟨rfl, N26q, eq26⟩ := hQ26
      have N26 := Fr.app N25 N26q
      refine goT (u' := T26.setTop (mkF m 108 #[.val (.int p0), .val (.int p1), .val (.long q2), .second, .val (.long q3), .second, .val (.int p4), .val (.int p0), .val (.int tb), .val (.long q2), .second, .val (.long pb), .second, .val (.ref b1), .val (.ref b9), .val (.int (B ((¬ (tb < p0)) ∧ ((¬ (q2 < pb)) ∧ ((¬ (p0 = tb)) ∨ (¬ (q2 = pb))))))), .val (.int (B ((¬ (p0 < tb)) ∧ ((¬ (pb < q2)) ∧ ((¬ (tb = p0)) ∨ (¬ (pb = q2)))))))] [(.int (B ((¬ ((0 : Int32) < (cmpValue (FP.dcmp (FP.i2d tb) (FP.i2d p0)) .g))) ∧ ((¬ (pb < q2)) ∧ (((cmpValue (FP.dcmp (FP.i2d tb) (FP.i2d p0)) .g) < (0 : Int32)) ∨ (q2 < pb))))))])) st26 ?_
      refine go (u' := T26.setTop (mkF m 110 #[.val (.int p0), .val (.int p1), .val (.long q2), .second, .val (.long q3), .second, .val (.int p4), .val (.int p0), .val (.int tb), .val (.long q2), .second, .val (.long pb), .second, .val (.ref b1), .val (.ref b9), .val (.int (B ((¬ (tb < p0)) ∧ ((¬ (q2 < pb)) ∧ ((¬ (p0 = tb)) ∨ (¬ (q2 = pb))))))), .val (.int (B ((¬ (p0 < tb)) ∧ ((¬ (pb < q2)) ∧ ((¬ (tb = p0)) ∨ (¬ (pb = q2)))))))] [(.int (B ((¬ (p0 < tb)) ∧ ((¬ (pb < q2)) ∧ ((¬ (tb = p0)) ∨ (¬ (pb = q2))))))), (.int (B ((¬ ((0 : Int32) < (cmpValue (FP.dcmp (FP.i2d tb) (FP.i2d p0)) .g))) ∧ ((¬ (pb < q2)) ∧ (((cmpValue (FP.dcmp (FP.i2d tb) (FP.i2d p0)) .g) < (0 : Int32)) ∨ (q2 < pb))))))])) (fun _ ks_ => XS.iload X26.here hx rfl (hb hby at_108) rfl  ks_) ?_
      refine go (u' := T26.setTop (mkF m 113 #[.val (.int p0), .val (.int p1), .val (.long q2), .second, .val (.long q3), .second, .val (.int p4), .val (.int p0), .val (.int tb), .val (.long q2), .second, .val (.long pb), .second, .val (.ref b1), .val (.ref b9), .val (.int (B ((¬ (tb < p0)) ∧ ((¬ (q2 < pb)) ∧ ((¬ (p0 = tb)) ∨ (¬ (q2 = pb))))))), .val (.int (B ((¬ (p0 < tb)) ∧ ((¬ (pb < q2)) ∧ ((¬ (tb = p0)) ∨ (¬ (pb = q2)))))))] [])) (fun _ ks_ => XS.icmpNo X26.here hx rfl (hb hby at_110) rfl (teq (show (B ((¬ ((0 : Int32) < (cmpValue (FP.dcmp (FP.i2d tb) (FP.i2d p0)) .g))) ∧ ((¬ (pb < q2)) ∧ (((cmpValue (FP.dcmp (FP.i2d tb) (FP.i2d p0)) .g) < (0 : Int32)) ∨ (q2 < pb))))) = (B ((¬ (p0 < tb)) ∧ ((¬ (pb < q2)) ∧ ((¬ (tb = p0)) ∨ (¬ (pb = q2)))))) from (B_iff (by simp only [own_gt, own_lt]; exact own_dom _ _ _ _)))).2 ks_) ?_
      refine go (u' := T26.setTop (mkF m 114 #[.val (.int p0), .val (.int p1), .val (.long q2), .second, .val (.long q3), .second, .val (.int p4), .val (.int p0), .val (.int tb), .val (.long q2), .second, .val (.long pb), .second, .val (.ref b1), .val (.ref b9), .val (.int (B ((¬ (tb < p0)) ∧ ((¬ (q2 < pb)) ∧ ((¬ (p0 = tb)) ∨ (¬ (q2 = pb))))))), .val (.int (B ((¬ (p0 < tb)) ∧ ((¬ (pb < q2)) ∧ ((¬ (tb = p0)) ∨ (¬ (pb = q2)))))))] [(.int (1 : Int32))])) (fun _ ks_ => XS.iconst X26.here hx rfl (hb hby at_113) ks_) ?_
      refine go (u' := T26.setTop (mkF m 118 #[.val (.int p0), .val (.int p1), .val (.long q2), .second, .val (.long q3), .second, .val (.int p4), .val (.int p0), .val (.int tb), .val (.long q2), .second, .val (.long pb), .second, .val (.ref b1), .val (.ref b9), .val (.int (B ((¬ (tb < p0)) ∧ ((¬ (q2 < pb)) ∧ ((¬ (p0 = tb)) ∨ (¬ (q2 = pb))))))), .val (.int (B ((¬ (p0 < tb)) ∧ ((¬ (pb < q2)) ∧ ((¬ (tb = p0)) ∨ (¬ (pb = q2)))))))] [(.int (1 : Int32))])) (fun _ ks_ => XS.goto X26.here hx rfl (pc0 := 114) (pc' := 118) rfl (hb hby at_114) (by decide) (by decide) ks_) ?_
      rw [hG]
      refine gN X26 hx hlk (t := .boolean) hret (by simp) rfl (hb hby at_118) ?_ (Nat.le_of_ble_eq_true rfl) (Nat.le_of_ble_eq_true rfl)
      show Q_rm0 Z p0 p1 q2 q3 p4 h0 n0 (some (.int (1 : Int32))) T26.heap _
      rw [eq26]
      exact ⟨rfl, N26⟩
    by_cases c24_1 : (p4 &&& (2 : Int32)) = (0 : Int32)
    ·
      refine go (u' := s₁.setTop (mkF m 31 #[.val (.int p0), .val (.int p1), .val (.long q2), .second, .val (.long q3), .second, .val (.int p4), .val (.int p0), .val (.int tb), .val (.long q2), .second, .unset, .unset, .unset, .unset, .unset, .unset] [])) (fun _ ks_ => XS.ifYes X0.here hx rfl (pc0 := 24) (pc' := 31) rfl (hb hby at_24) rfl ((if0 _ _).trans (teq c24_1).1) (by decide) (by decide) ks_) ?_
      refine go (u' := s₁.setTop (mkF m 33 #[.val (.int p0), .val (.int p1), .val (.long q2), .second, .val (.long q3), .second, .val (.int p4), .val (.int p0), .val (.int tb), .val (.long q2), .second, .unset, .unset, .unset, .unset, .unset, .unset] [(.long q3)])) (fun _ ks_ => XS.lload X0.here hx rfl (hb hby at_31) rfl  ks_) ?_
      exact J33_2 _ ((if_pos c24_1)).symm
    ·
      refine go (u' := s₁.setTop (mkF m 27 #[.val (.int p0), .val (.int p1), .val (.long q2), .second, .val (.long q3), .second, .val (.int p4), .val (.int p0), .val (.int tb), .val (.long q2), .second, .unset, .unset, .unset, .unset, .unset, .unset] [])) (fun _ ks_ => XS.ifNo X0.here hx rfl (hb hby at_24) rfl ((if0 _ _).trans (feq c24_1).1) ks_) ?_
      refine go (u' := s₁.setTop (mkF m 28 #[.val (.int p0), .val (.int p1), .val (.long q2), .second, .val (.long q3), .second, .val (.int p4), .val (.int p0), .val (.int tb), .val (.long q2), .second, .unset, .unset, .unset, .unset, .unset, .unset] [(.long q2)])) (fun _ ks_ => XS.lloadN X0.here hx rfl (hb hby at_27) rfl  ks_) ?_
      refine go (u' := s₁.setTop (mkF m 33 #[.val (.int p0), .val (.int p1), .val (.long q2), .second, .val (.long q3), .second, .val (.int p4), .val (.int p0), .val (.int tb), .val (.long q2), .second, .unset, .unset, .unset, .unset, .unset, .unset] [(.long q2)])) (fun _ ks_ => XS.goto X0.here hx rfl (pc0 := 28) (pc' := 33) rfl (hb hby at_28) (by decide) (by decide) ks_) ?_
      exact J33_2 _ ((if_neg c24_1)).symm
  by_cases c7_2 : (p4 &&& (1 : Int32)) = (0 : Int32)
  ·
    refine go (u' := s₁.setTop (mkF m 14 #[.val (.int p0), .val (.int p1), .val (.long q2), .second, .val (.long q3), .second, .val (.int p4), .val (.int p0), .unset, .unset, .unset, .unset, .unset, .unset, .unset, .unset, .unset] [])) (fun _ ks_ => XS.ifYes X0.here hx rfl (pc0 := 7) (pc' := 14) rfl (hb hby at_7) rfl ((if0 _ _).trans (teq c7_2).1) (by decide) (by decide) ks_) ?_
    refine go (u' := s₁.setTop (mkF m 15 #[.val (.int p0), .val (.int p1), .val (.long q2), .second, .val (.long q3), .second, .val (.int p4), .val (.int p0), .unset, .unset, .unset, .unset, .unset, .unset, .unset, .unset, .unset] [(.int p1)])) (fun _ ks_ => XS.iloadN X0.here hx rfl (hb hby at_14) rfl  ks_) ?_
    exact J15_1 _ ((if_pos c7_2)).symm
  ·
    refine go (u' := s₁.setTop (mkF m 10 #[.val (.int p0), .val (.int p1), .val (.long q2), .second, .val (.long q3), .second, .val (.int p4), .val (.int p0), .unset, .unset, .unset, .unset, .unset, .unset, .unset, .unset, .unset] [])) (fun _ ks_ => XS.ifNo X0.here hx rfl (hb hby at_7) rfl ((if0 _ _).trans (feq c7_2).1) ks_) ?_
    refine go (u' := s₁.setTop (mkF m 11 #[.val (.int p0), .val (.int p1), .val (.long q2), .second, .val (.long q3), .second, .val (.int p4), .val (.int p0), .unset, .unset, .unset, .unset, .unset, .unset, .unset, .unset, .unset] [(.int p0)])) (fun _ ks_ => XS.iloadN X0.here hx rfl (hb hby at_10) rfl  ks_) ?_
    refine go (u' := s₁.setTop (mkF m 15 #[.val (.int p0), .val (.int p1), .val (.long q2), .second, .val (.long q3), .second, .val (.int p4), .val (.int p0), .unset, .unset, .unset, .unset, .unset, .unset, .unset, .unset, .unset] [(.int p0)])) (fun _ ks_ => XS.goto X0.here hx rfl (pc0 := 11) (pc' := 15) rfl (hb hby at_11) (by decide) (by decide) ks_) ?_
    exact J15_1 _ ((if_neg c7_2)).symm
set_option maxRecDepth 65536 in
set_option maxHeartbeats 40000000 in
theorem comes_1 {Post : Tables → Env → Array Value → State → Outcome → State → Prop} (hpost : ∀ tb e args s v u, (limb_1_1.after args s (.returned v) u = true ∧ limb_1_2.after args s (.returned v) u = true ∧ True) → FrameEnd s (.returned v) u (Jvm.fieldLocs frame_1_writes args s ++ Jvm.arrayLocs frame_1_arrays args s ++ Jvm.staticLocs frame_1_statics s) 16 128 → Post tb e args s (.returned v) u) :
    ArmFor flags0 classFile x code maxLocals ret World_1 tables_1 room_1 Calls_1 rest_1 Pre_1 Post := by
  intro l hfl _ _ p e ha hc hk s m args below hf hA hF happ hP
  obtain ⟨hcalls, hrest, hpre⟩ := hP
  obtain ⟨-, -, -, hnamed, -, -, -, hat⟩ := (Spec.applies_iff hf).mp happ
  obtain ⟨hg, hn⟩ := and_e (Cond.before_iff.mp (show (Jvm.Cond.and given_1 narrow_1).before args s = true from hpre))
  obtain ⟨hcount, r0⟩ := and_e hg
  obtain ⟨a0, r1⟩ := and_e r0
  obtain ⟨a1, r2⟩ := and_e r1
  obtain ⟨a2, r3⟩ := and_e r2
  obtain ⟨a3, r4⟩ := and_e r3
  obtain ⟨w0, w1, w2, w3, w4, rfl⟩ : ∃ w0 w1 w2 w3 w4 : Value, args = #[w0, w1, w2, w3, w4] := by
    have hs : args.size = 5 := by simpa [Cond.value, given_1] using hcount
    obtain ⟨L⟩ := args
    match L, hs with
    | [w0, w1, w2, w3, w4], _ => exact ⟨w0, w1, w2, w3, w4, rfl⟩
  have hw := fun d (hd : d ∈ tables_1) => atoms_spec (ws := Jvm.Cond.code x code maxLocals ret :: tables_1) hat d (List.mem_cons_of_mem _ hd)
  have hfit : Fit s := fun {y c} hc i hi => by
    obtain ⟨ha, rfl⟩ := Array.getElem?_eq_some_iff.mp hc
    have q := List.all_eq_true.mp ((Array.all_eq_true_iff_forall_mem.mp hF) _ (Array.getElem_mem ha)) i (List.mem_range.mpr hi)
    simpa [Array.getElem?_eq_getElem hi] using q
  obtain ⟨x0, e0⟩ := is_v a0
  obtain rfl : w0 = (.int x0) := Option.some.inj e0
  obtain ⟨x1, e1⟩ := is_v a1
  obtain rfl : w1 = (.int x1) := Option.some.inj e1
  obtain ⟨x2, e2⟩ := isL_v a2
  obtain rfl : w2 = (.long x2) := Option.some.inj e2
  obtain ⟨x3, e3⟩ := isL_v a3
  obtain rfl : w3 = (.long x3) := Option.some.inj e3
  obtain ⟨x4, e4⟩ := is_v r4
  obtain rfl : w4 = (.int x4) := Option.some.inj e4
  obtain ⟨n, o, h1, h2, h3, _, L, rfl, ⟨rfl, N⟩, hq⟩ := rm0 l s _ hw tables_1 x0 x1 x2 x3 x4 s.heap s.heap.size (Nat.le_refl _)  p e ha hc hk s m _ below hf ((Spec.applies_iff_loose hf).mp happ).1 ⟨rfl, State.Warmed39.refl s, rfl⟩ trivial
  refine ⟨n, _, h1, h2, h3, hpost _ _ _ _ _ _ ⟨Cond.after_iff.mpr rfl, Cond.after_iff.mpr (eq_i res_at (Term.int_eval (1)) rfl), trivial⟩ ⟨hq.1, hq.2.1, (hq.2.2.sift fun y hy => Or.inr (N y hy)).mono (by decide) (by decide)⟩⟩
theorem main_1_1 : Claimed_1_1 := comes_1 fun _ _ _ _ _ _ h hF => ⟨h.1, hF⟩
theorem main_1_2 : Claimed_1_2 := comes_1 fun _ _ _ _ _ _ h hF => ⟨h.2.1, hF⟩
end Jvm.Pilot.@@N@@
namespace Jvm.Pilot.@@N@@
open Jvm Jvm.ClassFile Sem Op Lib Jvm.Free Jvm.Stand Jvm.Pilot.@@N@@.Jvm.D
/-! MADE BY PROGRAM (witnessworld.py) out of the Statement's table words and the real class files: 10 classes; the members and pool entries that the words name. The judged class is class 1, her method 1. -/
namespace start1
open Jvm.ClassFile
def u (s : String) : CpInfo := .utf8 (stringToUtf16 s)
/-- a pool by its gaps: so many unusable entries, then the entry; so many at the end -/
def gap : Nat → List CpInfo → List CpInfo
  | 0, r => r
  | n + 1, r => .unusable :: gap n r
def poolList (es : List (Nat × CpInfo)) (last : Nat) : List CpInfo := es.foldr (fun e r => gap e.1 (e.2 :: r)) (gap last [])
def pool (es : List (Nat × CpInfo)) (last : Nat) : Array CpInfo := ⟨poolList es last⟩
def fileOf (pool : Array CpInfo) (this : Nat) (attrs : Array Attribute := #[]) (ms : Array MethodInfo := #[]) (fl : Nat := 33) (sup : Nat := 0) (ifs : Array Nat := #[]) (fds : Array FieldInfo := #[]) : ClassFile where
  minorVersion := 0
  majorVersion := 65
  constantPool := pool
  accessFlags := fl
  thisClass := this
  superClass := sup
  interfaces := ifs
  fields := fds
  methods := ms
  attributes := attrs
def plain (name : String) (sup : Option ClassId) : Class where
  name := name
  kind := .ordinary
  loader := none
  accessFlags := 33
  super := sup
  interfaces := #[]
  cf := none
  fields := #[]
  methods := #[]
  instanceTypes := #[]
  staticTypes := #[]
  resolved := #[]
  callSites := []
  init := .initialized
  statics := none
  mirror := none

def pool0 : Array CpInfo := pool [(5, u "<init>"), (0, u "()V"), (1, .class_ 10), (1, u "java/lang/Object")] 113

def k0c0 : Code := { maxStack := 0, maxLocals := 1, code := object_method_1_code, exceptionTable := #[], attributes := #[] }
def k0m0 : Method := { name := "<init>", desc := "()V", sig := { parameters := [], returnType := none }, accessFlags := 1, code := some k0c0 }
/-- java/lang/Object -/
def k0 : Class := { plain "java/lang/Object" none with
  accessFlags := 33
  interfaces := #[]
  cf := some (fileOf pool0 8 #[] #[{ accessFlags := 1, nameIndex := 5, descriptorIndex := 6, attributes := #[] }] 33 0 #[] #[])
  fields := #[]
  methods := #[k0m0]
  instanceTypes := #[]
  staticTypes := #[]
  resolved := Array.replicate 124 none
  statics := none }

def pool1 : Array CpInfo := pool [(2, .class_ 4), (1, u "java/lang/Object"), (0, u "<init>"), (0, u "()V"), (0, .class_ 8), (0, u "com/example/lootpath/lootpath/ttp/Objectives"), (0, .methodref 7 10), (0, .nameAndType 5 11), (0, u "(DJ)V"), (0, .methodref 13 14), (0, .class_ 15), (0, .nameAndType 16 17), (0, u "com/example/lootpath/lootpath/ttp/ObjectivesDominatesPinLaw"), (0, u "expected"), (0, u "(IJIJ)Z"), (0, .methodref 7 19), (0, .nameAndType 20 21), (0, u "dominates"), (0, u "(Lcom/example/lootpath/lootpath/ttp/Objectives;)Z"), (2, u "law"), (0, u "(IIJJI)Z")] 3

def k1m0 : Method := { name := "<init>", desc := "()V", sig := { parameters := [], returnType := none }, accessFlags := 1, code := none }
def k1c1 : Code := { maxStack := 6, maxLocals := 17, code := code, exceptionTable := #[], attributes := #[] }
def k1m1 : Method := { name := "law", desc := "(IIJJI)Z", sig := { parameters := [.int, .int, .long, .long, .int], returnType := some .boolean }, accessFlags := 9, code := some k1c1 }
def k1c2 : Code := { maxStack := 4, maxLocals := 8, code := method_3_code, exceptionTable := #[], attributes := #[] }
def k1m2 : Method := { name := "expected", desc := "(IJIJ)Z", sig := { parameters := [.int, .long, .int, .long], returnType := some .boolean }, accessFlags := 10, code := some k1c2 }
/-- com/example/lootpath/lootpath/ttp/ObjectivesDominatesPinLaw -/
def k1 : Class := { plain "com/example/lootpath/lootpath/ttp/ObjectivesDominatesPinLaw" (some 0) with
  accessFlags := 49
  interfaces := #[]
  cf := some (fileOf pool1 13 #[] #[{ accessFlags := 1, nameIndex := 5, descriptorIndex := 6, attributes := #[] }, { accessFlags := 9, nameIndex := 24, descriptorIndex := 25, attributes := #[] }, { accessFlags := 10, nameIndex := 16, descriptorIndex := 17, attributes := #[] }] 49 2 #[] #[])
  fields := #[]
  methods := #[k1m0, k1m1, k1m2]
  instanceTypes := #[]
  staticTypes := #[]
  resolved := Array.replicate 29 none
  statics := none }

def pool2 : Array CpInfo := pool [(1, .methodref 2 3), (0, .class_ 4), (0, .nameAndType 5 6), (0, u "java/lang/Object"), (0, u "<init>"), (0, u "()V"), (0, .class_ 8), (0, u "java/lang/Record")] 13

def k2c0 : Code := { maxStack := 1, maxLocals := 1, code := jdk_30_method_1_code, exceptionTable := #[], attributes := #[] }
def k2m0 : Method := { name := "<init>", desc := "()V", sig := { parameters := [], returnType := none }, accessFlags := 4, code := some k2c0 }
/-- java/lang/Record -/
def k2 : Class := { plain "java/lang/Record" (some 0) with
  accessFlags := 1057
  interfaces := #[]
  cf := some (fileOf pool2 7 #[] #[{ accessFlags := 4, nameIndex := 5, descriptorIndex := 6, attributes := #[] }] 1057 2 #[] #[])
  fields := #[]
  methods := #[k2m0]
  instanceTypes := #[]
  staticTypes := #[]
  resolved := Array.replicate 22 none
  statics := none }

def pool3 : Array CpInfo := pool [(1, .methodref 2 3), (0, .class_ 4), (0, .nameAndType 5 6), (0, u "java/lang/Record"), (0, u "<init>"), (0, u "()V"), (0, .fieldref 8 9), (0, .class_ 10), (0, .nameAndType 11 12), (0, u "com/example/lootpath/lootpath/ttp/Objectives"), (0, u "time"), (0, u "D"), (0, .fieldref 8 14), (0, .nameAndType 15 16), (0, u "profit"), (0, u "J"), (12, u "(DJ)V"), (3, u "dominates"), (0, u "(Lcom/example/lootpath/lootpath/ttp/Objectives;)Z")] 27

def k3c0 : Code := { maxStack := 3, maxLocals := 5, code := prog_43_method_1_code, exceptionTable := #[], attributes := #[] }
def k3m0 : Method := { name := "<init>", desc := "(DJ)V", sig := { parameters := [.double, .long], returnType := none }, accessFlags := 1, code := some k3c0 }
def k3c1 : Code := { maxStack := 4, maxLocals := 2, code := prog_43_method_2_code, exceptionTable := #[], attributes := #[] }
def k3m1 : Method := { name := "dominates", desc := "(Lcom/example/lootpath/lootpath/ttp/Objectives;)Z", sig := { parameters := [(.object "com/example/lootpath/lootpath/ttp/Objectives")], returnType := some .boolean }, accessFlags := 1, code := some k3c1 }
/-- com/example/lootpath/lootpath/ttp/Objectives -/
def k3 : Class := { plain "com/example/lootpath/lootpath/ttp/Objectives" (some 2) with
  accessFlags := 49
  interfaces := #[]
  cf := some (fileOf pool3 8 #[] #[{ accessFlags := 1, nameIndex := 5, descriptorIndex := 29, attributes := #[] }, { accessFlags := 1, nameIndex := 33, descriptorIndex := 34, attributes := #[] }] 49 2 #[] #[{ accessFlags := 18, nameIndex := 11, descriptorIndex := 12, attributes := #[] }, { accessFlags := 18, nameIndex := 15, descriptorIndex := 16, attributes := #[] }])
  fields := #[{ name := "time", type := .double, accessFlags := 18, slot := 0, constantValue := 0 }, { name := "profit", type := .long, accessFlags := 18, slot := 1, constantValue := 0 }]
  methods := #[k3m0, k3m1]
  instanceTypes := #[.double, .long]
  staticTypes := #[]
  resolved := Array.replicate 62 none
  statics := none }

def pool4 : Array CpInfo := pool [(1, u "java/lang/Cloneable"), (0, .class_ 1), (0, u "java/lang/Object"), (0, .class_ 3)] 3

/-- java/lang/Cloneable -/
def k4 : Class := { plain "java/lang/Cloneable" (some 0) with
  accessFlags := 1537
  interfaces := #[]
  cf := some (fileOf pool4 2 #[] #[] 1537 4 #[] #[])
  fields := #[]
  methods := #[]
  instanceTypes := #[]
  staticTypes := #[]
  resolved := Array.replicate 8 none
  statics := none }

def pool5 : Array CpInfo := pool [(1, u "java/io/Serializable"), (0, .class_ 1), (0, u "java/lang/Object"), (0, .class_ 3)] 3

/-- java/io/Serializable -/
def k5 : Class := { plain "java/io/Serializable" (some 0) with
  accessFlags := 1537
  interfaces := #[]
  cf := some (fileOf pool5 2 #[] #[] 1537 4 #[] #[])
  fields := #[]
  methods := #[]
  instanceTypes := #[]
  staticTypes := #[]
  resolved := Array.replicate 8 none
  statics := none }

/-- the primitive byte -/
def k6 : Class := { plain "byte" none with kind := .primitive 'B', accessFlags := 0x411 }
/-- [B -/
def k7 : Class := { plain "[B" (some 0) with kind := .array 6 .byte, interfaces := #[4, 5], accessFlags := 1041 }

/-- the primitive int -/
def k8 : Class := { plain "int" none with kind := .primitive 'I', accessFlags := 0x411 }
/-- [I -/
def k9 : Class := { plain "[I" (some 0) with kind := .array 8 .int, interfaces := #[4, 5], accessFlags := 1041 }

def heap : Heap := #[]
def classes : Array Class := #[k0, k1, k2, k3, k4, k5, k6, k7, k8, k9]
def interned : List (Array UInt16 × Addr) := []
def slotsUsed : Nat := 0
def theMethod : MethodId := ⟨1, 1⟩
def args0 : Array Value := #[.int 1, .int 5, .long 3, .long 2, .int 1]
def aboutOver (below : List Frame) : State where
  vm := { classes := classes, interned := interned.toArray }
  heap := heap
  slotsUsed := slotsUsed
  threads := #[{ frames := .invoking theMethod args0 :: below }]
def below0 : List Frame := [.native { method := ⟨0, 0⟩, args := #[] }]
def about1 : State := aboutOver below0
def p0 : Program := .bare "" "" ""
def e0 : Env := launch0.env 0 0 0
theorem w_frames : about1.frames = Frame.invoking theMethod args0 :: below0 := rfl
set_option maxRecDepth 65536 in
theorem w_args : argsFit about1.vm theMethod args0 = true := by decide +kernel
set_option maxRecDepth 65536 in
theorem w_heap : heapFits about1 = true := by decide +kernel
set_option maxRecDepth 65536 in
theorem w_runnable : about1.curStatus? = some .runnable := by decide +kernel
set_option maxRecDepth 65536 in
theorem w_alone : about1.alone = true := by decide +kernel
set_option maxRecDepth 65536 in
theorem w_named : about1.methodNamed? x = some theMethod := by decide +kernel
set_option maxRecDepth 65536 in
theorem w_hears : about1.hears theMethod below0 = true := by decide +kernel
set_option maxRecDepth 65536 in
theorem w_ripe : about1.ripe theMethod args0 below0 = true := by decide +kernel
theorem w_running : about1.status = .running := rfl
set_option maxRecDepth 65536 in
theorem w_room : about1.hasRoom e0.platform room_1 = true :=
  launch0.hasRoom_least _ room_1 (by decide +kernel) (by decide +kernel) (by decide +kernel) (by decide +kernel) (by decide +kernel) (by decide +kernel)
theorem allAtoms_all (ts : List Jvm.Cond) (a : Array Jvm.Value) (st : Jvm.State) : (allAtoms ts).before a st = ts.all (fun c => c.before a st) := by
  induction ts with
  | nil => rfl
  | cons c t ih =>
    show (Jvm.Cond.and c (allAtoms t)).before a st = _
    rw [Jvm.Cond.before_and, ih, List.all_cons]
def words1 : List Jvm.Cond := Jvm.Cond.code x code maxLocals ret :: tables_1
/-- a 'code' word, met by the world's own term for the bytes: nothing is compared byte by byte -/
theorem code_word {y : MethodName} {bytes : ByteArray} {mx : Nat} {rt : Option FieldType} {a : Array Value} {s : State} {m : MethodId} {meth : Method} {c : Code} (h1 : s.methodNamed? y = some m) (h2 : s.vm.method? m = some meth) (h3 : meth.code = some c) (h4 : c.code = bytes)
    (h5 : (c.maxLocals == mx && c.exceptionTable.isEmpty && decide (c.maxStack ≤ mostOperands) && decide (meth.sig.returnType = rt) && !meth.locks && decide (parseMethodDescriptor y.desc = some meth.sig)) = true) : (Jvm.Cond.code y bytes mx rt).before a s = true := by
  simp only [Bool.and_eq_true, beq_iff_eq, Bool.not_eq_true', decide_eq_true_eq] at h5
  obtain ⟨⟨⟨⟨⟨g1, g2⟩, g3⟩, g4⟩, g5⟩, g6⟩ := h5
  simp [Cond.before, Cond.holds, Cond.value, h1, h2, h3, h4, g1, g2, g3, g4, g5, g6]
def isCode : Jvm.Cond → Bool
  | .code _ _ _ _ => true
  | _ => false
theorem all_split {L : List Jvm.Cond} {P : Jvm.Cond → Bool} (h1 : L.all (fun c => isCode c || P c) = true) (h2 : ∀ c ∈ L.filter isCode, P c = true) : L.all P = true := by
  refine List.all_eq_true.mpr fun c hc => ?_
  have h := List.all_eq_true.mp h1 c hc
  rcases Bool.eq_false_or_eq_true (isCode c) with hi | hi
  · exact h2 c (List.mem_filter.mpr ⟨hc, hi⟩)
  · simpa [hi] using h
set_option maxRecDepth 65536 in
theorem w_c0 : (Jvm.Cond.code x code maxLocals ret).before args0 about1 = true := code_word (m := ⟨1, 1⟩) (meth := k1m1) (c := k1c1) (by decide +kernel) rfl rfl rfl (by decide +kernel)
set_option maxRecDepth 65536 in
theorem w_c1 : (Jvm.Cond.code ({ cls := "com/example/lootpath/lootpath/ttp/Objectives", name := "<init>", desc := "(DJ)V" } : Jvm.MethodName) prog_43_method_1_code (5 : Nat) (Option.none : Option Jvm.ClassFile.FieldType)).before args0 about1 = true := code_word (m := ⟨3, 0⟩) (meth := k3m0) (c := k3c0) (by decide +kernel) rfl rfl rfl (by decide +kernel)
set_option maxRecDepth 65536 in
theorem w_c2 : (Jvm.Cond.code ({ cls := "java/lang/Record", name := "<init>", desc := "()V" } : Jvm.MethodName) jdk_30_method_1_code (1 : Nat) (Option.none : Option Jvm.ClassFile.FieldType)).before args0 about1 = true := code_word (m := ⟨2, 0⟩) (meth := k2m0) (c := k2c0) (by decide +kernel) rfl rfl rfl (by decide +kernel)
set_option maxRecDepth 65536 in
theorem w_c3 : (Jvm.Cond.code ({ cls := "java/lang/Object", name := "<init>", desc := "()V" } : Jvm.MethodName) object_method_1_code (1 : Nat) (Option.none : Option Jvm.ClassFile.FieldType)).before args0 about1 = true := code_word (m := ⟨0, 0⟩) (meth := k0m0) (c := k0c0) (by decide +kernel) rfl rfl rfl (by decide +kernel)
set_option maxRecDepth 65536 in
theorem w_c4 : (Jvm.Cond.code ({ cls := "com/example/lootpath/lootpath/ttp/ObjectivesDominatesPinLaw", name := "expected", desc := "(IJIJ)Z" } : Jvm.MethodName) method_3_code (8 : Nat) (Option.some Jvm.ClassFile.FieldType.boolean)).before args0 about1 = true := code_word (m := ⟨1, 2⟩) (meth := k1m2) (c := k1c2) (by decide +kernel) rfl rfl rfl (by decide +kernel)
set_option maxRecDepth 65536 in
theorem w_c5 : (Jvm.Cond.code ({ cls := "com/example/lootpath/lootpath/ttp/Objectives", name := "dominates", desc := "(Lcom/example/lootpath/lootpath/ttp/Objectives;)Z" } : Jvm.MethodName) prog_43_method_2_code (2 : Nat) (Option.some Jvm.ClassFile.FieldType.boolean)).before args0 about1 = true := code_word (m := ⟨3, 1⟩) (meth := k3m1) (c := k3c1) (by decide +kernel) rfl rfl rfl (by decide +kernel)
def codes1 : List Jvm.Cond := [Jvm.Cond.code x code maxLocals ret, Jvm.Cond.code ({ cls := "com/example/lootpath/lootpath/ttp/Objectives", name := "<init>", desc := "(DJ)V" } : Jvm.MethodName) prog_43_method_1_code (5 : Nat) (Option.none : Option Jvm.ClassFile.FieldType), Jvm.Cond.code ({ cls := "java/lang/Record", name := "<init>", desc := "()V" } : Jvm.MethodName) jdk_30_method_1_code (1 : Nat) (Option.none : Option Jvm.ClassFile.FieldType), Jvm.Cond.code ({ cls := "java/lang/Object", name := "<init>", desc := "()V" } : Jvm.MethodName) object_method_1_code (1 : Nat) (Option.none : Option Jvm.ClassFile.FieldType), Jvm.Cond.code ({ cls := "com/example/lootpath/lootpath/ttp/ObjectivesDominatesPinLaw", name := "expected", desc := "(IJIJ)Z" } : Jvm.MethodName) method_3_code (8 : Nat) (Option.some Jvm.ClassFile.FieldType.boolean), Jvm.Cond.code ({ cls := "com/example/lootpath/lootpath/ttp/Objectives", name := "dominates", desc := "(Lcom/example/lootpath/lootpath/ttp/Objectives;)Z" } : Jvm.MethodName) prog_43_method_2_code (2 : Nat) (Option.some Jvm.ClassFile.FieldType.boolean)]
set_option maxRecDepth 65536 in
theorem codes_eq : words1.filter isCode = codes1 := rfl
theorem w_codes : ∀ c ∈ words1.filter isCode, c.before args0 about1 = true := by
  rw [codes_eq]
  intro c hc
  simp only [codes1, List.mem_cons, List.not_mem_nil, or_false] at hc
  rcases hc with rfl | rfl | rfl | rfl | rfl | rfl
  · exact w_c0
  · exact w_c1
  · exact w_c2
  · exact w_c3
  · exact w_c4
  · exact w_c5
set_option maxRecDepth 65536 in
theorem w_t1 : (words1.take 24).all (fun c => isCode c || c.before args0 about1) = true := by decide +kernel
set_option maxRecDepth 65536 in
theorem w_t2 : (words1.drop 24).all (fun c => isCode c || c.before args0 about1) = true := by decide +kernel
theorem w_tables : (allAtoms (Jvm.Cond.code x code maxLocals ret :: tables_1)).before args0 about1 = true := by
  rw [allAtoms_all]
  show words1.all (fun c => c.before args0 about1) = true
  refine all_split ?_ w_codes
  rw [← List.take_append_drop 24 words1, List.all_append, w_t1, w_t2]
  rfl
set_option maxRecDepth 65536 in
theorem w_case : (Jvm.Cond.and given_1 narrow_1).before args0 about1 = true := by decide +kernel
theorem w_applies : (headSpec (Jvm.Cond.code x code maxLocals ret :: tables_1) room_1).applies x e0.platform about1 = true :=
  (Spec.applies_iff w_frames).mpr ⟨w_running, w_runnable, w_alone, w_named, w_hears, w_ripe, w_room, w_tables⟩
theorem atStart : AtStart classFile x code maxLocals ret World_1 tables_1 room_1 Calls_1 rest_1 Pre_1 launch0 p0 e0 about1 theMethod args0 below0 :=
  ⟨lists_1, trivial, launch0.admits_env _ _ _, launch0.least_env, fairChoices_fair.cas, fairChoices_fair.clock, w_frames, w_args, w_heap, w_applies, trivial, trivial, w_case⟩
end start1
theorem witness_1 : WitnessClaimed_1 := ⟨start1.p0, start1.e0, start1.about1, start1.theMethod, start1.args0, start1.below0, start1.atStart⟩
end Jvm.Pilot.@@N@@
