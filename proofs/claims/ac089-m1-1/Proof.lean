import JvmDerived
import JvmDerived.Pilot.@@N@@Statement
import JvmDerived.Pilot.@@N@@Code
set_option linter.unusedVariables false
set_option linter.unusedSimpArgs false
namespace Jvm.Pilot.@@N@@
open Jvm Jvm.ClassFile Sem Op Lib Jvm.Free Jvm.Stand Jvm.LawKit Jvm.RoadKit Bundle Jvm.Pilot.@@N@@.Jvm.D
section OwnKit
variable {p : Program} {l : Launch} {e : Env} {R : Room} {s : State} {m : MethodId} {args : Array Value} {below : List Frame} {meth : Method} {c : Code} {T : State} {locs : List Loc} {cells slots : Nat}
/-- from the state u the run comes to an end of the invocation at which G holds -/
def Go (tb : Tables) (e : Env) (below : List Frame) (G : Outcome → State → Prop) (u : State) : Prop := ∃ s₂ o, Steps tb e below u s₂ ∧ s₂.status = .running ∧ Ended s₂ below o ∧ G o s₂
def End (Q : Option Value → Heap → List Loc → Prop) (s : State) (C S : Nat) (o : Outcome) (u : State) : Prop := ∃ v L, o = .returned v ∧ Q v u.heap L ∧ FrameEnd s o u L C S
theorem go {tb : Tables} {G : Outcome → State → Prop} {u u' : State} (st : ∀ t, Steps tb e below u' t → Steps tb e below u t) (k : Go tb e below G u') : Go tb e below G u := by
  obtain ⟨s₂, o, h1, h2⟩ := k
  exact ⟨s₂, o, st _ h1, h2⟩
theorem goT {tb : Tables} {G : Outcome → State → Prop} {u u' : State} (st : Steps tb e below u u') (k : Go tb e below G u') : Go tb e below G u := go (fun _ h => st.trans h) k
theorem own_fin (X : Stand p l e R s m args below meth c T locs cells slots) (hlk : meth.locks = false) {v : Option Value} (hv : meth.sig.returnType = none → v = none) {Q : Option Value → Heap → List Loc → Prop} {C S : Nat} (hq : Q v T.heap locs) (hc : cells ≤ C) (hs : slots ≤ S) {u : State}
    (st : ∀ fs, (∀ (f : JFrame) (acts : List Action), f.method = m → f.locked = none → f.entered = [] → (doReturn e (T.setTop f) acts v).1 = T.setFrames fs) → Steps p.tables e below u (T.setFrames fs)) : Go p.tables e below (End Q s C S) u := by
  obtain ⟨fs, hr, hrun, hended, hW, hsame⟩ := X.leave (v := v) hv hlk
  exact ⟨_, _, st fs hr, hrun, hended, _, _, rfl, hq, ⟨_, rfl⟩, hW, hsame.mono hc hs⟩
theorem own_retI (X : Stand p l e R s m args below meth c T locs cells slots) (hx : p.tables.exec = Jvm.exec) {pc : Nat} {Ls : Array Slot} {z : Int32} {rest : List Value} (hret : meth.sig.returnType = some .int) (hd : decode c.code pc = .ok (.ireturn, 1)) {fs : List Frame}
    (hl : ∀ (f : JFrame) (acts : List Action), f.method = m → f.locked = none → f.entered = [] → (doReturn e (T.setTop f) acts (some (.int z))).1 = T.setFrames fs) : Steps p.tables e below (T.setTop (mkF m pc Ls (.int z :: rest))) (T.setFrames fs) := by
  have hm' : T.vm.method? m = some meth := X.method'
  have hn : narrow .int (.int z) = .int z := rfl
  show Steps p.tables e below (T.setTop { method := m, pc := pc, locals := Ls, stack := _ :: rest, locked := none }) _
  jvm_step X.here [X.here.top, hx, hd, hm', hret, hn]
  first | (intro acts; rw [hl _ acts rfl rfl rfl]) | rw [hl _ _ rfl rfl rfl]
  exact Steps.refl _
theorem own_retA (X : Stand p l e R s m args below meth c T locs cells slots) (hx : p.tables.exec = Jvm.exec) {pc : Nat} {Ls : Array Slot} {z : Value} {t : FieldType} {rest : List Value} (hret : meth.sig.returnType = some t) (ht : t.isReference = true) (hz : z.isRef = true) (hd : decode c.code pc = .ok (.areturn, 1)) {fs : List Frame}
    (hl : ∀ (f : JFrame) (acts : List Action), f.method = m → f.locked = none → f.entered = [] → (doReturn e (T.setTop f) acts (some z)).1 = T.setFrames fs) : Steps p.tables e below (T.setTop (mkF m pc Ls (z :: rest))) (T.setFrames fs) := by
  have hm' : T.vm.method? m = some meth := X.method'
  show Steps p.tables e below (T.setTop { method := m, pc := pc, locals := Ls, stack := _ :: rest, locked := none }) _
  jvm_step X.here [X.here.top, hx, hd, hm', hret, ht, hz]
  first | (intro acts; rw [hl _ acts rfl rfl rfl]) | rw [hl _ _ rfl rfl rfl]
  exact Steps.refl _
theorem gI (X : Stand p l e R s m args below meth c T locs cells slots) (hx : p.tables.exec = Jvm.exec) (hlk : meth.locks = false) {pc : Nat} {Ls : Array Slot} {z : Int32} {rest : List Value} (hret : meth.sig.returnType = some .int) (hd : decode c.code pc = .ok (.ireturn, 1)) {Q : Option Value → Heap → List Loc → Prop} {C S : Nat} (hq : Q (some (.int z)) T.heap locs) (hc : cells ≤ C) (hs : slots ≤ S) :
    Go p.tables e below (End Q s C S) (T.setTop (mkF m pc Ls (.int z :: rest))) := own_fin X hlk (fun h => by rw [hret] at h; cases h) hq hc hs fun fs hr => own_retI X hx hret hd hr
theorem gN (X : Stand p l e R s m args below meth c T locs cells slots) (hx : p.tables.exec = Jvm.exec) (hlk : meth.locks = false) {pc : Nat} {Ls : Array Slot} {z : Int32} {t : FieldType} {rest : List Value} (hret : meth.sig.returnType = some t) (ht : t = .boolean ∨ t = .byte ∨ t = .char ∨ t = .short) (hn : nar t z = z) (hd : decode c.code pc = .ok (.ireturn, 1)) {Q : Option Value → Heap → List Loc → Prop} {C S : Nat} (hq : Q (some (.int z)) T.heap locs) (hc : cells ≤ C) (hs : slots ≤ S) :
    Go p.tables e below (End Q s C S) (T.setTop (mkF m pc Ls (.int z :: rest))) := own_fin X hlk (fun h => by rw [hret] at h; cases h) hq hc hs fun fs hr => retN X hx hret ht hd (by rw [hn]; exact hr)
theorem gJ (X : Stand p l e R s m args below meth c T locs cells slots) (hx : p.tables.exec = Jvm.exec) (hlk : meth.locks = false) {pc : Nat} {Ls : Array Slot} {z : Int64} (hret : meth.sig.returnType = some .long) (hd : decode c.code pc = .ok (.lreturn, 1)) {Q : Option Value → Heap → List Loc → Prop} {C S : Nat} (hq : Q (some (.long z)) T.heap locs) (hc : cells ≤ C) (hs : slots ≤ S) :
    Go p.tables e below (End Q s C S) (T.setTop (mkF m pc Ls [.long z])) := own_fin X hlk (fun h => by rw [hret] at h; cases h) hq hc hs fun fs hr => X.lreturnOut hx hret hd hr
theorem g0 (X : Stand p l e R s m args below meth c T locs cells slots) (hx : p.tables.exec = Jvm.exec) (hlk : meth.locks = false) {pc : Nat} {Ls : Array Slot} (hret : meth.sig.returnType = none) (hd : decode c.code pc = .ok (.return_, 1)) {Q : Option Value → Heap → List Loc → Prop} {C S : Nat} (hq : Q none T.heap locs) (hc : cells ≤ C) (hs : slots ≤ S) :
    Go p.tables e below (End Q s C S) (T.setTop (mkF m pc Ls [])) := own_fin X hlk (fun _ => rfl) hq hc hs fun fs hr => X.returnOut hx hret hd hr
theorem gA (X : Stand p l e R s m args below meth c T locs cells slots) (hx : p.tables.exec = Jvm.exec) (hlk : meth.locks = false) {pc : Nat} {Ls : Array Slot} {z : Value} {t : FieldType} {rest : List Value} (hret : meth.sig.returnType = some t) (ht : t.isReference = true) (hz : z.isRef = true) (hd : decode c.code pc = .ok (.areturn, 1)) {Q : Option Value → Heap → List Loc → Prop} {C S : Nat} (hq : Q (some z) T.heap locs) (hc : cells ≤ C) (hs : slots ≤ S) :
    Go p.tables e below (End Q s C S) (T.setTop (mkF m pc Ls (z :: rest))) := own_fin X hlk (fun h => by rw [hret] at h; cases h) hq hc hs fun fs hr => own_retA X hx hret ht hz hd hr
end OwnKit
/-- a body's contract out of its walk -/
theorem body {l : Launch} {y : MethodName} {bytes : ByteArray} {maxL : Nat} {ret : Option FieldType} {ws : List Jvm.Cond} {rm : Room} {as' : Array Value} {Z : State} {h0 : Heap} {Q : Option Value → Heap → List Loc → Prop} (pn : plainFor y = true)
    (k : ∀ (p : Program) (e : Env) (s : State) (m : MethodId) (below : List Frame) (meth : Method) (c : Code) (s₁ : State), p.tables.exec = Jvm.exec → c.code = bytes → c.maxLocals = maxL → s.vm.findClass y.cls = some m.cls → meth.name = y.name → meth.sig.returnType = ret → meth.locks = false → Z.Warmed39 s.vm → s₁.heap = h0 →
      Stand p l e rm s m as' below meth c s₁ [] 0 0 → Go p.tables e below (End Q s rm.cells rm.slots) (s₁.setTop (entryFrame m as' maxL))) :
    MetFree l y (head1 (Jvm.Cond.code y bytes maxL ret :: ws) rm) (fun a U => a = as' ∧ Z.Warmed39 U.vm ∧ U.heap = h0) (fun _ _ _ _ _ => True) (fun _ U o U' => ∃ v L, o = .returned v ∧ Q v U'.heap L ∧ FrameEnd U o U' L rm.cells rm.slots) := by
  refine MetFree.of_bodySF pn hisR ?_
  intro p e s m args below meth c s₁ Bd hml hP _
  obtain ⟨rfl, hZ, hh⟩ := hP
  obtain ⟨s₂, o, h1, h2, h3, h4⟩ := k p e s m below meth c s₁ Bd.exec Bd.bytes hml (findClass_of_methodNamed Bd.named) (name_of_methodNamed Bd.named Bd.method).1 Bd.returns Bd.notSynchronized hZ (by rw [← hh, Bd.state]; rfl) (Stand.of_body Bd)
  exact ⟨s₂, o, h1, h2, h3, h4⟩
/-- a boolean as an int -/
def B (P : Prop) [Decidable P] : Int32 := if P then 1 else 0
theorem Bt {P : Prop} [Decidable P] (h : P) : B P = 1 := if_pos h
theorem Bf {P : Prop} [Decidable P] (h : ¬ P) : B P = 0 := if_neg h
theorem B1 {P : Prop} [Decidable P] (h : P) : (1 : Int32) = B P := (if_pos h).symm
theorem B0 {P : Prop} [Decidable P] (h : ¬ P) : (0 : Int32) = B P := (if_neg h).symm
theorem B_iff {P Q : Prop} [Decidable P] [Decidable Q] (h : P ↔ Q) : B P = B Q := by simp only [B, h]
theorem B_nar {P : Prop} [Decidable P] : nar .boolean (B P) = B P := by by_cases h : P <;> simp only [B, h, if_true, if_false] <;> rfl
theorem bT {P : Prop} [Decidable P] (h : P) : ifCond.holds .ne (B P) = true ∧ ifCond.holds .eq (B P) = false := by rw [Bt h]; exact ⟨rfl, rfl⟩
theorem bF {P : Prop} [Decidable P] (h : ¬ P) : ifCond.holds .ne (B P) = false ∧ ifCond.holds .eq (B P) = true := by rw [Bf h]; exact ⟨rfl, rfl⟩
theorem lT {x y : Int64} (h : x < y) : ifCond.holds .lt (lcmpW x y) = true ∧ ifCond.holds .ge (lcmpW x y) = false ∧ ifCond.holds .gt (lcmpW y x) = true ∧ ifCond.holds .le (lcmpW y x) = false := by
  have h1 := tlt ((lw_lt x y).mpr h)
  have h2 := tlt ((lw_gt y x).mpr h)
  simp only [if0]; exact ⟨h1.1, h1.2.1, h2.2.2.1, h2.2.2.2⟩
theorem lF {x y : Int64} (h : ¬ x < y) : ifCond.holds .lt (lcmpW x y) = false ∧ ifCond.holds .ge (lcmpW x y) = true ∧ ifCond.holds .gt (lcmpW y x) = false ∧ ifCond.holds .le (lcmpW y x) = true := by
  have h1 := flt (fun q => h ((lw_lt x y).mp q))
  have h2 := flt (fun q => h ((lw_gt y x).mp q))
  simp only [if0]; exact ⟨h1.1, h1.2.1, h2.2.2.1, h2.2.2.2⟩
theorem lTe {x y : Int64} (h : x = y) : ifCond.holds .eq (lcmpW x y) = true ∧ ifCond.holds .ne (lcmpW x y) = false := by
  simp only [if0]; exact teq ((lw_eq x y).mpr h)
theorem lFe {x y : Int64} (h : ¬ x = y) : ifCond.holds .eq (lcmpW x y) = false ∧ ifCond.holds .ne (lcmpW x y) = true := by
  simp only [if0]; exact feq (fun q => h ((lw_eq x y).mp q))
theorem bTv {P : Prop} [Decidable P] {v : Int32} (hv : v = B P) (h : P) : ifCond.holds .ne v = true ∧ ifCond.holds .eq v = false := hv ▸ bT h
theorem bFv {P : Prop} [Decidable P] {v : Int32} (hv : v = B P) (h : ¬ P) : ifCond.holds .ne v = false ∧ ifCond.holds .eq v = true := hv ▸ bF h
theorem B_narv {P : Prop} [Decidable P] {v : Int32} (hv : v = B P) : nar .boolean v = v := hv ▸ B_nar
theorem own_fitb {v : Int32} (h : nar .boolean v = v) : fits .boolean (.int v) = true := h ▸ fits_nar_bool v
theorem ww {a0 : Array Value} {Z : State} (hw : ∀ d ∈ tables_1, d.before a0 Z = true) (i : Nat) {d : Jvm.Cond} (h : tables_1[i]? = some d) : d.before a0 Z = true := hw d (List.mem_of_getElem? h)
theorem own_Fto {Z : State} {h : Heap} {a : Addr} {C n d : String} {v w : Value} (F : Fld Z h a C n d v) (q : v = w) : Fld Z h a C n d w := q ▸ F
/-! doubles: single steps -/
section OwnDbl
variable {tb : Tables} [Ours tb] {e : Env} {below : List Frame} {T target : State} {m : MethodId} {c : Code} {g : JFrame}
theorem own_i2d (h : At T m c below) (hx : tb.exec = Jvm.exec) (hg : g.method = m) {x : Int32} {rest : List Value} (hd : decode c.code g.pc = .ok (.i2d, 1)) (hs : g.stack = .int x :: rest)
    (hr : Steps tb e below (T.setTop { g with pc := g.pc + 1, stack := .double (FP.i2d x) :: rest }) target) : Steps tb e below (T.setTop g) target := by
  subst hg
  jvm_step h [h.top, hx, hd, hs]
  exact hr
theorem own_l2d (h : At T m c below) (hx : tb.exec = Jvm.exec) (hg : g.method = m) {x : Int64} {rest : List Value} (hd : decode c.code g.pc = .ok (.l2d, 1)) (hs : g.stack = .long x :: rest)
    (hr : Steps tb e below (T.setTop { g with pc := g.pc + 1, stack := .double (FP.l2d x) :: rest }) target) : Steps tb e below (T.setTop g) target := by
  subst hg
  jvm_step h [h.top, hx, hd, hs]
  exact hr
theorem own_dcmp (h : At T m c below) (hx : tb.exec = Jvm.exec) (hg : g.method = m) {op : CmpOp} {x y : UInt64} {rest : List Value} (hd : decode c.code g.pc = .ok (.dcmp op, 1)) (hs : g.stack = .double y :: .double x :: rest)
    (hr : Steps tb e below (T.setTop { g with pc := g.pc + 1, stack := .int (cmpValue (FP.dcmp x y) op) :: rest }) target) : Steps tb e below (T.setTop g) target := by
  subst hg
  jvm_step h [h.top, hx, hd, hs]
  exact hr
theorem own_dloadN (h : At T m c below) (hx : tb.exec = Jvm.exec) (hg : g.method = m) {k : Fin 4} {v : UInt64} (hd : decode c.code g.pc = .ok (.dload_n k, 1)) (hl : g.locals[k.val]? = some (.val (.double v)))
    (hr : Steps tb e below (T.setTop { g with pc := g.pc + 1, stack := .double v :: g.stack }) target) : Steps tb e below (T.setTop g) target := by
  subst hg
  jvm_step h [h.top, hx, hd, hl]
  exact hr
theorem own_dload (h : At T m c below) (hx : tb.exec = Jvm.exec) (hg : g.method = m) {k : Nat} {v : UInt64} (hd : decode c.code g.pc = .ok (.dload k, 2)) (hl : g.locals[k]? = some (.val (.double v)))
    (hr : Steps tb e below (T.setTop { g with pc := g.pc + 2, stack := .double v :: g.stack }) target) : Steps tb e below (T.setTop g) target := by
  subst hg
  jvm_step h [h.top, hx, hd, hl]
  exact hr
theorem own_dconst0 (h : At T m c below) (hx : tb.exec = Jvm.exec) (hg : g.method = m) (hd : decode c.code g.pc = .ok (.dconst 0, 1))
    (hr : Steps tb e below (T.setTop { g with pc := g.pc + 1, stack := .double 0 :: g.stack }) target) : Steps tb e below (T.setTop g) target := by
  subst hg
  jvm_step h [h.top, hx, hd]
  exact hr
theorem own_dmul (h : At T m c below) (hx : tb.exec = Jvm.exec) (hg : g.method = m) {x y : UInt64} {rest : List Value} (hd : decode c.code g.pc = .ok (.dmul, 1)) (hs : g.stack = .double y :: .double x :: rest) (hn : FP.dmul x y &&& 0x7fffffffffffffff ≤ 0x7ff0000000000000)
    (hr : Steps tb e below (T.setTop { g with pc := g.pc + 1, stack := .double (FP.dmul x y) :: rest }) target) : Steps tb e below (T.setTop g) target := by
  obtain ⟨m0, pc0, l0, s0, k0, e0, r0⟩ := g
  subst hg hs
  jvm_step h [h.top, hx, hd, Op.dmul.at_number h.top hn]
  exact hr
theorem own_ddiv (h : At T m c below) (hx : tb.exec = Jvm.exec) (hg : g.method = m) {x y : UInt64} {rest : List Value} (hd : decode c.code g.pc = .ok (.ddiv, 1)) (hs : g.stack = .double y :: .double x :: rest) (hn : FP.ddiv x y &&& 0x7fffffffffffffff ≤ 0x7ff0000000000000)
    (hr : Steps tb e below (T.setTop { g with pc := g.pc + 1, stack := .double (FP.ddiv x y) :: rest }) target) : Steps tb e below (T.setTop g) target := by
  obtain ⟨m0, pc0, l0, s0, k0, e0, r0⟩ := g
  subst hg hs
  jvm_step h [h.top, hx, hd, Op.ddiv.at_number h.top hn]
  exact hr
end OwnDbl
section OwnDbl2
variable {p : Program} {l : Launch} {e : Env} {R : Room} {s : State} {m : MethodId} {args : Array Value} {below : List Frame} {meth : Method} {c : Code} {T : State} {locs : List Loc} {cells slots : Nat}
theorem own_retD (X : Stand p l e R s m args below meth c T locs cells slots) (hx : p.tables.exec = Jvm.exec) {pc : Nat} {Ls : Array Slot} {z : UInt64} {rest : List Value} (hret : meth.sig.returnType = some .double) (hd : decode c.code pc = .ok (.dreturn, 1)) {fs : List Frame}
    (hl : ∀ (f : JFrame) (acts : List Action), f.method = m → f.locked = none → f.entered = [] → (doReturn e (T.setTop f) acts (some (.double z))).1 = T.setFrames fs) : Steps p.tables e below (T.setTop (mkF m pc Ls (.double z :: rest))) (T.setFrames fs) := by
  have hm' : T.vm.method? m = some meth := X.method'
  show Steps p.tables e below (T.setTop { method := m, pc := pc, locals := Ls, stack := _ :: rest, locked := none }) _
  jvm_step X.here [X.here.top, hx, hd, hm', hret]
  first | (intro acts; rw [hl _ acts rfl rfl rfl]) | rw [hl _ _ rfl rfl rfl]
  exact Steps.refl _
theorem gD (X : Stand p l e R s m args below meth c T locs cells slots) (hx : p.tables.exec = Jvm.exec) (hlk : meth.locks = false) {pc : Nat} {Ls : Array Slot} {z : UInt64} {rest : List Value} (hret : meth.sig.returnType = some .double) (hd : decode c.code pc = .ok (.dreturn, 1)) {Q : Option Value → Heap → List Loc → Prop} {C S : Nat} (hq : Q (some (.double z)) T.heap locs) (hc : cells ≤ C) (hs : slots ≤ S) :
    Go p.tables e below (End Q s C S) (T.setTop (mkF m pc Ls (.double z :: rest))) := own_fin X hlk (fun h => by rw [hret] at h; cases h) hq hc hs fun fs hr => own_retD X hx hret hd hr
end OwnDbl2
open Jvm.Free.Fl in
theorem own_nm (q : Int64) : FP.dmul (4636737291354636288 : UInt64) (FP.l2d q) &&& 0x7fffffffffffffff ≤ 0x7ff0000000000000 := dmul_out (by unfold Fin64; decide) (l2d_fin q)
open Jvm.Free.Fl in
theorem own_nz (q : Int64) (h : ¬ q = 0) : Nz64 (FP.l2d q) := by
  rw [nz64_iff]
  have := Jvm.FP.Core.l2d_ne_zero h
  omega
open Jvm.Free.Fl in
theorem own_nd (a q : Int64) (h : ¬ q = (0 : Int64)) : FP.ddiv (FP.dmul (4636737291354636288 : UInt64) (FP.l2d a)) (FP.l2d q) &&& 0x7fffffffffffffff ≤ 0x7ff0000000000000 := ddiv_out (own_nm a) (l2d_fin q) (own_nz q h)
def own_pct (a q : Int64) : UInt64 := (if q = (0 : Int64) then (0 : UInt64) else (FP.ddiv (FP.dmul (4636737291354636288 : UInt64) (FP.l2d a)) (FP.l2d q)))
open Jvm.Free.Fl in
theorem own_same (a q : Int64) : (cmpValue (FP.dcmp (own_pct a q) (own_pct a q)) .l) = (0 : Int32) := by
  have h : NoNaN64 (own_pct a q) := by
    by_cases h : q = 0
    · simp only [own_pct, if_pos h]; unfold NoNaN64; decide
    · simp only [own_pct, if_neg h]; exact own_nd a q h
  rw [show FP.dcmp (own_pct a q) (own_pct a q) = some .eq from Jvm.FP.Core.dcmp_self (val64_no.mp h)]
  rfl
def own_on (p0 p1 : Int32) : Int64 := (if p0 = (0 : Int32) then (0 : Int64) else (if p1 = (0 : Int32) then (0 : Int64) else (1 : Int64)))
def X (a : Int32) (C : Prop) [Decidable C] : Int64 := if a = 0 then 0 else if C then 1 else 0
theorem own_X0 {a : Int32} {C : Prop} [Decidable C] (h : a = (0 : Int32)) : X a C = 0 := if_pos h
theorem own_X1 {a : Int32} {C : Prop} [Decidable C] (h : ¬ a = (0 : Int32)) : X a C = if C then 1 else 0 := if_neg h
theorem own_onX (a : Int32) (C : Prop) [Decidable C] : own_on a (B C) = X a C := by
  by_cases h : a = 0 <;> by_cases h2 : C <;> simp [own_on, X, B, h, h2]
theorem pn_com_example_chartwright_chartwright_eval_ClassScore__init__1 : plainFor (⟨"com/example/chartwright/chartwright/eval/ClassScore", "<init>", "()V"⟩ : MethodName) = true := by first | exact plainFor_of_name (by first | (simp [plainName, overriddenIn]; done) | decide +kernel) | decide +kernel
def Q_rm1 (Z : State) (o0 : Addr) (h0 : Heap) (n0 : Nat) (v : Option Value) (h : Heap) (L : List Loc) : Prop := v = none ∧ Fr n0 L ∧ Keep h0 h [o0] ∧ (Exa Z h o0 "com/example/chartwright/chartwright/eval/ClassScore") ∧ (Fld Z h o0 "com/example/chartwright/chartwright/eval/ClassScore" "predictedOut" "J" (.long (0 : Int64))) ∧ (Fld Z h o0 "com/example/chartwright/chartwright/eval/ClassScore" "correct" "J" (.long (0 : Int64))) ∧ (Fld Z h o0 "com/example/chartwright/chartwright/eval/ClassScore" "words" "J" (.long (0 : Int64))) ∧ (Fld Z h o0 "com/example/chartwright/chartwright/eval/ClassScore" "correctOut" "J" (.long (0 : Int64))) ∧ (Fld Z h o0 "com/example/chartwright/chartwright/eval/ClassScore" "goldOut" "J" (.long (0 : Int64)))
set_option maxRecDepth 65536 in
set_option maxHeartbeats 4000000 in
theorem ef_rm1 (m : MethodId) (o0 : Addr) : entryFrame m #[(.ref o0)] 1 = mkF m 0 #[.val (.ref o0)] [] := by first | (simp [entryFrame, mkF, argsToLocals, Value.category, maxLocals]; done) | rfl
theorem d1_0 : decode prog_17_method_1_code 0 = .ok (.aload_n 0, 1) := by decide +kernel
theorem d1_1 : decode prog_17_method_1_code 1 = .ok (.invokespecial 1, 3) := by decide +kernel
theorem d1_4 : decode prog_17_method_1_code 4 = .ok (.return_, 1) := by decide +kernel
set_option maxRecDepth 65536 in
set_option maxHeartbeats 40000000 in
theorem rm1 (l : Launch) (Z : State) (a0 : Array Value) (hw : ∀ d ∈ tables_1, d.before a0 Z = true) (ws : List Jvm.Cond) (o0 : Addr) (h0 : Heap) (n0 : Nat) (Z0 : n0 ≤ h0.size) (g_o0 : n0 ≤ o0) (F0 : Exa Z h0 o0 "com/example/chartwright/chartwright/eval/ClassScore") (F1 : Fld Z h0 o0 "com/example/chartwright/chartwright/eval/ClassScore" "predictedOut" "J" (.long (0 : Int64))) (F2 : Fld Z h0 o0 "com/example/chartwright/chartwright/eval/ClassScore" "correct" "J" (.long (0 : Int64))) (F3 : Fld Z h0 o0 "com/example/chartwright/chartwright/eval/ClassScore" "words" "J" (.long (0 : Int64))) (F4 : Fld Z h0 o0 "com/example/chartwright/chartwright/eval/ClassScore" "correctOut" "J" (.long (0 : Int64))) (F5 : Fld Z h0 o0 "com/example/chartwright/chartwright/eval/ClassScore" "goldOut" "J" (.long (0 : Int64))) :
    MetFree l (⟨"com/example/chartwright/chartwright/eval/ClassScore", "<init>", "()V"⟩ : MethodName) (head1 (Jvm.Cond.code (⟨"com/example/chartwright/chartwright/eval/ClassScore", "<init>", "()V"⟩ : MethodName) prog_17_method_1_code 1 none :: ws) ({ frames := 1, cells := 0, slots := 0, locals := 12 } : Room)) (fun a U => a = #[(.ref o0)] ∧ Z.Warmed39 U.vm ∧ U.heap = h0) (fun _ _ _ _ _ => True) (fun _ U o U' => ∃ v L, o = .returned v ∧ Q_rm1 Z o0 h0 n0 v U'.heap L ∧ FrameEnd U o U' L ({ frames := 1, cells := 0, slots := 0, locals := 12 } : Room).cells ({ frames := 1, cells := 0, slots := 0, locals := 12 } : Room).slots) := by
  refine body pn_com_example_chartwright_chartwright_eval_ClassScore__init__1 ?_
  intro p e s m below meth c s₁ hx hby hml hown hnm hret hlk hZ e0 X0
  replace hml : c.maxLocals = 1 := hml
  replace hown : s.vm.findClass "com/example/chartwright/chartwright/eval/ClassScore" = some m.cls := hown
  replace hnm : meth.name = "<init>" := hnm
  replace hret : meth.sig.returnType = none := hret
  have N0 := Fr.nil n0
  rw [ef_rm1]
  obtain ⟨G, hG⟩ : ∃ G, G = End (Q_rm1 Z o0 h0 n0) s ({ frames := 1, cells := 0, slots := 0, locals := 12 } : Room).cells ({ frames := 1, cells := 0, slots := 0, locals := 12 } : Room).slots := ⟨_, rfl⟩
  rw [← hG]
  refine go (u' := s₁.setTop (mkF m 1 #[.val (.ref o0)] [(.ref o0)])) (fun _ ks_ => XS.aloadN X0.here hx rfl (hb hby d1_0) rfl rfl ks_) ?_
  obtain ⟨T1, X1, e1, st1⟩ := initO X0 hx hZ hown (ww hw 6 rfl) (ww hw 7 rfl) (ww hw 8 rfl) e0 (g := (mkF m 1 #[.val (.ref o0)] [(.ref o0)])) rfl (by rw [hml]; rfl) rfl (hb hby d1_1) (by decide) (W := 0) (by show 2 * 0 + _ ≤ _; exact Nat.le_of_eq rfl) (by decide)
  refine go (u' := T1.setTop (mkF m 4 #[.val (.ref o0)] [])) st1 ?_
  rw [hG]
  refine g0 X1 hx hlk hret (hb hby d1_4) ?_ (Nat.le_of_ble_eq_true rfl) (Nat.le_of_ble_eq_true rfl)
  show Q_rm1 Z o0 h0 n0 (none) T1.heap _
  rw [e1]
  exact ⟨rfl, N0, (Keep.refl h0 _), F0, F1, F2, F3, F4, F5⟩
def ad_correct (p1 : Int32) (p2 : Int32) (ct : Int64) : Int64 := (if p1 = p2 then (ct + (1 : Int64)) else (ct + (0 : Int64)))
def ad_predictedOut (p2 : Int32) (po : Int64) : Int64 := (if p2 = (0 : Int32) then (po + (1 : Int64)) else (po + (0 : Int64)))
def ad_goldOut (p1 : Int32) (gg : Int64) : Int64 := (if p1 = (0 : Int32) then (gg + (1 : Int64)) else (gg + (0 : Int64)))
def ad_correctOut (p1 : Int32) (p2 : Int32) (co : Int64) : Int64 := (if p2 = (0 : Int32) then (if p1 = (0 : Int32) then (co + (1 : Int64)) else (co + (0 : Int64))) else (co + (0 : Int64)))
theorem pn_com_example_chartwright_chartwright_eval_ClassScore_add_10 : plainFor (⟨"com/example/chartwright/chartwright/eval/ClassScore", "add", "(ZZ)V"⟩ : MethodName) = true := by first | exact plainFor_of_name (by first | (simp [plainName, overriddenIn]; done) | decide +kernel) | decide +kernel
def Q_rm10 (Z : State) (o0 : Addr) (p1 : Int32) (p2 : Int32) (wd : Int64) (ct : Int64) (po : Int64) (gg : Int64) (co : Int64) (h0 : Heap) (n0 : Nat) (v : Option Value) (h : Heap) (L : List Loc) : Prop := v = none ∧ Fr n0 L ∧ Keep h0 h [o0] ∧ (Exa Z h o0 "com/example/chartwright/chartwright/eval/ClassScore") ∧ (Fld Z h o0 "com/example/chartwright/chartwright/eval/ClassScore" "words" "J" (.long (wd + (1 : Int64)))) ∧ (Fld Z h o0 "com/example/chartwright/chartwright/eval/ClassScore" "correct" "J" (.long (ad_correct p1 p2 ct))) ∧ (Fld Z h o0 "com/example/chartwright/chartwright/eval/ClassScore" "predictedOut" "J" (.long (ad_predictedOut p2 po))) ∧ (Fld Z h o0 "com/example/chartwright/chartwright/eval/ClassScore" "goldOut" "J" (.long (ad_goldOut p1 gg))) ∧ (Fld Z h o0 "com/example/chartwright/chartwright/eval/ClassScore" "correctOut" "J" (.long (ad_correctOut p1 p2 co)))
set_option maxRecDepth 65536 in
set_option maxHeartbeats 4000000 in
theorem ef_rm10 (m : MethodId) (o0 : Addr) (p1 : Int32) (p2 : Int32) : entryFrame m #[(.ref o0), (.int p1), (.int p2)] 3 = mkF m 0 #[.val (.ref o0), .val (.int p1), .val (.int p2)] [] := by first | (simp [entryFrame, mkF, argsToLocals, Value.category, maxLocals]; done) | rfl
theorem d10_0 : decode prog_17_method_2_code 0 = .ok (.aload_n 0, 1) := by decide +kernel
theorem d10_1 : decode prog_17_method_2_code 1 = .ok (.dup, 1) := by decide +kernel
theorem d10_2 : decode prog_17_method_2_code 2 = .ok (.getfield 7, 3) := by decide +kernel
theorem d10_5 : decode prog_17_method_2_code 5 = .ok (.lconst 1, 1) := by decide +kernel
theorem d10_6 : decode prog_17_method_2_code 6 = .ok (.ladd, 1) := by decide +kernel
theorem d10_7 : decode prog_17_method_2_code 7 = .ok (.putfield 7, 3) := by decide +kernel
theorem d10_10 : decode prog_17_method_2_code 10 = .ok (.aload_n 0, 1) := by decide +kernel
theorem d10_11 : decode prog_17_method_2_code 11 = .ok (.dup, 1) := by decide +kernel
theorem d10_12 : decode prog_17_method_2_code 12 = .ok (.getfield 13, 3) := by decide +kernel
theorem d10_15 : decode prog_17_method_2_code 15 = .ok (.iload_n 1, 1) := by decide +kernel
theorem d10_16 : decode prog_17_method_2_code 16 = .ok (.iload_n 2, 1) := by decide +kernel
theorem d10_17 : decode prog_17_method_2_code 17 = .ok (.if_icmp .ne 7, 3) := by decide +kernel
theorem d10_20 : decode prog_17_method_2_code 20 = .ok (.lconst 1, 1) := by decide +kernel
theorem d10_21 : decode prog_17_method_2_code 21 = .ok (.goto 4, 3) := by decide +kernel
theorem d10_24 : decode prog_17_method_2_code 24 = .ok (.lconst 0, 1) := by decide +kernel
theorem d10_25 : decode prog_17_method_2_code 25 = .ok (.ladd, 1) := by decide +kernel
theorem d10_26 : decode prog_17_method_2_code 26 = .ok (.putfield 13, 3) := by decide +kernel
theorem d10_29 : decode prog_17_method_2_code 29 = .ok (.aload_n 0, 1) := by decide +kernel
theorem d10_30 : decode prog_17_method_2_code 30 = .ok (.dup, 1) := by decide +kernel
theorem d10_31 : decode prog_17_method_2_code 31 = .ok (.getfield 16, 3) := by decide +kernel
theorem d10_34 : decode prog_17_method_2_code 34 = .ok (.iload_n 2, 1) := by decide +kernel
theorem d10_35 : decode prog_17_method_2_code 35 = .ok (.ifCond .eq 7, 3) := by decide +kernel
theorem d10_38 : decode prog_17_method_2_code 38 = .ok (.lconst 0, 1) := by decide +kernel
theorem d10_39 : decode prog_17_method_2_code 39 = .ok (.goto 4, 3) := by decide +kernel
theorem d10_42 : decode prog_17_method_2_code 42 = .ok (.lconst 1, 1) := by decide +kernel
theorem d10_43 : decode prog_17_method_2_code 43 = .ok (.ladd, 1) := by decide +kernel
theorem d10_44 : decode prog_17_method_2_code 44 = .ok (.putfield 16, 3) := by decide +kernel
theorem d10_47 : decode prog_17_method_2_code 47 = .ok (.aload_n 0, 1) := by decide +kernel
theorem d10_48 : decode prog_17_method_2_code 48 = .ok (.dup, 1) := by decide +kernel
theorem d10_49 : decode prog_17_method_2_code 49 = .ok (.getfield 19, 3) := by decide +kernel
theorem d10_52 : decode prog_17_method_2_code 52 = .ok (.iload_n 1, 1) := by decide +kernel
theorem d10_53 : decode prog_17_method_2_code 53 = .ok (.ifCond .eq 7, 3) := by decide +kernel
theorem d10_56 : decode prog_17_method_2_code 56 = .ok (.lconst 0, 1) := by decide +kernel
theorem d10_57 : decode prog_17_method_2_code 57 = .ok (.goto 4, 3) := by decide +kernel
theorem d10_60 : decode prog_17_method_2_code 60 = .ok (.lconst 1, 1) := by decide +kernel
theorem d10_61 : decode prog_17_method_2_code 61 = .ok (.ladd, 1) := by decide +kernel
theorem d10_62 : decode prog_17_method_2_code 62 = .ok (.putfield 19, 3) := by decide +kernel
theorem d10_65 : decode prog_17_method_2_code 65 = .ok (.aload_n 0, 1) := by decide +kernel
theorem d10_66 : decode prog_17_method_2_code 66 = .ok (.dup, 1) := by decide +kernel
theorem d10_67 : decode prog_17_method_2_code 67 = .ok (.getfield 22, 3) := by decide +kernel
theorem d10_70 : decode prog_17_method_2_code 70 = .ok (.iload_n 1, 1) := by decide +kernel
theorem d10_71 : decode prog_17_method_2_code 71 = .ok (.ifCond .ne 11, 3) := by decide +kernel
theorem d10_74 : decode prog_17_method_2_code 74 = .ok (.iload_n 2, 1) := by decide +kernel
theorem d10_75 : decode prog_17_method_2_code 75 = .ok (.ifCond .ne 7, 3) := by decide +kernel
theorem d10_78 : decode prog_17_method_2_code 78 = .ok (.lconst 1, 1) := by decide +kernel
theorem d10_79 : decode prog_17_method_2_code 79 = .ok (.goto 4, 3) := by decide +kernel
theorem d10_82 : decode prog_17_method_2_code 82 = .ok (.lconst 0, 1) := by decide +kernel
theorem d10_83 : decode prog_17_method_2_code 83 = .ok (.ladd, 1) := by decide +kernel
theorem d10_84 : decode prog_17_method_2_code 84 = .ok (.putfield 22, 3) := by decide +kernel
theorem d10_87 : decode prog_17_method_2_code 87 = .ok (.return_, 1) := by decide +kernel
set_option maxRecDepth 65536 in
set_option maxHeartbeats 40000000 in
theorem rm10 (l : Launch) (Z : State) (a0 : Array Value) (hw : ∀ d ∈ tables_1, d.before a0 Z = true) (ws : List Jvm.Cond) (o0 : Addr) (p1 : Int32) (p2 : Int32) (wd : Int64) (ct : Int64) (po : Int64) (gg : Int64) (co : Int64) (h0 : Heap) (n0 : Nat) (Z0 : n0 ≤ h0.size) (g_o0 : n0 ≤ o0) (F0 : Exa Z h0 o0 "com/example/chartwright/chartwright/eval/ClassScore") (F1 : Fld Z h0 o0 "com/example/chartwright/chartwright/eval/ClassScore" "words" "J" (.long wd)) (F2 : Fld Z h0 o0 "com/example/chartwright/chartwright/eval/ClassScore" "correct" "J" (.long ct)) (F3 : Fld Z h0 o0 "com/example/chartwright/chartwright/eval/ClassScore" "predictedOut" "J" (.long po)) (F4 : Fld Z h0 o0 "com/example/chartwright/chartwright/eval/ClassScore" "goldOut" "J" (.long gg)) (F5 : Fld Z h0 o0 "com/example/chartwright/chartwright/eval/ClassScore" "correctOut" "J" (.long co)) :
    MetFree l (⟨"com/example/chartwright/chartwright/eval/ClassScore", "add", "(ZZ)V"⟩ : MethodName) (head1 (Jvm.Cond.code (⟨"com/example/chartwright/chartwright/eval/ClassScore", "add", "(ZZ)V"⟩ : MethodName) prog_17_method_2_code 3 none :: ws) ({ frames := 0, cells := 0, slots := 0, locals := 0 } : Room)) (fun a U => a = #[(.ref o0), (.int p1), (.int p2)] ∧ Z.Warmed39 U.vm ∧ U.heap = h0) (fun _ _ _ _ _ => True) (fun _ U o U' => ∃ v L, o = .returned v ∧ Q_rm10 Z o0 p1 p2 wd ct po gg co h0 n0 v U'.heap L ∧ FrameEnd U o U' L ({ frames := 0, cells := 0, slots := 0, locals := 0 } : Room).cells ({ frames := 0, cells := 0, slots := 0, locals := 0 } : Room).slots) := by
  refine body pn_com_example_chartwright_chartwright_eval_ClassScore_add_10 ?_
  intro p e s m below meth c s₁ hx hby hml hown hnm hret hlk hZ e0 X0
  replace hml : c.maxLocals = 3 := hml
  replace hown : s.vm.findClass "com/example/chartwright/chartwright/eval/ClassScore" = some m.cls := hown
  replace hnm : meth.name = "add" := hnm
  replace hret : meth.sig.returnType = none := hret
  have N0 := Fr.nil n0
  rw [ef_rm10]
  obtain ⟨G, hG⟩ : ∃ G, G = End (Q_rm10 Z o0 p1 p2 wd ct po gg co h0 n0) s ({ frames := 0, cells := 0, slots := 0, locals := 0 } : Room).cells ({ frames := 0, cells := 0, slots := 0, locals := 0 } : Room).slots := ⟨_, rfl⟩
  rw [← hG]
  refine go (u' := s₁.setTop (mkF m 1 #[.val (.ref o0), .val (.int p1), .val (.int p2)] [(.ref o0)])) (fun _ ks_ => XS.aloadN X0.here hx rfl (hb hby d10_0) rfl rfl ks_) ?_
  refine go (u' := s₁.setTop (mkF m 2 #[.val (.ref o0), .val (.int p1), .val (.int p2)] [(.ref o0), (.ref o0)])) (fun _ ks_ => XS.dup X0.here hx rfl (hb hby d10_1) rfl rfl ks_) ?_
  obtain ⟨T1, X1, e1, st1⟩ := getF X0 hx hZ hown (host := "") (Or.inl (ww hw 27 rfl)) Via.refl e0 F1 (g := (mkF m 2 #[.val (.ref o0), .val (.int p1), .val (.int p2)] [(.ref o0), (.ref o0)])) rfl rfl (hb hby d10_2)
  refine go (u' := T1.setTop (mkF m 5 #[.val (.ref o0), .val (.int p1), .val (.int p2)] [(.long wd), (.ref o0)])) st1 ?_
  refine go (u' := T1.setTop (mkF m 6 #[.val (.ref o0), .val (.int p1), .val (.int p2)] [(.long (1 : Int64)), (.long wd), (.ref o0)])) (fun _ ks_ => XS.lconst X1.here hx rfl (hb hby d10_5) ks_) ?_
  refine go (u' := T1.setTop (mkF m 7 #[.val (.ref o0), .val (.int p1), .val (.int p2)] [(.long (wd + (1 : Int64))), (.ref o0)])) (fun _ ks_ => XS.ladd X1.here hx rfl (hb hby d10_6) rfl ks_) ?_
  obtain ⟨T2, h2, X2, e2, W2, st2⟩ := putF X1 hx hZ hown (host := "") (Or.inl (ww hw 27 rfl)) Via.refl e1 F1 F0 (Or.inl (ww hw 28 rfl)) (ww hw 1 rfl) (ty := .long) (by decide) rfl rfl (g := (mkF m 7 #[.val (.ref o0), .val (.int p1), .val (.int p2)] [(.long (wd + (1 : Int64))), (.ref o0)])) rfl rfl (hb hby d10_7)
  have N2 := Fr.snoc X2 N0 g_o0
  have K2 : Keep h0 h2 [o0] := (Keep.refl h0 [o0]).wr W2 (Or.inl (List.mem_of_getElem? (i := 0) rfl))
  have Z2 : n0 ≤ h2.size := Nat.le_trans Z0 (Keep.of_wr W2).1
  have Fa3 : Exa Z h2 o0 "com/example/chartwright/chartwright/eval/ClassScore" := F0.wr W2
  have Fa4 : Fld Z h2 o0 "com/example/chartwright/chartwright/eval/ClassScore" "correct" "J" (.long ct) := F2.other W2 (Or.inr (slot_ne (Or.inl (ww hw 26 rfl)) (Or.inl (ww hw 28 rfl)) (by decide) (t := .long) (t' := .long) (by decide) (by decide)))
  have Fa5 : Fld Z h2 o0 "com/example/chartwright/chartwright/eval/ClassScore" "predictedOut" "J" (.long po) := F3.other W2 (Or.inr (slot_ne (Or.inl (ww hw 19 rfl)) (Or.inl (ww hw 28 rfl)) (by decide) (t := .long) (t' := .long) (by decide) (by decide)))
  have Fa6 : Fld Z h2 o0 "com/example/chartwright/chartwright/eval/ClassScore" "goldOut" "J" (.long gg) := F4.other W2 (Or.inr (slot_ne (Or.inl (ww hw 49 rfl)) (Or.inl (ww hw 28 rfl)) (by decide) (t := .long) (t' := .long) (by decide) (by decide)))
  have Fa7 : Fld Z h2 o0 "com/example/chartwright/chartwright/eval/ClassScore" "correctOut" "J" (.long co) := F5.other W2 (Or.inr (slot_ne (Or.inl (ww hw 42 rfl)) (Or.inl (ww hw 28 rfl)) (by decide) (t := .long) (t' := .long) (by decide) (by decide)))
  have Fa8 : Fld Z h2 o0 "com/example/chartwright/chartwright/eval/ClassScore" "words" "J" (.long (wd + (1 : Int64))) := F1.same W2
  refine go (u' := T2.setTop (mkF m 10 #[.val (.ref o0), .val (.int p1), .val (.int p2)] [])) st2 ?_
  refine go (u' := T2.setTop (mkF m 11 #[.val (.ref o0), .val (.int p1), .val (.int p2)] [(.ref o0)])) (fun _ ks_ => XS.aloadN X2.here hx rfl (hb hby d10_10) rfl rfl ks_) ?_
  refine go (u' := T2.setTop (mkF m 12 #[.val (.ref o0), .val (.int p1), .val (.int p2)] [(.ref o0), (.ref o0)])) (fun _ ks_ => XS.dup X2.here hx rfl (hb hby d10_11) rfl rfl ks_) ?_
  obtain ⟨T9, X9, e9, st9⟩ := getF X2 hx hZ hown (host := "") (Or.inl (ww hw 25 rfl)) Via.refl e2 Fa4 (g := (mkF m 12 #[.val (.ref o0), .val (.int p1), .val (.int p2)] [(.ref o0), (.ref o0)])) rfl rfl (hb hby d10_12)
  refine go (u' := T9.setTop (mkF m 15 #[.val (.ref o0), .val (.int p1), .val (.int p2)] [(.long ct), (.ref o0)])) st9 ?_
  refine go (u' := T9.setTop (mkF m 16 #[.val (.ref o0), .val (.int p1), .val (.int p2)] [(.int p1), (.long ct), (.ref o0)])) (fun _ ks_ => XS.iloadN X9.here hx rfl (hb hby d10_15) rfl  ks_) ?_
  refine go (u' := T9.setTop (mkF m 17 #[.val (.ref o0), .val (.int p1), .val (.int p2)] [(.int p2), (.int p1), (.long ct), (.ref o0)])) (fun _ ks_ => XS.iloadN X9.here hx rfl (hb hby d10_16) rfl  ks_) ?_
  by_cases c17_1 : p1 = p2
  ·
    refine go (u' := T9.setTop (mkF m 20 #[.val (.ref o0), .val (.int p1), .val (.int p2)] [(.long ct), (.ref o0)])) (fun _ ks_ => XS.icmpNo X9.here hx rfl (hb hby d10_17) rfl (teq c17_1).2 ks_) ?_
    refine go (u' := T9.setTop (mkF m 21 #[.val (.ref o0), .val (.int p1), .val (.int p2)] [(.long (1 : Int64)), (.long ct), (.ref o0)])) (fun _ ks_ => XS.lconst X9.here hx rfl (hb hby d10_20) ks_) ?_
    refine go (u' := T9.setTop (mkF m 25 #[.val (.ref o0), .val (.int p1), .val (.int p2)] [(.long (1 : Int64)), (.long ct), (.ref o0)])) (fun _ ks_ => XS.goto X9.here hx rfl (pc0 := 21) (pc' := 25) rfl (hb hby d10_21) (by decide) (by decide) ks_) ?_
    refine go (u' := T9.setTop (mkF m 26 #[.val (.ref o0), .val (.int p1), .val (.int p2)] [(.long (ct + (1 : Int64))), (.ref o0)])) (fun _ ks_ => XS.ladd X9.here hx rfl (hb hby d10_25) rfl ks_) ?_
    obtain ⟨T10, h10, X10, e10, W10, st10⟩ := putF X9 hx hZ hown (host := "") (Or.inl (ww hw 25 rfl)) Via.refl e9 Fa4 Fa3 (Or.inl (ww hw 26 rfl)) (ww hw 1 rfl) (ty := .long) (by decide) rfl rfl (g := (mkF m 26 #[.val (.ref o0), .val (.int p1), .val (.int p2)] [(.long (ct + (1 : Int64))), (.ref o0)])) rfl rfl (hb hby d10_26)
    have N10 := Fr.snoc X10 N2 g_o0
    have K10 : Keep h0 h10 [o0] := K2.wr W10 (Or.inl (List.mem_of_getElem? (i := 0) rfl))
    have Z10 : n0 ≤ h10.size := Nat.le_trans Z2 (Keep.of_wr W10).1
    have Fa11 : Exa Z h10 o0 "com/example/chartwright/chartwright/eval/ClassScore" := Fa3.wr W10
    have Fa12 : Fld Z h10 o0 "com/example/chartwright/chartwright/eval/ClassScore" "words" "J" (.long (wd + (1 : Int64))) := Fa8.other W10 (Or.inr (slot_ne (Or.inl (ww hw 28 rfl)) (Or.inl (ww hw 26 rfl)) (by decide) (t := .long) (t' := .long) (by decide) (by decide)))
    have Fa13 : Fld Z h10 o0 "com/example/chartwright/chartwright/eval/ClassScore" "predictedOut" "J" (.long po) := Fa5.other W10 (Or.inr (slot_ne (Or.inl (ww hw 19 rfl)) (Or.inl (ww hw 26 rfl)) (by decide) (t := .long) (t' := .long) (by decide) (by decide)))
    have Fa14 : Fld Z h10 o0 "com/example/chartwright/chartwright/eval/ClassScore" "goldOut" "J" (.long gg) := Fa6.other W10 (Or.inr (slot_ne (Or.inl (ww hw 49 rfl)) (Or.inl (ww hw 26 rfl)) (by decide) (t := .long) (t' := .long) (by decide) (by decide)))
    have Fa15 : Fld Z h10 o0 "com/example/chartwright/chartwright/eval/ClassScore" "correctOut" "J" (.long co) := Fa7.other W10 (Or.inr (slot_ne (Or.inl (ww hw 42 rfl)) (Or.inl (ww hw 26 rfl)) (by decide) (t := .long) (t' := .long) (by decide) (by decide)))
    have Fa16 : Fld Z h10 o0 "com/example/chartwright/chartwright/eval/ClassScore" "correct" "J" (.long (ct + (1 : Int64))) := Fa4.same W10
    refine go (u' := T10.setTop (mkF m 29 #[.val (.ref o0), .val (.int p1), .val (.int p2)] [])) st10 ?_
    refine go (u' := T10.setTop (mkF m 30 #[.val (.ref o0), .val (.int p1), .val (.int p2)] [(.ref o0)])) (fun _ ks_ => XS.aloadN X10.here hx rfl (hb hby d10_29) rfl rfl ks_) ?_
    refine go (u' := T10.setTop (mkF m 31 #[.val (.ref o0), .val (.int p1), .val (.int p2)] [(.ref o0), (.ref o0)])) (fun _ ks_ => XS.dup X10.here hx rfl (hb hby d10_30) rfl rfl ks_) ?_
    obtain ⟨T17, X17, e17, st17⟩ := getF X10 hx hZ hown (host := "") (Or.inl (ww hw 18 rfl)) Via.refl e10 Fa13 (g := (mkF m 31 #[.val (.ref o0), .val (.int p1), .val (.int p2)] [(.ref o0), (.ref o0)])) rfl rfl (hb hby d10_31)
    refine go (u' := T17.setTop (mkF m 34 #[.val (.ref o0), .val (.int p1), .val (.int p2)] [(.long po), (.ref o0)])) st17 ?_
    refine go (u' := T17.setTop (mkF m 35 #[.val (.ref o0), .val (.int p1), .val (.int p2)] [(.int p2), (.long po), (.ref o0)])) (fun _ ks_ => XS.iloadN X17.here hx rfl (hb hby d10_34) rfl  ks_) ?_
    by_cases c35_2 : p2 = (0 : Int32)
    ·
      refine go (u' := T17.setTop (mkF m 42 #[.val (.ref o0), .val (.int p1), .val (.int p2)] [(.long po), (.ref o0)])) (fun _ ks_ => XS.ifYes X17.here hx rfl (pc0 := 35) (pc' := 42) rfl (hb hby d10_35) rfl ((if0 _ _).trans (teq c35_2).1) (by decide) (by decide) ks_) ?_
      refine go (u' := T17.setTop (mkF m 43 #[.val (.ref o0), .val (.int p1), .val (.int p2)] [(.long (1 : Int64)), (.long po), (.ref o0)])) (fun _ ks_ => XS.lconst X17.here hx rfl (hb hby d10_42) ks_) ?_
      refine go (u' := T17.setTop (mkF m 44 #[.val (.ref o0), .val (.int p1), .val (.int p2)] [(.long (po + (1 : Int64))), (.ref o0)])) (fun _ ks_ => XS.ladd X17.here hx rfl (hb hby d10_43) rfl ks_) ?_
      obtain ⟨T18, h18, X18, e18, W18, st18⟩ := putF X17 hx hZ hown (host := "") (Or.inl (ww hw 18 rfl)) Via.refl e17 Fa13 Fa11 (Or.inl (ww hw 19 rfl)) (ww hw 1 rfl) (ty := .long) (by decide) rfl rfl (g := (mkF m 44 #[.val (.ref o0), .val (.int p1), .val (.int p2)] [(.long (po + (1 : Int64))), (.ref o0)])) rfl rfl (hb hby d10_44)
      have N18 := Fr.snoc X18 N10 g_o0
      have K18 : Keep h0 h18 [o0] := K10.wr W18 (Or.inl (List.mem_of_getElem? (i := 0) rfl))
      have Z18 : n0 ≤ h18.size := Nat.le_trans Z10 (Keep.of_wr W18).1
      have Fa19 : Exa Z h18 o0 "com/example/chartwright/chartwright/eval/ClassScore" := Fa11.wr W18
      have Fa20 : Fld Z h18 o0 "com/example/chartwright/chartwright/eval/ClassScore" "words" "J" (.long (wd + (1 : Int64))) := Fa12.other W18 (Or.inr (slot_ne (Or.inl (ww hw 28 rfl)) (Or.inl (ww hw 19 rfl)) (by decide) (t := .long) (t' := .long) (by decide) (by decide)))
      have Fa21 : Fld Z h18 o0 "com/example/chartwright/chartwright/eval/ClassScore" "correct" "J" (.long (ct + (1 : Int64))) := Fa16.other W18 (Or.inr (slot_ne (Or.inl (ww hw 26 rfl)) (Or.inl (ww hw 19 rfl)) (by decide) (t := .long) (t' := .long) (by decide) (by decide)))
      have Fa22 : Fld Z h18 o0 "com/example/chartwright/chartwright/eval/ClassScore" "goldOut" "J" (.long gg) := Fa14.other W18 (Or.inr (slot_ne (Or.inl (ww hw 49 rfl)) (Or.inl (ww hw 19 rfl)) (by decide) (t := .long) (t' := .long) (by decide) (by decide)))
      have Fa23 : Fld Z h18 o0 "com/example/chartwright/chartwright/eval/ClassScore" "correctOut" "J" (.long co) := Fa15.other W18 (Or.inr (slot_ne (Or.inl (ww hw 42 rfl)) (Or.inl (ww hw 19 rfl)) (by decide) (t := .long) (t' := .long) (by decide) (by decide)))
      have Fa24 : Fld Z h18 o0 "com/example/chartwright/chartwright/eval/ClassScore" "predictedOut" "J" (.long (po + (1 : Int64))) := Fa13.same W18
      refine go (u' := T18.setTop (mkF m 47 #[.val (.ref o0), .val (.int p1), .val (.int p2)] [])) st18 ?_
      refine go (u' := T18.setTop (mkF m 48 #[.val (.ref o0), .val (.int p1), .val (.int p2)] [(.ref o0)])) (fun _ ks_ => XS.aloadN X18.here hx rfl (hb hby d10_47) rfl rfl ks_) ?_
      refine go (u' := T18.setTop (mkF m 49 #[.val (.ref o0), .val (.int p1), .val (.int p2)] [(.ref o0), (.ref o0)])) (fun _ ks_ => XS.dup X18.here hx rfl (hb hby d10_48) rfl rfl ks_) ?_
      obtain ⟨T25, X25, e25, st25⟩ := getF X18 hx hZ hown (host := "") (Or.inl (ww hw 48 rfl)) Via.refl e18 Fa22 (g := (mkF m 49 #[.val (.ref o0), .val (.int p1), .val (.int p2)] [(.ref o0), (.ref o0)])) rfl rfl (hb hby d10_49)
      refine go (u' := T25.setTop (mkF m 52 #[.val (.ref o0), .val (.int p1), .val (.int p2)] [(.long gg), (.ref o0)])) st25 ?_
      refine go (u' := T25.setTop (mkF m 53 #[.val (.ref o0), .val (.int p1), .val (.int p2)] [(.int p1), (.long gg), (.ref o0)])) (fun _ ks_ => XS.iloadN X25.here hx rfl (hb hby d10_52) rfl  ks_) ?_
      by_cases c53_3 : p1 = (0 : Int32)
      ·
        refine go (u' := T25.setTop (mkF m 60 #[.val (.ref o0), .val (.int p1), .val (.int p2)] [(.long gg), (.ref o0)])) (fun _ ks_ => XS.ifYes X25.here hx rfl (pc0 := 53) (pc' := 60) rfl (hb hby d10_53) rfl ((if0 _ _).trans (teq c53_3).1) (by decide) (by decide) ks_) ?_
        refine go (u' := T25.setTop (mkF m 61 #[.val (.ref o0), .val (.int p1), .val (.int p2)] [(.long (1 : Int64)), (.long gg), (.ref o0)])) (fun _ ks_ => XS.lconst X25.here hx rfl (hb hby d10_60) ks_) ?_
        refine go (u' := T25.setTop (mkF m 62 #[.val (.ref o0), .val (.int p1), .val (.int p2)] [(.long (gg + (1 : Int64))), (.ref o0)])) (fun _ ks_ => XS.ladd X25.here hx rfl (hb hby d10_61) rfl ks_) ?_
        obtain ⟨T26, h26, X26, e26, W26, st26⟩ := putF X25 hx hZ hown (host := "") (Or.inl (ww hw 48 rfl)) Via.refl e25 Fa22 Fa19 (Or.inl (ww hw 49 rfl)) (ww hw 1 rfl) (ty := .long) (by decide) rfl rfl (g := (mkF m 62 #[.val (.ref o0), .val (.int p1), .val (.int p2)] [(.long (gg + (1 : Int64))), (.ref o0)])) rfl rfl (hb hby d10_62)
        have N26 := Fr.snoc X26 N18 g_o0
        have K26 : Keep h0 h26 [o0] := K18.wr W26 (Or.inl (List.mem_of_getElem? (i := 0) rfl))
        have Z26 : n0 ≤ h26.size := Nat.le_trans Z18 (Keep.of_wr W26).1
        have Fa27 : Exa Z h26 o0 "com/example/chartwright/chartwright/eval/ClassScore" := Fa19.wr W26
        have Fa28 : Fld Z h26 o0 "com/example/chartwright/chartwright/eval/ClassScore" "words" "J" (.long (wd + (1 : Int64))) := Fa20.other W26 (Or.inr (slot_ne (Or.inl (ww hw 28 rfl)) (Or.inl (ww hw 49 rfl)) (by decide) (t := .long) (t' := .long) (by decide) (by decide)))
        have Fa29 : Fld Z h26 o0 "com/example/chartwright/chartwright/eval/ClassScore" "correct" "J" (.long (ct + (1 : Int64))) := Fa21.other W26 (Or.inr (slot_ne (Or.inl (ww hw 26 rfl)) (Or.inl (ww hw 49 rfl)) (by decide) (t := .long) (t' := .long) (by decide) (by decide)))
        have Fa30 : Fld Z h26 o0 "com/example/chartwright/chartwright/eval/ClassScore" "predictedOut" "J" (.long (po + (1 : Int64))) := Fa24.other W26 (Or.inr (slot_ne (Or.inl (ww hw 19 rfl)) (Or.inl (ww hw 49 rfl)) (by decide) (t := .long) (t' := .long) (by decide) (by decide)))
        have Fa31 : Fld Z h26 o0 "com/example/chartwright/chartwright/eval/ClassScore" "correctOut" "J" (.long co) := Fa23.other W26 (Or.inr (slot_ne (Or.inl (ww hw 42 rfl)) (Or.inl (ww hw 49 rfl)) (by decide) (t := .long) (t' := .long) (by decide) (by decide)))
        have Fa32 : Fld Z h26 o0 "com/example/chartwright/chartwright/eval/ClassScore" "goldOut" "J" (.long (gg + (1 : Int64))) := Fa22.same W26
        refine go (u' := T26.setTop (mkF m 65 #[.val (.ref o0), .val (.int p1), .val (.int p2)] [])) st26 ?_
        refine go (u' := T26.setTop (mkF m 66 #[.val (.ref o0), .val (.int p1), .val (.int p2)] [(.ref o0)])) (fun _ ks_ => XS.aloadN X26.here hx rfl (hb hby d10_65) rfl rfl ks_) ?_
        refine go (u' := T26.setTop (mkF m 67 #[.val (.ref o0), .val (.int p1), .val (.int p2)] [(.ref o0), (.ref o0)])) (fun _ ks_ => XS.dup X26.here hx rfl (hb hby d10_66) rfl rfl ks_) ?_
        obtain ⟨T33, X33, e33, st33⟩ := getF X26 hx hZ hown (host := "") (Or.inl (ww hw 41 rfl)) Via.refl e26 Fa31 (g := (mkF m 67 #[.val (.ref o0), .val (.int p1), .val (.int p2)] [(.ref o0), (.ref o0)])) rfl rfl (hb hby d10_67)
        refine go (u' := T33.setTop (mkF m 70 #[.val (.ref o0), .val (.int p1), .val (.int p2)] [(.long co), (.ref o0)])) st33 ?_
        refine go (u' := T33.setTop (mkF m 71 #[.val (.ref o0), .val (.int p1), .val (.int p2)] [(.int p1), (.long co), (.ref o0)])) (fun _ ks_ => XS.iloadN X33.here hx rfl (hb hby d10_70) rfl  ks_) ?_
        refine go (u' := T33.setTop (mkF m 74 #[.val (.ref o0), .val (.int p1), .val (.int p2)] [(.long co), (.ref o0)])) (fun _ ks_ => XS.ifNo X33.here hx rfl (hb hby d10_71) rfl ((if0 _ _).trans (teq c53_3).2) ks_) ?_
        refine go (u' := T33.setTop (mkF m 75 #[.val (.ref o0), .val (.int p1), .val (.int p2)] [(.int p2), (.long co), (.ref o0)])) (fun _ ks_ => XS.iloadN X33.here hx rfl (hb hby d10_74) rfl  ks_) ?_
        refine go (u' := T33.setTop (mkF m 78 #[.val (.ref o0), .val (.int p1), .val (.int p2)] [(.long co), (.ref o0)])) (fun _ ks_ => XS.ifNo X33.here hx rfl (hb hby d10_75) rfl ((if0 _ _).trans (teq c35_2).2) ks_) ?_
        refine go (u' := T33.setTop (mkF m 79 #[.val (.ref o0), .val (.int p1), .val (.int p2)] [(.long (1 : Int64)), (.long co), (.ref o0)])) (fun _ ks_ => XS.lconst X33.here hx rfl (hb hby d10_78) ks_) ?_
        refine go (u' := T33.setTop (mkF m 83 #[.val (.ref o0), .val (.int p1), .val (.int p2)] [(.long (1 : Int64)), (.long co), (.ref o0)])) (fun _ ks_ => XS.goto X33.here hx rfl (pc0 := 79) (pc' := 83) rfl (hb hby d10_79) (by decide) (by decide) ks_) ?_
        refine go (u' := T33.setTop (mkF m 84 #[.val (.ref o0), .val (.int p1), .val (.int p2)] [(.long (co + (1 : Int64))), (.ref o0)])) (fun _ ks_ => XS.ladd X33.here hx rfl (hb hby d10_83) rfl ks_) ?_
        obtain ⟨T34, h34, X34, e34, W34, st34⟩ := putF X33 hx hZ hown (host := "") (Or.inl (ww hw 41 rfl)) Via.refl e33 Fa31 Fa27 (Or.inl (ww hw 42 rfl)) (ww hw 1 rfl) (ty := .long) (by decide) rfl rfl (g := (mkF m 84 #[.val (.ref o0), .val (.int p1), .val (.int p2)] [(.long (co + (1 : Int64))), (.ref o0)])) rfl rfl (hb hby d10_84)
        have N34 := Fr.snoc X34 N26 g_o0
        have K34 : Keep h0 h34 [o0] := K26.wr W34 (Or.inl (List.mem_of_getElem? (i := 0) rfl))
        have Z34 : n0 ≤ h34.size := Nat.le_trans Z26 (Keep.of_wr W34).1
        have Fa35 : Exa Z h34 o0 "com/example/chartwright/chartwright/eval/ClassScore" := Fa27.wr W34
        have Fa36 : Fld Z h34 o0 "com/example/chartwright/chartwright/eval/ClassScore" "words" "J" (.long (wd + (1 : Int64))) := Fa28.other W34 (Or.inr (slot_ne (Or.inl (ww hw 28 rfl)) (Or.inl (ww hw 42 rfl)) (by decide) (t := .long) (t' := .long) (by decide) (by decide)))
        have Fa37 : Fld Z h34 o0 "com/example/chartwright/chartwright/eval/ClassScore" "correct" "J" (.long (ct + (1 : Int64))) := Fa29.other W34 (Or.inr (slot_ne (Or.inl (ww hw 26 rfl)) (Or.inl (ww hw 42 rfl)) (by decide) (t := .long) (t' := .long) (by decide) (by decide)))
        have Fa38 : Fld Z h34 o0 "com/example/chartwright/chartwright/eval/ClassScore" "predictedOut" "J" (.long (po + (1 : Int64))) := Fa30.other W34 (Or.inr (slot_ne (Or.inl (ww hw 19 rfl)) (Or.inl (ww hw 42 rfl)) (by decide) (t := .long) (t' := .long) (by decide) (by decide)))
        have Fa39 : Fld Z h34 o0 "com/example/chartwright/chartwright/eval/ClassScore" "goldOut" "J" (.long (gg + (1 : Int64))) := Fa32.other W34 (Or.inr (slot_ne (Or.inl (ww hw 49 rfl)) (Or.inl (ww hw 42 rfl)) (by decide) (t := .long) (t' := .long) (by decide) (by decide)))
        have Fa40 : Fld Z h34 o0 "com/example/chartwright/chartwright/eval/ClassScore" "correctOut" "J" (.long (co + (1 : Int64))) := Fa31.same W34
        refine go (u' := T34.setTop (mkF m 87 #[.val (.ref o0), .val (.int p1), .val (.int p2)] [])) st34 ?_
        rw [hG]
        refine g0 X34 hx hlk hret (hb hby d10_87) ?_ (Nat.le_of_ble_eq_true rfl) (Nat.le_of_ble_eq_true rfl)
        show Q_rm10 Z o0 p1 p2 wd ct po gg co h0 n0 (none) T34.heap _
        rw [e34]
        exact ⟨rfl, N34, K34, Fa35, Fa36, (own_Fto Fa37 (congrArg Value.long (show (ct + (1 : Int64)) = (if p1 = p2 then (ct + (1 : Int64)) else (ct + (0 : Int64))) from ((if_pos c17_1)).symm))), (own_Fto Fa38 (congrArg Value.long (show (po + (1 : Int64)) = (if p2 = (0 : Int32) then (po + (1 : Int64)) else (po + (0 : Int64))) from ((if_pos c35_2)).symm))), (own_Fto Fa39 (congrArg Value.long (show (gg + (1 : Int64)) = (if p1 = (0 : Int32) then (gg + (1 : Int64)) else (gg + (0 : Int64))) from ((if_pos c53_3)).symm))), (own_Fto Fa40 (congrArg Value.long (show (co + (1 : Int64)) = (if p2 = (0 : Int32) then (if p1 = (0 : Int32) then (co + (1 : Int64)) else (co + (0 : Int64))) else (co + (0 : Int64))) from (((if_pos c35_2).trans (if_pos c53_3))).symm)))⟩
      ·
        refine go (u' := T25.setTop (mkF m 56 #[.val (.ref o0), .val (.int p1), .val (.int p2)] [(.long gg), (.ref o0)])) (fun _ ks_ => XS.ifNo X25.here hx rfl (hb hby d10_53) rfl ((if0 _ _).trans (feq c53_3).1) ks_) ?_
        refine go (u' := T25.setTop (mkF m 57 #[.val (.ref o0), .val (.int p1), .val (.int p2)] [(.long (0 : Int64)), (.long gg), (.ref o0)])) (fun _ ks_ => XS.lconst X25.here hx rfl (hb hby d10_56) ks_) ?_
        refine go (u' := T25.setTop (mkF m 61 #[.val (.ref o0), .val (.int p1), .val (.int p2)] [(.long (0 : Int64)), (.long gg), (.ref o0)])) (fun _ ks_ => XS.goto X25.here hx rfl (pc0 := 57) (pc' := 61) rfl (hb hby d10_57) (by decide) (by decide) ks_) ?_
        refine go (u' := T25.setTop (mkF m 62 #[.val (.ref o0), .val (.int p1), .val (.int p2)] [(.long (gg + (0 : Int64))), (.ref o0)])) (fun _ ks_ => XS.ladd X25.here hx rfl (hb hby d10_61) rfl ks_) ?_
        obtain ⟨T41, h41, X41, e41, W41, st41⟩ := putF X25 hx hZ hown (host := "") (Or.inl (ww hw 48 rfl)) Via.refl e25 Fa22 Fa19 (Or.inl (ww hw 49 rfl)) (ww hw 1 rfl) (ty := .long) (by decide) rfl rfl (g := (mkF m 62 #[.val (.ref o0), .val (.int p1), .val (.int p2)] [(.long (gg + (0 : Int64))), (.ref o0)])) rfl rfl (hb hby d10_62)
        have N41 := Fr.snoc X41 N18 g_o0
        have K41 : Keep h0 h41 [o0] := K18.wr W41 (Or.inl (List.mem_of_getElem? (i := 0) rfl))
        have Z41 : n0 ≤ h41.size := Nat.le_trans Z18 (Keep.of_wr W41).1
        have Fa42 : Exa Z h41 o0 "com/example/chartwright/chartwright/eval/ClassScore" := Fa19.wr W41
        have Fa43 : Fld Z h41 o0 "com/example/chartwright/chartwright/eval/ClassScore" "words" "J" (.long (wd + (1 : Int64))) := Fa20.other W41 (Or.inr (slot_ne (Or.inl (ww hw 28 rfl)) (Or.inl (ww hw 49 rfl)) (by decide) (t := .long) (t' := .long) (by decide) (by decide)))
        have Fa44 : Fld Z h41 o0 "com/example/chartwright/chartwright/eval/ClassScore" "correct" "J" (.long (ct + (1 : Int64))) := Fa21.other W41 (Or.inr (slot_ne (Or.inl (ww hw 26 rfl)) (Or.inl (ww hw 49 rfl)) (by decide) (t := .long) (t' := .long) (by decide) (by decide)))
        have Fa45 : Fld Z h41 o0 "com/example/chartwright/chartwright/eval/ClassScore" "predictedOut" "J" (.long (po + (1 : Int64))) := Fa24.other W41 (Or.inr (slot_ne (Or.inl (ww hw 19 rfl)) (Or.inl (ww hw 49 rfl)) (by decide) (t := .long) (t' := .long) (by decide) (by decide)))
        have Fa46 : Fld Z h41 o0 "com/example/chartwright/chartwright/eval/ClassScore" "correctOut" "J" (.long co) := Fa23.other W41 (Or.inr (slot_ne (Or.inl (ww hw 42 rfl)) (Or.inl (ww hw 49 rfl)) (by decide) (t := .long) (t' := .long) (by decide) (by decide)))
        have Fa47 : Fld Z h41 o0 "com/example/chartwright/chartwright/eval/ClassScore" "goldOut" "J" (.long (gg + (0 : Int64))) := Fa22.same W41
        refine go (u' := T41.setTop (mkF m 65 #[.val (.ref o0), .val (.int p1), .val (.int p2)] [])) st41 ?_
        refine go (u' := T41.setTop (mkF m 66 #[.val (.ref o0), .val (.int p1), .val (.int p2)] [(.ref o0)])) (fun _ ks_ => XS.aloadN X41.here hx rfl (hb hby d10_65) rfl rfl ks_) ?_
        refine go (u' := T41.setTop (mkF m 67 #[.val (.ref o0), .val (.int p1), .val (.int p2)] [(.ref o0), (.ref o0)])) (fun _ ks_ => XS.dup X41.here hx rfl (hb hby d10_66) rfl rfl ks_) ?_
        obtain ⟨T48, X48, e48, st48⟩ := getF X41 hx hZ hown (host := "") (Or.inl (ww hw 41 rfl)) Via.refl e41 Fa46 (g := (mkF m 67 #[.val (.ref o0), .val (.int p1), .val (.int p2)] [(.ref o0), (.ref o0)])) rfl rfl (hb hby d10_67)
        refine go (u' := T48.setTop (mkF m 70 #[.val (.ref o0), .val (.int p1), .val (.int p2)] [(.long co), (.ref o0)])) st48 ?_
        refine go (u' := T48.setTop (mkF m 71 #[.val (.ref o0), .val (.int p1), .val (.int p2)] [(.int p1), (.long co), (.ref o0)])) (fun _ ks_ => XS.iloadN X48.here hx rfl (hb hby d10_70) rfl  ks_) ?_
        refine go (u' := T48.setTop (mkF m 82 #[.val (.ref o0), .val (.int p1), .val (.int p2)] [(.long co), (.ref o0)])) (fun _ ks_ => XS.ifYes X48.here hx rfl (pc0 := 71) (pc' := 82) rfl (hb hby d10_71) rfl ((if0 _ _).trans (feq c53_3).2) (by decide) (by decide) ks_) ?_
        refine go (u' := T48.setTop (mkF m 83 #[.val (.ref o0), .val (.int p1), .val (.int p2)] [(.long (0 : Int64)), (.long co), (.ref o0)])) (fun _ ks_ => XS.lconst X48.here hx rfl (hb hby d10_82) ks_) ?_
        refine go (u' := T48.setTop (mkF m 84 #[.val (.ref o0), .val (.int p1), .val (.int p2)] [(.long (co + (0 : Int64))), (.ref o0)])) (fun _ ks_ => XS.ladd X48.here hx rfl (hb hby d10_83) rfl ks_) ?_
        obtain ⟨T49, h49, X49, e49, W49, st49⟩ := putF X48 hx hZ hown (host := "") (Or.inl (ww hw 41 rfl)) Via.refl e48 Fa46 Fa42 (Or.inl (ww hw 42 rfl)) (ww hw 1 rfl) (ty := .long) (by decide) rfl rfl (g := (mkF m 84 #[.val (.ref o0), .val (.int p1), .val (.int p2)] [(.long (co + (0 : Int64))), (.ref o0)])) rfl rfl (hb hby d10_84)
        have N49 := Fr.snoc X49 N41 g_o0
        have K49 : Keep h0 h49 [o0] := K41.wr W49 (Or.inl (List.mem_of_getElem? (i := 0) rfl))
        have Z49 : n0 ≤ h49.size := Nat.le_trans Z41 (Keep.of_wr W49).1
        have Fa50 : Exa Z h49 o0 "com/example/chartwright/chartwright/eval/ClassScore" := Fa42.wr W49
        have Fa51 : Fld Z h49 o0 "com/example/chartwright/chartwright/eval/ClassScore" "words" "J" (.long (wd + (1 : Int64))) := Fa43.other W49 (Or.inr (slot_ne (Or.inl (ww hw 28 rfl)) (Or.inl (ww hw 42 rfl)) (by decide) (t := .long) (t' := .long) (by decide) (by decide)))
        have Fa52 : Fld Z h49 o0 "com/example/chartwright/chartwright/eval/ClassScore" "correct" "J" (.long (ct + (1 : Int64))) := Fa44.other W49 (Or.inr (slot_ne (Or.inl (ww hw 26 rfl)) (Or.inl (ww hw 42 rfl)) (by decide) (t := .long) (t' := .long) (by decide) (by decide)))
        have Fa53 : Fld Z h49 o0 "com/example/chartwright/chartwright/eval/ClassScore" "predictedOut" "J" (.long (po + (1 : Int64))) := Fa45.other W49 (Or.inr (slot_ne (Or.inl (ww hw 19 rfl)) (Or.inl (ww hw 42 rfl)) (by decide) (t := .long) (t' := .long) (by decide) (by decide)))
        have Fa54 : Fld Z h49 o0 "com/example/chartwright/chartwright/eval/ClassScore" "goldOut" "J" (.long (gg + (0 : Int64))) := Fa47.other W49 (Or.inr (slot_ne (Or.inl (ww hw 49 rfl)) (Or.inl (ww hw 42 rfl)) (by decide) (t := .long) (t' := .long) (by decide) (by decide)))
        have Fa55 : Fld Z h49 o0 "com/example/chartwright/chartwright/eval/ClassScore" "correctOut" "J" (.long (co + (0 : Int64))) := Fa46.same W49
        refine go (u' := T49.setTop (mkF m 87 #[.val (.ref o0), .val (.int p1), .val (.int p2)] [])) st49 ?_
        rw [hG]
        refine g0 X49 hx hlk hret (hb hby d10_87) ?_ (Nat.le_of_ble_eq_true rfl) (Nat.le_of_ble_eq_true rfl)
        show Q_rm10 Z o0 p1 p2 wd ct po gg co h0 n0 (none) T49.heap _
        rw [e49]
        exact ⟨rfl, N49, K49, Fa50, Fa51, (own_Fto Fa52 (congrArg Value.long (show (ct + (1 : Int64)) = (if p1 = p2 then (ct + (1 : Int64)) else (ct + (0 : Int64))) from ((if_pos c17_1)).symm))), (own_Fto Fa53 (congrArg Value.long (show (po + (1 : Int64)) = (if p2 = (0 : Int32) then (po + (1 : Int64)) else (po + (0 : Int64))) from ((if_pos c35_2)).symm))), (own_Fto Fa54 (congrArg Value.long (show (gg + (0 : Int64)) = (if p1 = (0 : Int32) then (gg + (1 : Int64)) else (gg + (0 : Int64))) from ((if_neg c53_3)).symm))), (own_Fto Fa55 (congrArg Value.long (show (co + (0 : Int64)) = (if p2 = (0 : Int32) then (if p1 = (0 : Int32) then (co + (1 : Int64)) else (co + (0 : Int64))) else (co + (0 : Int64))) from (((if_pos c35_2).trans (if_neg c53_3))).symm)))⟩
    ·
      refine go (u' := T17.setTop (mkF m 38 #[.val (.ref o0), .val (.int p1), .val (.int p2)] [(.long po), (.ref o0)])) (fun _ ks_ => XS.ifNo X17.here hx rfl (hb hby d10_35) rfl ((if0 _ _).trans (feq c35_2).1) ks_) ?_
      refine go (u' := T17.setTop (mkF m 39 #[.val (.ref o0), .val (.int p1), .val (.int p2)] [(.long (0 : Int64)), (.long po), (.ref o0)])) (fun _ ks_ => XS.lconst X17.here hx rfl (hb hby d10_38) ks_) ?_
      refine go (u' := T17.setTop (mkF m 43 #[.val (.ref o0), .val (.int p1), .val (.int p2)] [(.long (0 : Int64)), (.long po), (.ref o0)])) (fun _ ks_ => XS.goto X17.here hx rfl (pc0 := 39) (pc' := 43) rfl (hb hby d10_39) (by decide) (by decide) ks_) ?_
      refine go (u' := T17.setTop (mkF m 44 #[.val (.ref o0), .val (.int p1), .val (.int p2)] [(.long (po + (0 : Int64))), (.ref o0)])) (fun _ ks_ => XS.ladd X17.here hx rfl (hb hby d10_43) rfl ks_) ?_
      obtain ⟨T56, h56, X56, e56, W56, st56⟩ := putF X17 hx hZ hown (host := "") (Or.inl (ww hw 18 rfl)) Via.refl e17 Fa13 Fa11 (Or.inl (ww hw 19 rfl)) (ww hw 1 rfl) (ty := .long) (by decide) rfl rfl (g := (mkF m 44 #[.val (.ref o0), .val (.int p1), .val (.int p2)] [(.long (po + (0 : Int64))), (.ref o0)])) rfl rfl (hb hby d10_44)
      have N56 := Fr.snoc X56 N10 g_o0
      have K56 : Keep h0 h56 [o0] := K10.wr W56 (Or.inl (List.mem_of_getElem? (i := 0) rfl))
      have Z56 : n0 ≤ h56.size := Nat.le_trans Z10 (Keep.of_wr W56).1
      have Fa57 : Exa Z h56 o0 "com/example/chartwright/chartwright/eval/ClassScore" := Fa11.wr W56
      have Fa58 : Fld Z h56 o0 "com/example/chartwright/chartwright/eval/ClassScore" "words" "J" (.long (wd + (1 : Int64))) := Fa12.other W56 (Or.inr (slot_ne (Or.inl (ww hw 28 rfl)) (Or.inl (ww hw 19 rfl)) (by decide) (t := .long) (t' := .long) (by decide) (by decide)))
      have Fa59 : Fld Z h56 o0 "com/example/chartwright/chartwright/eval/ClassScore" "correct" "J" (.long (ct + (1 : Int64))) := Fa16.other W56 (Or.inr (slot_ne (Or.inl (ww hw 26 rfl)) (Or.inl (ww hw 19 rfl)) (by decide) (t := .long) (t' := .long) (by decide) (by decide)))
      have Fa60 : Fld Z h56 o0 "com/example/chartwright/chartwright/eval/ClassScore" "goldOut" "J" (.long gg) := Fa14.other W56 (Or.inr (slot_ne (Or.inl (ww hw 49 rfl)) (Or.inl (ww hw 19 rfl)) (by decide) (t := .long) (t' := .long) (by decide) (by decide)))
      have Fa61 : Fld Z h56 o0 "com/example/chartwright/chartwright/eval/ClassScore" "correctOut" "J" (.long co) := Fa15.other W56 (Or.inr (slot_ne (Or.inl (ww hw 42 rfl)) (Or.inl (ww hw 19 rfl)) (by decide) (t := .long) (t' := .long) (by decide) (by decide)))
      have Fa62 : Fld Z h56 o0 "com/example/chartwright/chartwright/eval/ClassScore" "predictedOut" "J" (.long (po + (0 : Int64))) := Fa13.same W56
      refine go (u' := T56.setTop (mkF m 47 #[.val (.ref o0), .val (.int p1), .val (.int p2)] [])) st56 ?_
      refine go (u' := T56.setTop (mkF m 48 #[.val (.ref o0), .val (.int p1), .val (.int p2)] [(.ref o0)])) (fun _ ks_ => XS.aloadN X56.here hx rfl (hb hby d10_47) rfl rfl ks_) ?_
      refine go (u' := T56.setTop (mkF m 49 #[.val (.ref o0), .val (.int p1), .val (.int p2)] [(.ref o0), (.ref o0)])) (fun _ ks_ => XS.dup X56.here hx rfl (hb hby d10_48) rfl rfl ks_) ?_
      obtain ⟨T63, X63, e63, st63⟩ := getF X56 hx hZ hown (host := "") (Or.inl (ww hw 48 rfl)) Via.refl e56 Fa60 (g := (mkF m 49 #[.val (.ref o0), .val (.int p1), .val (.int p2)] [(.ref o0), (.ref o0)])) rfl rfl (hb hby d10_49)
      refine go (u' := T63.setTop (mkF m 52 #[.val (.ref o0), .val (.int p1), .val (.int p2)] [(.long gg), (.ref o0)])) st63 ?_
      refine go (u' := T63.setTop (mkF m 53 #[.val (.ref o0), .val (.int p1), .val (.int p2)] [(.int p1), (.long gg), (.ref o0)])) (fun _ ks_ => XS.iloadN X63.here hx rfl (hb hby d10_52) rfl  ks_) ?_
      by_cases c53_4 : p1 = (0 : Int32)
      ·
        refine go (u' := T63.setTop (mkF m 60 #[.val (.ref o0), .val (.int p1), .val (.int p2)] [(.long gg), (.ref o0)])) (fun _ ks_ => XS.ifYes X63.here hx rfl (pc0 := 53) (pc' := 60) rfl (hb hby d10_53) rfl ((if0 _ _).trans (teq c53_4).1) (by decide) (by decide) ks_) ?_
        refine go (u' := T63.setTop (mkF m 61 #[.val (.ref o0), .val (.int p1), .val (.int p2)] [(.long (1 : Int64)), (.long gg), (.ref o0)])) (fun _ ks_ => XS.lconst X63.here hx rfl (hb hby d10_60) ks_) ?_
        refine go (u' := T63.setTop (mkF m 62 #[.val (.ref o0), .val (.int p1), .val (.int p2)] [(.long (gg + (1 : Int64))), (.ref o0)])) (fun _ ks_ => XS.ladd X63.here hx rfl (hb hby d10_61) rfl ks_) ?_
        obtain ⟨T64, h64, X64, e64, W64, st64⟩ := putF X63 hx hZ hown (host := "") (Or.inl (ww hw 48 rfl)) Via.refl e63 Fa60 Fa57 (Or.inl (ww hw 49 rfl)) (ww hw 1 rfl) (ty := .long) (by decide) rfl rfl (g := (mkF m 62 #[.val (.ref o0), .val (.int p1), .val (.int p2)] [(.long (gg + (1 : Int64))), (.ref o0)])) rfl rfl (hb hby d10_62)
        have N64 := Fr.snoc X64 N56 g_o0
        have K64 : Keep h0 h64 [o0] := K56.wr W64 (Or.inl (List.mem_of_getElem? (i := 0) rfl))
        have Z64 : n0 ≤ h64.size := Nat.le_trans Z56 (Keep.of_wr W64).1
        have Fa65 : Exa Z h64 o0 "com/example/chartwright/chartwright/eval/ClassScore" := Fa57.wr W64
        have Fa66 : Fld Z h64 o0 "com/example/chartwright/chartwright/eval/ClassScore" "words" "J" (.long (wd + (1 : Int64))) := Fa58.other W64 (Or.inr (slot_ne (Or.inl (ww hw 28 rfl)) (Or.inl (ww hw 49 rfl)) (by decide) (t := .long) (t' := .long) (by decide) (by decide)))
        have Fa67 : Fld Z h64 o0 "com/example/chartwright/chartwright/eval/ClassScore" "correct" "J" (.long (ct + (1 : Int64))) := Fa59.other W64 (Or.inr (slot_ne (Or.inl (ww hw 26 rfl)) (Or.inl (ww hw 49 rfl)) (by decide) (t := .long) (t' := .long) (by decide) (by decide)))
        have Fa68 : Fld Z h64 o0 "com/example/chartwright/chartwright/eval/ClassScore" "predictedOut" "J" (.long (po + (0 : Int64))) := Fa62.other W64 (Or.inr (slot_ne (Or.inl (ww hw 19 rfl)) (Or.inl (ww hw 49 rfl)) (by decide) (t := .long) (t' := .long) (by decide) (by decide)))
        have Fa69 : Fld Z h64 o0 "com/example/chartwright/chartwright/eval/ClassScore" "correctOut" "J" (.long co) := Fa61.other W64 (Or.inr (slot_ne (Or.inl (ww hw 42 rfl)) (Or.inl (ww hw 49 rfl)) (by decide) (t := .long) (t' := .long) (by decide) (by decide)))
        have Fa70 : Fld Z h64 o0 "com/example/chartwright/chartwright/eval/ClassScore" "goldOut" "J" (.long (gg + (1 : Int64))) := Fa60.same W64
        refine go (u' := T64.setTop (mkF m 65 #[.val (.ref o0), .val (.int p1), .val (.int p2)] [])) st64 ?_
        refine go (u' := T64.setTop (mkF m 66 #[.val (.ref o0), .val (.int p1), .val (.int p2)] [(.ref o0)])) (fun _ ks_ => XS.aloadN X64.here hx rfl (hb hby d10_65) rfl rfl ks_) ?_
        refine go (u' := T64.setTop (mkF m 67 #[.val (.ref o0), .val (.int p1), .val (.int p2)] [(.ref o0), (.ref o0)])) (fun _ ks_ => XS.dup X64.here hx rfl (hb hby d10_66) rfl rfl ks_) ?_
        obtain ⟨T71, X71, e71, st71⟩ := getF X64 hx hZ hown (host := "") (Or.inl (ww hw 41 rfl)) Via.refl e64 Fa69 (g := (mkF m 67 #[.val (.ref o0), .val (.int p1), .val (.int p2)] [(.ref o0), (.ref o0)])) rfl rfl (hb hby d10_67)
        refine go (u' := T71.setTop (mkF m 70 #[.val (.ref o0), .val (.int p1), .val (.int p2)] [(.long co), (.ref o0)])) st71 ?_
        refine go (u' := T71.setTop (mkF m 71 #[.val (.ref o0), .val (.int p1), .val (.int p2)] [(.int p1), (.long co), (.ref o0)])) (fun _ ks_ => XS.iloadN X71.here hx rfl (hb hby d10_70) rfl  ks_) ?_
        refine go (u' := T71.setTop (mkF m 74 #[.val (.ref o0), .val (.int p1), .val (.int p2)] [(.long co), (.ref o0)])) (fun _ ks_ => XS.ifNo X71.here hx rfl (hb hby d10_71) rfl ((if0 _ _).trans (teq c53_4).2) ks_) ?_
        refine go (u' := T71.setTop (mkF m 75 #[.val (.ref o0), .val (.int p1), .val (.int p2)] [(.int p2), (.long co), (.ref o0)])) (fun _ ks_ => XS.iloadN X71.here hx rfl (hb hby d10_74) rfl  ks_) ?_
        refine go (u' := T71.setTop (mkF m 82 #[.val (.ref o0), .val (.int p1), .val (.int p2)] [(.long co), (.ref o0)])) (fun _ ks_ => XS.ifYes X71.here hx rfl (pc0 := 75) (pc' := 82) rfl (hb hby d10_75) rfl ((if0 _ _).trans (feq c35_2).2) (by decide) (by decide) ks_) ?_
        refine go (u' := T71.setTop (mkF m 83 #[.val (.ref o0), .val (.int p1), .val (.int p2)] [(.long (0 : Int64)), (.long co), (.ref o0)])) (fun _ ks_ => XS.lconst X71.here hx rfl (hb hby d10_82) ks_) ?_
        refine go (u' := T71.setTop (mkF m 84 #[.val (.ref o0), .val (.int p1), .val (.int p2)] [(.long (co + (0 : Int64))), (.ref o0)])) (fun _ ks_ => XS.ladd X71.here hx rfl (hb hby d10_83) rfl ks_) ?_
        obtain ⟨T72, h72, X72, e72, W72, st72⟩ := putF X71 hx hZ hown (host := "") (Or.inl (ww hw 41 rfl)) Via.refl e71 Fa69 Fa65 (Or.inl (ww hw 42 rfl)) (ww hw 1 rfl) (ty := .long) (by decide) rfl rfl (g := (mkF m 84 #[.val (.ref o0), .val (.int p1), .val (.int p2)] [(.long (co + (0 : Int64))), (.ref o0)])) rfl rfl (hb hby d10_84)
        have N72 := Fr.snoc X72 N64 g_o0
        have K72 : Keep h0 h72 [o0] := K64.wr W72 (Or.inl (List.mem_of_getElem? (i := 0) rfl))
        have Z72 : n0 ≤ h72.size := Nat.le_trans Z64 (Keep.of_wr W72).1
        have Fa73 : Exa Z h72 o0 "com/example/chartwright/chartwright/eval/ClassScore" := Fa65.wr W72
        have Fa74 : Fld Z h72 o0 "com/example/chartwright/chartwright/eval/ClassScore" "words" "J" (.long (wd + (1 : Int64))) := Fa66.other W72 (Or.inr (slot_ne (Or.inl (ww hw 28 rfl)) (Or.inl (ww hw 42 rfl)) (by decide) (t := .long) (t' := .long) (by decide) (by decide)))
        have Fa75 : Fld Z h72 o0 "com/example/chartwright/chartwright/eval/ClassScore" "correct" "J" (.long (ct + (1 : Int64))) := Fa67.other W72 (Or.inr (slot_ne (Or.inl (ww hw 26 rfl)) (Or.inl (ww hw 42 rfl)) (by decide) (t := .long) (t' := .long) (by decide) (by decide)))
        have Fa76 : Fld Z h72 o0 "com/example/chartwright/chartwright/eval/ClassScore" "predictedOut" "J" (.long (po + (0 : Int64))) := Fa68.other W72 (Or.inr (slot_ne (Or.inl (ww hw 19 rfl)) (Or.inl (ww hw 42 rfl)) (by decide) (t := .long) (t' := .long) (by decide) (by decide)))
        have Fa77 : Fld Z h72 o0 "com/example/chartwright/chartwright/eval/ClassScore" "goldOut" "J" (.long (gg + (1 : Int64))) := Fa70.other W72 (Or.inr (slot_ne (Or.inl (ww hw 49 rfl)) (Or.inl (ww hw 42 rfl)) (by decide) (t := .long) (t' := .long) (by decide) (by decide)))
        have Fa78 : Fld Z h72 o0 "com/example/chartwright/chartwright/eval/ClassScore" "correctOut" "J" (.long (co + (0 : Int64))) := Fa69.same W72
        refine go (u' := T72.setTop (mkF m 87 #[.val (.ref o0), .val (.int p1), .val (.int p2)] [])) st72 ?_
        rw [hG]
        refine g0 X72 hx hlk hret (hb hby d10_87) ?_ (Nat.le_of_ble_eq_true rfl) (Nat.le_of_ble_eq_true rfl)
        show Q_rm10 Z o0 p1 p2 wd ct po gg co h0 n0 (none) T72.heap _
        rw [e72]
        exact ⟨rfl, N72, K72, Fa73, Fa74, (own_Fto Fa75 (congrArg Value.long (show (ct + (1 : Int64)) = (if p1 = p2 then (ct + (1 : Int64)) else (ct + (0 : Int64))) from ((if_pos c17_1)).symm))), (own_Fto Fa76 (congrArg Value.long (show (po + (0 : Int64)) = (if p2 = (0 : Int32) then (po + (1 : Int64)) else (po + (0 : Int64))) from ((if_neg c35_2)).symm))), (own_Fto Fa77 (congrArg Value.long (show (gg + (1 : Int64)) = (if p1 = (0 : Int32) then (gg + (1 : Int64)) else (gg + (0 : Int64))) from ((if_pos c53_4)).symm))), (own_Fto Fa78 (congrArg Value.long (show (co + (0 : Int64)) = (if p2 = (0 : Int32) then (if p1 = (0 : Int32) then (co + (1 : Int64)) else (co + (0 : Int64))) else (co + (0 : Int64))) from ((if_neg c35_2)).symm)))⟩
      ·
        refine go (u' := T63.setTop (mkF m 56 #[.val (.ref o0), .val (.int p1), .val (.int p2)] [(.long gg), (.ref o0)])) (fun _ ks_ => XS.ifNo X63.here hx rfl (hb hby d10_53) rfl ((if0 _ _).trans (feq c53_4).1) ks_) ?_
        refine go (u' := T63.setTop (mkF m 57 #[.val (.ref o0), .val (.int p1), .val (.int p2)] [(.long (0 : Int64)), (.long gg), (.ref o0)])) (fun _ ks_ => XS.lconst X63.here hx rfl (hb hby d10_56) ks_) ?_
        refine go (u' := T63.setTop (mkF m 61 #[.val (.ref o0), .val (.int p1), .val (.int p2)] [(.long (0 : Int64)), (.long gg), (.ref o0)])) (fun _ ks_ => XS.goto X63.here hx rfl (pc0 := 57) (pc' := 61) rfl (hb hby d10_57) (by decide) (by decide) ks_) ?_
        refine go (u' := T63.setTop (mkF m 62 #[.val (.ref o0), .val (.int p1), .val (.int p2)] [(.long (gg + (0 : Int64))), (.ref o0)])) (fun _ ks_ => XS.ladd X63.here hx rfl (hb hby d10_61) rfl ks_) ?_
        obtain ⟨T79, h79, X79, e79, W79, st79⟩ := putF X63 hx hZ hown (host := "") (Or.inl (ww hw 48 rfl)) Via.refl e63 Fa60 Fa57 (Or.inl (ww hw 49 rfl)) (ww hw 1 rfl) (ty := .long) (by decide) rfl rfl (g := (mkF m 62 #[.val (.ref o0), .val (.int p1), .val (.int p2)] [(.long (gg + (0 : Int64))), (.ref o0)])) rfl rfl (hb hby d10_62)
        have N79 := Fr.snoc X79 N56 g_o0
        have K79 : Keep h0 h79 [o0] := K56.wr W79 (Or.inl (List.mem_of_getElem? (i := 0) rfl))
        have Z79 : n0 ≤ h79.size := Nat.le_trans Z56 (Keep.of_wr W79).1
        have Fa80 : Exa Z h79 o0 "com/example/chartwright/chartwright/eval/ClassScore" := Fa57.wr W79
        have Fa81 : Fld Z h79 o0 "com/example/chartwright/chartwright/eval/ClassScore" "words" "J" (.long (wd + (1 : Int64))) := Fa58.other W79 (Or.inr (slot_ne (Or.inl (ww hw 28 rfl)) (Or.inl (ww hw 49 rfl)) (by decide) (t := .long) (t' := .long) (by decide) (by decide)))
        have Fa82 : Fld Z h79 o0 "com/example/chartwright/chartwright/eval/ClassScore" "correct" "J" (.long (ct + (1 : Int64))) := Fa59.other W79 (Or.inr (slot_ne (Or.inl (ww hw 26 rfl)) (Or.inl (ww hw 49 rfl)) (by decide) (t := .long) (t' := .long) (by decide) (by decide)))
        have Fa83 : Fld Z h79 o0 "com/example/chartwright/chartwright/eval/ClassScore" "predictedOut" "J" (.long (po + (0 : Int64))) := Fa62.other W79 (Or.inr (slot_ne (Or.inl (ww hw 19 rfl)) (Or.inl (ww hw 49 rfl)) (by decide) (t := .long) (t' := .long) (by decide) (by decide)))
        have Fa84 : Fld Z h79 o0 "com/example/chartwright/chartwright/eval/ClassScore" "correctOut" "J" (.long co) := Fa61.other W79 (Or.inr (slot_ne (Or.inl (ww hw 42 rfl)) (Or.inl (ww hw 49 rfl)) (by decide) (t := .long) (t' := .long) (by decide) (by decide)))
        have Fa85 : Fld Z h79 o0 "com/example/chartwright/chartwright/eval/ClassScore" "goldOut" "J" (.long (gg + (0 : Int64))) := Fa60.same W79
        refine go (u' := T79.setTop (mkF m 65 #[.val (.ref o0), .val (.int p1), .val (.int p2)] [])) st79 ?_
        refine go (u' := T79.setTop (mkF m 66 #[.val (.ref o0), .val (.int p1), .val (.int p2)] [(.ref o0)])) (fun _ ks_ => XS.aloadN X79.here hx rfl (hb hby d10_65) rfl rfl ks_) ?_
        refine go (u' := T79.setTop (mkF m 67 #[.val (.ref o0), .val (.int p1), .val (.int p2)] [(.ref o0), (.ref o0)])) (fun _ ks_ => XS.dup X79.here hx rfl (hb hby d10_66) rfl rfl ks_) ?_
        obtain ⟨T86, X86, e86, st86⟩ := getF X79 hx hZ hown (host := "") (Or.inl (ww hw 41 rfl)) Via.refl e79 Fa84 (g := (mkF m 67 #[.val (.ref o0), .val (.int p1), .val (.int p2)] [(.ref o0), (.ref o0)])) rfl rfl (hb hby d10_67)
        refine go (u' := T86.setTop (mkF m 70 #[.val (.ref o0), .val (.int p1), .val (.int p2)] [(.long co), (.ref o0)])) st86 ?_
        refine go (u' := T86.setTop (mkF m 71 #[.val (.ref o0), .val (.int p1), .val (.int p2)] [(.int p1), (.long co), (.ref o0)])) (fun _ ks_ => XS.iloadN X86.here hx rfl (hb hby d10_70) rfl  ks_) ?_
        refine go (u' := T86.setTop (mkF m 82 #[.val (.ref o0), .val (.int p1), .val (.int p2)] [(.long co), (.ref o0)])) (fun _ ks_ => XS.ifYes X86.here hx rfl (pc0 := 71) (pc' := 82) rfl (hb hby d10_71) rfl ((if0 _ _).trans (feq c53_4).2) (by decide) (by decide) ks_) ?_
        refine go (u' := T86.setTop (mkF m 83 #[.val (.ref o0), .val (.int p1), .val (.int p2)] [(.long (0 : Int64)), (.long co), (.ref o0)])) (fun _ ks_ => XS.lconst X86.here hx rfl (hb hby d10_82) ks_) ?_
        refine go (u' := T86.setTop (mkF m 84 #[.val (.ref o0), .val (.int p1), .val (.int p2)] [(.long (co + (0 : Int64))), (.ref o0)])) (fun _ ks_ => XS.ladd X86.here hx rfl (hb hby d10_83) rfl ks_) ?_
        obtain ⟨T87, h87, X87, e87, W87, st87⟩ := putF X86 hx hZ hown (host := "") (Or.inl (ww hw 41 rfl)) Via.refl e86 Fa84 Fa80 (Or.inl (ww hw 42 rfl)) (ww hw 1 rfl) (ty := .long) (by decide) rfl rfl (g := (mkF m 84 #[.val (.ref o0), .val (.int p1), .val (.int p2)] [(.long (co + (0 : Int64))), (.ref o0)])) rfl rfl (hb hby d10_84)
        have N87 := Fr.snoc X87 N79 g_o0
        have K87 : Keep h0 h87 [o0] := K79.wr W87 (Or.inl (List.mem_of_getElem? (i := 0) rfl))
        have Z87 : n0 ≤ h87.size := Nat.le_trans Z79 (Keep.of_wr W87).1
        have Fa88 : Exa Z h87 o0 "com/example/chartwright/chartwright/eval/ClassScore" := Fa80.wr W87
        have Fa89 : Fld Z h87 o0 "com/example/chartwright/chartwright/eval/ClassScore" "words" "J" (.long (wd + (1 : Int64))) := Fa81.other W87 (Or.inr (slot_ne (Or.inl (ww hw 28 rfl)) (Or.inl (ww hw 42 rfl)) (by decide) (t := .long) (t' := .long) (by decide) (by decide)))
        have Fa90 : Fld Z h87 o0 "com/example/chartwright/chartwright/eval/ClassScore" "correct" "J" (.long (ct + (1 : Int64))) := Fa82.other W87 (Or.inr (slot_ne (Or.inl (ww hw 26 rfl)) (Or.inl (ww hw 42 rfl)) (by decide) (t := .long) (t' := .long) (by decide) (by decide)))
        have Fa91 : Fld Z h87 o0 "com/example/chartwright/chartwright/eval/ClassScore" "predictedOut" "J" (.long (po + (0 : Int64))) := Fa83.other W87 (Or.inr (slot_ne (Or.inl (ww hw 19 rfl)) (Or.inl (ww hw 42 rfl)) (by decide) (t := .long) (t' := .long) (by decide) (by decide)))
        have Fa92 : Fld Z h87 o0 "com/example/chartwright/chartwright/eval/ClassScore" "goldOut" "J" (.long (gg + (0 : Int64))) := Fa85.other W87 (Or.inr (slot_ne (Or.inl (ww hw 49 rfl)) (Or.inl (ww hw 42 rfl)) (by decide) (t := .long) (t' := .long) (by decide) (by decide)))
        have Fa93 : Fld Z h87 o0 "com/example/chartwright/chartwright/eval/ClassScore" "correctOut" "J" (.long (co + (0 : Int64))) := Fa84.same W87
        refine go (u' := T87.setTop (mkF m 87 #[.val (.ref o0), .val (.int p1), .val (.int p2)] [])) st87 ?_
        rw [hG]
        refine g0 X87 hx hlk hret (hb hby d10_87) ?_ (Nat.le_of_ble_eq_true rfl) (Nat.le_of_ble_eq_true rfl)
        show Q_rm10 Z o0 p1 p2 wd ct po gg co h0 n0 (none) T87.heap _
        rw [e87]
        exact ⟨rfl, N87, K87, Fa88, Fa89, (own_Fto Fa90 (congrArg Value.long (show (ct + (1 : Int64)) = (if p1 = p2 then (ct + (1 : Int64)) else (ct + (0 : Int64))) from ((if_pos c17_1)).symm))), (own_Fto Fa91 (congrArg Value.long (show (po + (0 : Int64)) = (if p2 = (0 : Int32) then (po + (1 : Int64)) else (po + (0 : Int64))) from ((if_neg c35_2)).symm))), (own_Fto Fa92 (congrArg Value.long (show (gg + (0 : Int64)) = (if p1 = (0 : Int32) then (gg + (1 : Int64)) else (gg + (0 : Int64))) from ((if_neg c53_4)).symm))), (own_Fto Fa93 (congrArg Value.long (show (co + (0 : Int64)) = (if p2 = (0 : Int32) then (if p1 = (0 : Int32) then (co + (1 : Int64)) else (co + (0 : Int64))) else (co + (0 : Int64))) from ((if_neg c35_2)).symm)))⟩
  ·
    refine go (u' := T9.setTop (mkF m 24 #[.val (.ref o0), .val (.int p1), .val (.int p2)] [(.long ct), (.ref o0)])) (fun _ ks_ => XS.icmpYes X9.here hx rfl (pc0 := 17) (pc' := 24) rfl (hb hby d10_17) rfl (feq c17_1).2 (by decide) (by decide) ks_) ?_
    refine go (u' := T9.setTop (mkF m 25 #[.val (.ref o0), .val (.int p1), .val (.int p2)] [(.long (0 : Int64)), (.long ct), (.ref o0)])) (fun _ ks_ => XS.lconst X9.here hx rfl (hb hby d10_24) ks_) ?_
    refine go (u' := T9.setTop (mkF m 26 #[.val (.ref o0), .val (.int p1), .val (.int p2)] [(.long (ct + (0 : Int64))), (.ref o0)])) (fun _ ks_ => XS.ladd X9.here hx rfl (hb hby d10_25) rfl ks_) ?_
    obtain ⟨T94, h94, X94, e94, W94, st94⟩ := putF X9 hx hZ hown (host := "") (Or.inl (ww hw 25 rfl)) Via.refl e9 Fa4 Fa3 (Or.inl (ww hw 26 rfl)) (ww hw 1 rfl) (ty := .long) (by decide) rfl rfl (g := (mkF m 26 #[.val (.ref o0), .val (.int p1), .val (.int p2)] [(.long (ct + (0 : Int64))), (.ref o0)])) rfl rfl (hb hby d10_26)
    have N94 := Fr.snoc X94 N2 g_o0
    have K94 : Keep h0 h94 [o0] := K2.wr W94 (Or.inl (List.mem_of_getElem? (i := 0) rfl))
    have Z94 : n0 ≤ h94.size := Nat.le_trans Z2 (Keep.of_wr W94).1
    have Fa95 : Exa Z h94 o0 "com/example/chartwright/chartwright/eval/ClassScore" := Fa3.wr W94
    have Fa96 : Fld Z h94 o0 "com/example/chartwright/chartwright/eval/ClassScore" "words" "J" (.long (wd + (1 : Int64))) := Fa8.other W94 (Or.inr (slot_ne (Or.inl (ww hw 28 rfl)) (Or.inl (ww hw 26 rfl)) (by decide) (t := .long) (t' := .long) (by decide) (by decide)))
    have Fa97 : Fld Z h94 o0 "com/example/chartwright/chartwright/eval/ClassScore" "predictedOut" "J" (.long po) := Fa5.other W94 (Or.inr (slot_ne (Or.inl (ww hw 19 rfl)) (Or.inl (ww hw 26 rfl)) (by decide) (t := .long) (t' := .long) (by decide) (by decide)))
    have Fa98 : Fld Z h94 o0 "com/example/chartwright/chartwright/eval/ClassScore" "goldOut" "J" (.long gg) := Fa6.other W94 (Or.inr (slot_ne (Or.inl (ww hw 49 rfl)) (Or.inl (ww hw 26 rfl)) (by decide) (t := .long) (t' := .long) (by decide) (by decide)))
    have Fa99 : Fld Z h94 o0 "com/example/chartwright/chartwright/eval/ClassScore" "correctOut" "J" (.long co) := Fa7.other W94 (Or.inr (slot_ne (Or.inl (ww hw 42 rfl)) (Or.inl (ww hw 26 rfl)) (by decide) (t := .long) (t' := .long) (by decide) (by decide)))
    have Fa100 : Fld Z h94 o0 "com/example/chartwright/chartwright/eval/ClassScore" "correct" "J" (.long (ct + (0 : Int64))) := Fa4.same W94
    refine go (u' := T94.setTop (mkF m 29 #[.val (.ref o0), .val (.int p1), .val (.int p2)] [])) st94 ?_
    refine go (u' := T94.setTop (mkF m 30 #[.val (.ref o0), .val (.int p1), .val (.int p2)] [(.ref o0)])) (fun _ ks_ => XS.aloadN X94.here hx rfl (hb hby d10_29) rfl rfl ks_) ?_
    refine go (u' := T94.setTop (mkF m 31 #[.val (.ref o0), .val (.int p1), .val (.int p2)] [(.ref o0), (.ref o0)])) (fun _ ks_ => XS.dup X94.here hx rfl (hb hby d10_30) rfl rfl ks_) ?_
    obtain ⟨T101, X101, e101, st101⟩ := getF X94 hx hZ hown (host := "") (Or.inl (ww hw 18 rfl)) Via.refl e94 Fa97 (g := (mkF m 31 #[.val (.ref o0), .val (.int p1), .val (.int p2)] [(.ref o0), (.ref o0)])) rfl rfl (hb hby d10_31)
    refine go (u' := T101.setTop (mkF m 34 #[.val (.ref o0), .val (.int p1), .val (.int p2)] [(.long po), (.ref o0)])) st101 ?_
    refine go (u' := T101.setTop (mkF m 35 #[.val (.ref o0), .val (.int p1), .val (.int p2)] [(.int p2), (.long po), (.ref o0)])) (fun _ ks_ => XS.iloadN X101.here hx rfl (hb hby d10_34) rfl  ks_) ?_
    by_cases c35_5 : p2 = (0 : Int32)
    ·
      refine go (u' := T101.setTop (mkF m 42 #[.val (.ref o0), .val (.int p1), .val (.int p2)] [(.long po), (.ref o0)])) (fun _ ks_ => XS.ifYes X101.here hx rfl (pc0 := 35) (pc' := 42) rfl (hb hby d10_35) rfl ((if0 _ _).trans (teq c35_5).1) (by decide) (by decide) ks_) ?_
      refine go (u' := T101.setTop (mkF m 43 #[.val (.ref o0), .val (.int p1), .val (.int p2)] [(.long (1 : Int64)), (.long po), (.ref o0)])) (fun _ ks_ => XS.lconst X101.here hx rfl (hb hby d10_42) ks_) ?_
      refine go (u' := T101.setTop (mkF m 44 #[.val (.ref o0), .val (.int p1), .val (.int p2)] [(.long (po + (1 : Int64))), (.ref o0)])) (fun _ ks_ => XS.ladd X101.here hx rfl (hb hby d10_43) rfl ks_) ?_
      obtain ⟨T102, h102, X102, e102, W102, st102⟩ := putF X101 hx hZ hown (host := "") (Or.inl (ww hw 18 rfl)) Via.refl e101 Fa97 Fa95 (Or.inl (ww hw 19 rfl)) (ww hw 1 rfl) (ty := .long) (by decide) rfl rfl (g := (mkF m 44 #[.val (.ref o0), .val (.int p1), .val (.int p2)] [(.long (po + (1 : Int64))), (.ref o0)])) rfl rfl (hb hby d10_44)
      have N102 := Fr.snoc X102 N94 g_o0
      have K102 : Keep h0 h102 [o0] := K94.wr W102 (Or.inl (List.mem_of_getElem? (i := 0) rfl))
      have Z102 : n0 ≤ h102.size := Nat.le_trans Z94 (Keep.of_wr W102).1
      have Fa103 : Exa Z h102 o0 "com/example/chartwright/chartwright/eval/ClassScore" := Fa95.wr W102
      have Fa104 : Fld Z h102 o0 "com/example/chartwright/chartwright/eval/ClassScore" "words" "J" (.long (wd + (1 : Int64))) := Fa96.other W102 (Or.inr (slot_ne (Or.inl (ww hw 28 rfl)) (Or.inl (ww hw 19 rfl)) (by decide) (t := .long) (t' := .long) (by decide) (by decide)))
      have Fa105 : Fld Z h102 o0 "com/example/chartwright/chartwright/eval/ClassScore" "correct" "J" (.long (ct + (0 : Int64))) := Fa100.other W102 (Or.inr (slot_ne (Or.inl (ww hw 26 rfl)) (Or.inl (ww hw 19 rfl)) (by decide) (t := .long) (t' := .long) (by decide) (by decide)))
      have Fa106 : Fld Z h102 o0 "com/example/chartwright/chartwright/eval/ClassScore" "goldOut" "J" (.long gg) := Fa98.other W102 (Or.inr (slot_ne (Or.inl (ww hw 49 rfl)) (Or.inl (ww hw 19 rfl)) (by decide) (t := .long) (t' := .long) (by decide) (by decide)))
      have Fa107 : Fld Z h102 o0 "com/example/chartwright/chartwright/eval/ClassScore" "correctOut" "J" (.long co) := Fa99.other W102 (Or.inr (slot_ne (Or.inl (ww hw 42 rfl)) (Or.inl (ww hw 19 rfl)) (by decide) (t := .long) (t' := .long) (by decide) (by decide)))
      have Fa108 : Fld Z h102 o0 "com/example/chartwright/chartwright/eval/ClassScore" "predictedOut" "J" (.long (po + (1 : Int64))) := Fa97.same W102
      refine go (u' := T102.setTop (mkF m 47 #[.val (.ref o0), .val (.int p1), .val (.int p2)] [])) st102 ?_
      refine go (u' := T102.setTop (mkF m 48 #[.val (.ref o0), .val (.int p1), .val (.int p2)] [(.ref o0)])) (fun _ ks_ => XS.aloadN X102.here hx rfl (hb hby d10_47) rfl rfl ks_) ?_
      refine go (u' := T102.setTop (mkF m 49 #[.val (.ref o0), .val (.int p1), .val (.int p2)] [(.ref o0), (.ref o0)])) (fun _ ks_ => XS.dup X102.here hx rfl (hb hby d10_48) rfl rfl ks_) ?_
      obtain ⟨T109, X109, e109, st109⟩ := getF X102 hx hZ hown (host := "") (Or.inl (ww hw 48 rfl)) Via.refl e102 Fa106 (g := (mkF m 49 #[.val (.ref o0), .val (.int p1), .val (.int p2)] [(.ref o0), (.ref o0)])) rfl rfl (hb hby d10_49)
      refine go (u' := T109.setTop (mkF m 52 #[.val (.ref o0), .val (.int p1), .val (.int p2)] [(.long gg), (.ref o0)])) st109 ?_
      refine go (u' := T109.setTop (mkF m 53 #[.val (.ref o0), .val (.int p1), .val (.int p2)] [(.int p1), (.long gg), (.ref o0)])) (fun _ ks_ => XS.iloadN X109.here hx rfl (hb hby d10_52) rfl  ks_) ?_
      by_cases c53_6 : p1 = (0 : Int32)
      ·
        refine go (u' := T109.setTop (mkF m 60 #[.val (.ref o0), .val (.int p1), .val (.int p2)] [(.long gg), (.ref o0)])) (fun _ ks_ => XS.ifYes X109.here hx rfl (pc0 := 53) (pc' := 60) rfl (hb hby d10_53) rfl ((if0 _ _).trans (teq c53_6).1) (by decide) (by decide) ks_) ?_
        refine go (u' := T109.setTop (mkF m 61 #[.val (.ref o0), .val (.int p1), .val (.int p2)] [(.long (1 : Int64)), (.long gg), (.ref o0)])) (fun _ ks_ => XS.lconst X109.here hx rfl (hb hby d10_60) ks_) ?_
        refine go (u' := T109.setTop (mkF m 62 #[.val (.ref o0), .val (.int p1), .val (.int p2)] [(.long (gg + (1 : Int64))), (.ref o0)])) (fun _ ks_ => XS.ladd X109.here hx rfl (hb hby d10_61) rfl ks_) ?_
        obtain ⟨T110, h110, X110, e110, W110, st110⟩ := putF X109 hx hZ hown (host := "") (Or.inl (ww hw 48 rfl)) Via.refl e109 Fa106 Fa103 (Or.inl (ww hw 49 rfl)) (ww hw 1 rfl) (ty := .long) (by decide) rfl rfl (g := (mkF m 62 #[.val (.ref o0), .val (.int p1), .val (.int p2)] [(.long (gg + (1 : Int64))), (.ref o0)])) rfl rfl (hb hby d10_62)
        have N110 := Fr.snoc X110 N102 g_o0
        have K110 : Keep h0 h110 [o0] := K102.wr W110 (Or.inl (List.mem_of_getElem? (i := 0) rfl))
        have Z110 : n0 ≤ h110.size := Nat.le_trans Z102 (Keep.of_wr W110).1
        have Fa111 : Exa Z h110 o0 "com/example/chartwright/chartwright/eval/ClassScore" := Fa103.wr W110
        have Fa112 : Fld Z h110 o0 "com/example/chartwright/chartwright/eval/ClassScore" "words" "J" (.long (wd + (1 : Int64))) := Fa104.other W110 (Or.inr (slot_ne (Or.inl (ww hw 28 rfl)) (Or.inl (ww hw 49 rfl)) (by decide) (t := .long) (t' := .long) (by decide) (by decide)))
        have Fa113 : Fld Z h110 o0 "com/example/chartwright/chartwright/eval/ClassScore" "correct" "J" (.long (ct + (0 : Int64))) := Fa105.other W110 (Or.inr (slot_ne (Or.inl (ww hw 26 rfl)) (Or.inl (ww hw 49 rfl)) (by decide) (t := .long) (t' := .long) (by decide) (by decide)))
        have Fa114 : Fld Z h110 o0 "com/example/chartwright/chartwright/eval/ClassScore" "predictedOut" "J" (.long (po + (1 : Int64))) := Fa108.other W110 (Or.inr (slot_ne (Or.inl (ww hw 19 rfl)) (Or.inl (ww hw 49 rfl)) (by decide) (t := .long) (t' := .long) (by decide) (by decide)))
        have Fa115 : Fld Z h110 o0 "com/example/chartwright/chartwright/eval/ClassScore" "correctOut" "J" (.long co) := Fa107.other W110 (Or.inr (slot_ne (Or.inl (ww hw 42 rfl)) (Or.inl (ww hw 49 rfl)) (by decide) (t := .long) (t' := .long) (by decide) (by decide)))
        have Fa116 : Fld Z h110 o0 "com/example/chartwright/chartwright/eval/ClassScore" "goldOut" "J" (.long (gg + (1 : Int64))) := Fa106.same W110
        refine go (u' := T110.setTop (mkF m 65 #[.val (.ref o0), .val (.int p1), .val (.int p2)] [])) st110 ?_
        refine go (u' := T110.setTop (mkF m 66 #[.val (.ref o0), .val (.int p1), .val (.int p2)] [(.ref o0)])) (fun _ ks_ => XS.aloadN X110.here hx rfl (hb hby d10_65) rfl rfl ks_) ?_
        refine go (u' := T110.setTop (mkF m 67 #[.val (.ref o0), .val (.int p1), .val (.int p2)] [(.ref o0), (.ref o0)])) (fun _ ks_ => XS.dup X110.here hx rfl (hb hby d10_66) rfl rfl ks_) ?_
        obtain ⟨T117, X117, e117, st117⟩ := getF X110 hx hZ hown (host := "") (Or.inl (ww hw 41 rfl)) Via.refl e110 Fa115 (g := (mkF m 67 #[.val (.ref o0), .val (.int p1), .val (.int p2)] [(.ref o0), (.ref o0)])) rfl rfl (hb hby d10_67)
        refine go (u' := T117.setTop (mkF m 70 #[.val (.ref o0), .val (.int p1), .val (.int p2)] [(.long co), (.ref o0)])) st117 ?_
        refine go (u' := T117.setTop (mkF m 71 #[.val (.ref o0), .val (.int p1), .val (.int p2)] [(.int p1), (.long co), (.ref o0)])) (fun _ ks_ => XS.iloadN X117.here hx rfl (hb hby d10_70) rfl  ks_) ?_
        refine go (u' := T117.setTop (mkF m 74 #[.val (.ref o0), .val (.int p1), .val (.int p2)] [(.long co), (.ref o0)])) (fun _ ks_ => XS.ifNo X117.here hx rfl (hb hby d10_71) rfl ((if0 _ _).trans (teq c53_6).2) ks_) ?_
        refine go (u' := T117.setTop (mkF m 75 #[.val (.ref o0), .val (.int p1), .val (.int p2)] [(.int p2), (.long co), (.ref o0)])) (fun _ ks_ => XS.iloadN X117.here hx rfl (hb hby d10_74) rfl  ks_) ?_
        refine go (u' := T117.setTop (mkF m 78 #[.val (.ref o0), .val (.int p1), .val (.int p2)] [(.long co), (.ref o0)])) (fun _ ks_ => XS.ifNo X117.here hx rfl (hb hby d10_75) rfl ((if0 _ _).trans (teq c35_5).2) ks_) ?_
        refine go (u' := T117.setTop (mkF m 79 #[.val (.ref o0), .val (.int p1), .val (.int p2)] [(.long (1 : Int64)), (.long co), (.ref o0)])) (fun _ ks_ => XS.lconst X117.here hx rfl (hb hby d10_78) ks_) ?_
        refine go (u' := T117.setTop (mkF m 83 #[.val (.ref o0), .val (.int p1), .val (.int p2)] [(.long (1 : Int64)), (.long co), (.ref o0)])) (fun _ ks_ => XS.goto X117.here hx rfl (pc0 := 79) (pc' := 83) rfl (hb hby d10_79) (by decide) (by decide) ks_) ?_
        refine go (u' := T117.setTop (mkF m 84 #[.val (.ref o0), .val (.int p1), .val (.int p2)] [(.long (co + (1 : Int64))), (.ref o0)])) (fun _ ks_ => XS.ladd X117.here hx rfl (hb hby d10_83) rfl ks_) ?_
        obtain ⟨T118, h118, X118, e118, W118, st118⟩ := putF X117 hx hZ hown (host := "") (Or.inl (ww hw 41 rfl)) Via.refl e117 Fa115 Fa111 (Or.inl (ww hw 42 rfl)) (ww hw 1 rfl) (ty := .long) (by decide) rfl rfl (g := (mkF m 84 #[.val (.ref o0), .val (.int p1), .val (.int p2)] [(.long (co + (1 : Int64))), (.ref o0)])) rfl rfl (hb hby d10_84)
        have N118 := Fr.snoc X118 N110 g_o0
        have K118 : Keep h0 h118 [o0] := K110.wr W118 (Or.inl (List.mem_of_getElem? (i := 0) rfl))
        have Z118 : n0 ≤ h118.size := Nat.le_trans Z110 (Keep.of_wr W118).1
        have Fa119 : Exa Z h118 o0 "com/example/chartwright/chartwright/eval/ClassScore" := Fa111.wr W118
        have Fa120 : Fld Z h118 o0 "com/example/chartwright/chartwright/eval/ClassScore" "words" "J" (.long (wd + (1 : Int64))) := Fa112.other W118 (Or.inr (slot_ne (Or.inl (ww hw 28 rfl)) (Or.inl (ww hw 42 rfl)) (by decide) (t := .long) (t' := .long) (by decide) (by decide)))
        have Fa121 : Fld Z h118 o0 "com/example/chartwright/chartwright/eval/ClassScore" "correct" "J" (.long (ct + (0 : Int64))) := Fa113.other W118 (Or.inr (slot_ne (Or.inl (ww hw 26 rfl)) (Or.inl (ww hw 42 rfl)) (by decide) (t := .long) (t' := .long) (by decide) (by decide)))
        have Fa122 : Fld Z h118 o0 "com/example/chartwright/chartwright/eval/ClassScore" "predictedOut" "J" (.long (po + (1 : Int64))) := Fa114.other W118 (Or.inr (slot_ne (Or.inl (ww hw 19 rfl)) (Or.inl (ww hw 42 rfl)) (by decide) (t := .long) (t' := .long) (by decide) (by decide)))
        have Fa123 : Fld Z h118 o0 "com/example/chartwright/chartwright/eval/ClassScore" "goldOut" "J" (.long (gg + (1 : Int64))) := Fa116.other W118 (Or.inr (slot_ne (Or.inl (ww hw 49 rfl)) (Or.inl (ww hw 42 rfl)) (by decide) (t := .long) (t' := .long) (by decide) (by decide)))
        have Fa124 : Fld Z h118 o0 "com/example/chartwright/chartwright/eval/ClassScore" "correctOut" "J" (.long (co + (1 : Int64))) := Fa115.same W118
        refine go (u' := T118.setTop (mkF m 87 #[.val (.ref o0), .val (.int p1), .val (.int p2)] [])) st118 ?_
        rw [hG]
        refine g0 X118 hx hlk hret (hb hby d10_87) ?_ (Nat.le_of_ble_eq_true rfl) (Nat.le_of_ble_eq_true rfl)
        show Q_rm10 Z o0 p1 p2 wd ct po gg co h0 n0 (none) T118.heap _
        rw [e118]
        exact ⟨rfl, N118, K118, Fa119, Fa120, (own_Fto Fa121 (congrArg Value.long (show (ct + (0 : Int64)) = (if p1 = p2 then (ct + (1 : Int64)) else (ct + (0 : Int64))) from ((if_neg c17_1)).symm))), (own_Fto Fa122 (congrArg Value.long (show (po + (1 : Int64)) = (if p2 = (0 : Int32) then (po + (1 : Int64)) else (po + (0 : Int64))) from ((if_pos c35_5)).symm))), (own_Fto Fa123 (congrArg Value.long (show (gg + (1 : Int64)) = (if p1 = (0 : Int32) then (gg + (1 : Int64)) else (gg + (0 : Int64))) from ((if_pos c53_6)).symm))), (own_Fto Fa124 (congrArg Value.long (show (co + (1 : Int64)) = (if p2 = (0 : Int32) then (if p1 = (0 : Int32) then (co + (1 : Int64)) else (co + (0 : Int64))) else (co + (0 : Int64))) from (((if_pos c35_5).trans (if_pos c53_6))).symm)))⟩
      ·
        refine go (u' := T109.setTop (mkF m 56 #[.val (.ref o0), .val (.int p1), .val (.int p2)] [(.long gg), (.ref o0)])) (fun _ ks_ => XS.ifNo X109.here hx rfl (hb hby d10_53) rfl ((if0 _ _).trans (feq c53_6).1) ks_) ?_
        refine go (u' := T109.setTop (mkF m 57 #[.val (.ref o0), .val (.int p1), .val (.int p2)] [(.long (0 : Int64)), (.long gg), (.ref o0)])) (fun _ ks_ => XS.lconst X109.here hx rfl (hb hby d10_56) ks_) ?_
        refine go (u' := T109.setTop (mkF m 61 #[.val (.ref o0), .val (.int p1), .val (.int p2)] [(.long (0 : Int64)), (.long gg), (.ref o0)])) (fun _ ks_ => XS.goto X109.here hx rfl (pc0 := 57) (pc' := 61) rfl (hb hby d10_57) (by decide) (by decide) ks_) ?_
        refine go (u' := T109.setTop (mkF m 62 #[.val (.ref o0), .val (.int p1), .val (.int p2)] [(.long (gg + (0 : Int64))), (.ref o0)])) (fun _ ks_ => XS.ladd X109.here hx rfl (hb hby d10_61) rfl ks_) ?_
        obtain ⟨T125, h125, X125, e125, W125, st125⟩ := putF X109 hx hZ hown (host := "") (Or.inl (ww hw 48 rfl)) Via.refl e109 Fa106 Fa103 (Or.inl (ww hw 49 rfl)) (ww hw 1 rfl) (ty := .long) (by decide) rfl rfl (g := (mkF m 62 #[.val (.ref o0), .val (.int p1), .val (.int p2)] [(.long (gg + (0 : Int64))), (.ref o0)])) rfl rfl (hb hby d10_62)
        have N125 := Fr.snoc X125 N102 g_o0
        have K125 : Keep h0 h125 [o0] := K102.wr W125 (Or.inl (List.mem_of_getElem? (i := 0) rfl))
        have Z125 : n0 ≤ h125.size := Nat.le_trans Z102 (Keep.of_wr W125).1
        have Fa126 : Exa Z h125 o0 "com/example/chartwright/chartwright/eval/ClassScore" := Fa103.wr W125
        have Fa127 : Fld Z h125 o0 "com/example/chartwright/chartwright/eval/ClassScore" "words" "J" (.long (wd + (1 : Int64))) := Fa104.other W125 (Or.inr (slot_ne (Or.inl (ww hw 28 rfl)) (Or.inl (ww hw 49 rfl)) (by decide) (t := .long) (t' := .long) (by decide) (by decide)))
        have Fa128 : Fld Z h125 o0 "com/example/chartwright/chartwright/eval/ClassScore" "correct" "J" (.long (ct + (0 : Int64))) := Fa105.other W125 (Or.inr (slot_ne (Or.inl (ww hw 26 rfl)) (Or.inl (ww hw 49 rfl)) (by decide) (t := .long) (t' := .long) (by decide) (by decide)))
        have Fa129 : Fld Z h125 o0 "com/example/chartwright/chartwright/eval/ClassScore" "predictedOut" "J" (.long (po + (1 : Int64))) := Fa108.other W125 (Or.inr (slot_ne (Or.inl (ww hw 19 rfl)) (Or.inl (ww hw 49 rfl)) (by decide) (t := .long) (t' := .long) (by decide) (by decide)))
        have Fa130 : Fld Z h125 o0 "com/example/chartwright/chartwright/eval/ClassScore" "correctOut" "J" (.long co) := Fa107.other W125 (Or.inr (slot_ne (Or.inl (ww hw 42 rfl)) (Or.inl (ww hw 49 rfl)) (by decide) (t := .long) (t' := .long) (by decide) (by decide)))
        have Fa131 : Fld Z h125 o0 "com/example/chartwright/chartwright/eval/ClassScore" "goldOut" "J" (.long (gg + (0 : Int64))) := Fa106.same W125
        refine go (u' := T125.setTop (mkF m 65 #[.val (.ref o0), .val (.int p1), .val (.int p2)] [])) st125 ?_
        refine go (u' := T125.setTop (mkF m 66 #[.val (.ref o0), .val (.int p1), .val (.int p2)] [(.ref o0)])) (fun _ ks_ => XS.aloadN X125.here hx rfl (hb hby d10_65) rfl rfl ks_) ?_
        refine go (u' := T125.setTop (mkF m 67 #[.val (.ref o0), .val (.int p1), .val (.int p2)] [(.ref o0), (.ref o0)])) (fun _ ks_ => XS.dup X125.here hx rfl (hb hby d10_66) rfl rfl ks_) ?_
        obtain ⟨T132, X132, e132, st132⟩ := getF X125 hx hZ hown (host := "") (Or.inl (ww hw 41 rfl)) Via.refl e125 Fa130 (g := (mkF m 67 #[.val (.ref o0), .val (.int p1), .val (.int p2)] [(.ref o0), (.ref o0)])) rfl rfl (hb hby d10_67)
        refine go (u' := T132.setTop (mkF m 70 #[.val (.ref o0), .val (.int p1), .val (.int p2)] [(.long co), (.ref o0)])) st132 ?_
        refine go (u' := T132.setTop (mkF m 71 #[.val (.ref o0), .val (.int p1), .val (.int p2)] [(.int p1), (.long co), (.ref o0)])) (fun _ ks_ => XS.iloadN X132.here hx rfl (hb hby d10_70) rfl  ks_) ?_
        refine go (u' := T132.setTop (mkF m 82 #[.val (.ref o0), .val (.int p1), .val (.int p2)] [(.long co), (.ref o0)])) (fun _ ks_ => XS.ifYes X132.here hx rfl (pc0 := 71) (pc' := 82) rfl (hb hby d10_71) rfl ((if0 _ _).trans (feq c53_6).2) (by decide) (by decide) ks_) ?_
        refine go (u' := T132.setTop (mkF m 83 #[.val (.ref o0), .val (.int p1), .val (.int p2)] [(.long (0 : Int64)), (.long co), (.ref o0)])) (fun _ ks_ => XS.lconst X132.here hx rfl (hb hby d10_82) ks_) ?_
        refine go (u' := T132.setTop (mkF m 84 #[.val (.ref o0), .val (.int p1), .val (.int p2)] [(.long (co + (0 : Int64))), (.ref o0)])) (fun _ ks_ => XS.ladd X132.here hx rfl (hb hby d10_83) rfl ks_) ?_
        obtain ⟨T133, h133, X133, e133, W133, st133⟩ := putF X132 hx hZ hown (host := "") (Or.inl (ww hw 41 rfl)) Via.refl e132 Fa130 Fa126 (Or.inl (ww hw 42 rfl)) (ww hw 1 rfl) (ty := .long) (by decide) rfl rfl (g := (mkF m 84 #[.val (.ref o0), .val (.int p1), .val (.int p2)] [(.long (co + (0 : Int64))), (.ref o0)])) rfl rfl (hb hby d10_84)
        have N133 := Fr.snoc X133 N125 g_o0
        have K133 : Keep h0 h133 [o0] := K125.wr W133 (Or.inl (List.mem_of_getElem? (i := 0) rfl))
        have Z133 : n0 ≤ h133.size := Nat.le_trans Z125 (Keep.of_wr W133).1
        have Fa134 : Exa Z h133 o0 "com/example/chartwright/chartwright/eval/ClassScore" := Fa126.wr W133
        have Fa135 : Fld Z h133 o0 "com/example/chartwright/chartwright/eval/ClassScore" "words" "J" (.long (wd + (1 : Int64))) := Fa127.other W133 (Or.inr (slot_ne (Or.inl (ww hw 28 rfl)) (Or.inl (ww hw 42 rfl)) (by decide) (t := .long) (t' := .long) (by decide) (by decide)))
        have Fa136 : Fld Z h133 o0 "com/example/chartwright/chartwright/eval/ClassScore" "correct" "J" (.long (ct + (0 : Int64))) := Fa128.other W133 (Or.inr (slot_ne (Or.inl (ww hw 26 rfl)) (Or.inl (ww hw 42 rfl)) (by decide) (t := .long) (t' := .long) (by decide) (by decide)))
        have Fa137 : Fld Z h133 o0 "com/example/chartwright/chartwright/eval/ClassScore" "predictedOut" "J" (.long (po + (1 : Int64))) := Fa129.other W133 (Or.inr (slot_ne (Or.inl (ww hw 19 rfl)) (Or.inl (ww hw 42 rfl)) (by decide) (t := .long) (t' := .long) (by decide) (by decide)))
        have Fa138 : Fld Z h133 o0 "com/example/chartwright/chartwright/eval/ClassScore" "goldOut" "J" (.long (gg + (0 : Int64))) := Fa131.other W133 (Or.inr (slot_ne (Or.inl (ww hw 49 rfl)) (Or.inl (ww hw 42 rfl)) (by decide) (t := .long) (t' := .long) (by decide) (by decide)))
        have Fa139 : Fld Z h133 o0 "com/example/chartwright/chartwright/eval/ClassScore" "correctOut" "J" (.long (co + (0 : Int64))) := Fa130.same W133
        refine go (u' := T133.setTop (mkF m 87 #[.val (.ref o0), .val (.int p1), .val (.int p2)] [])) st133 ?_
        rw [hG]
        refine g0 X133 hx hlk hret (hb hby d10_87) ?_ (Nat.le_of_ble_eq_true rfl) (Nat.le_of_ble_eq_true rfl)
        show Q_rm10 Z o0 p1 p2 wd ct po gg co h0 n0 (none) T133.heap _
        rw [e133]
        exact ⟨rfl, N133, K133, Fa134, Fa135, (own_Fto Fa136 (congrArg Value.long (show (ct + (0 : Int64)) = (if p1 = p2 then (ct + (1 : Int64)) else (ct + (0 : Int64))) from ((if_neg c17_1)).symm))), (own_Fto Fa137 (congrArg Value.long (show (po + (1 : Int64)) = (if p2 = (0 : Int32) then (po + (1 : Int64)) else (po + (0 : Int64))) from ((if_pos c35_5)).symm))), (own_Fto Fa138 (congrArg Value.long (show (gg + (0 : Int64)) = (if p1 = (0 : Int32) then (gg + (1 : Int64)) else (gg + (0 : Int64))) from ((if_neg c53_6)).symm))), (own_Fto Fa139 (congrArg Value.long (show (co + (0 : Int64)) = (if p2 = (0 : Int32) then (if p1 = (0 : Int32) then (co + (1 : Int64)) else (co + (0 : Int64))) else (co + (0 : Int64))) from (((if_pos c35_5).trans (if_neg c53_6))).symm)))⟩
    ·
      refine go (u' := T101.setTop (mkF m 38 #[.val (.ref o0), .val (.int p1), .val (.int p2)] [(.long po), (.ref o0)])) (fun _ ks_ => XS.ifNo X101.here hx rfl (hb hby d10_35) rfl ((if0 _ _).trans (feq c35_5).1) ks_) ?_
      refine go (u' := T101.setTop (mkF m 39 #[.val (.ref o0), .val (.int p1), .val (.int p2)] [(.long (0 : Int64)), (.long po), (.ref o0)])) (fun _ ks_ => XS.lconst X101.here hx rfl (hb hby d10_38) ks_) ?_
      refine go (u' := T101.setTop (mkF m 43 #[.val (.ref o0), .val (.int p1), .val (.int p2)] [(.long (0 : Int64)), (.long po), (.ref o0)])) (fun _ ks_ => XS.goto X101.here hx rfl (pc0 := 39) (pc' := 43) rfl (hb hby d10_39) (by decide) (by decide) ks_) ?_
      refine go (u' := T101.setTop (mkF m 44 #[.val (.ref o0), .val (.int p1), .val (.int p2)] [(.long (po + (0 : Int64))), (.ref o0)])) (fun _ ks_ => XS.ladd X101.here hx rfl (hb hby d10_43) rfl ks_) ?_
      obtain ⟨T140, h140, X140, e140, W140, st140⟩ := putF X101 hx hZ hown (host := "") (Or.inl (ww hw 18 rfl)) Via.refl e101 Fa97 Fa95 (Or.inl (ww hw 19 rfl)) (ww hw 1 rfl) (ty := .long) (by decide) rfl rfl (g := (mkF m 44 #[.val (.ref o0), .val (.int p1), .val (.int p2)] [(.long (po + (0 : Int64))), (.ref o0)])) rfl rfl (hb hby d10_44)
      have N140 := Fr.snoc X140 N94 g_o0
      have K140 : Keep h0 h140 [o0] := K94.wr W140 (Or.inl (List.mem_of_getElem? (i := 0) rfl))
      have Z140 : n0 ≤ h140.size := Nat.le_trans Z94 (Keep.of_wr W140).1
      have Fa141 : Exa Z h140 o0 "com/example/chartwright/chartwright/eval/ClassScore" := Fa95.wr W140
      have Fa142 : Fld Z h140 o0 "com/example/chartwright/chartwright/eval/ClassScore" "words" "J" (.long (wd + (1 : Int64))) := Fa96.other W140 (Or.inr (slot_ne (Or.inl (ww hw 28 rfl)) (Or.inl (ww hw 19 rfl)) (by decide) (t := .long) (t' := .long) (by decide) (by decide)))
      have Fa143 : Fld Z h140 o0 "com/example/chartwright/chartwright/eval/ClassScore" "correct" "J" (.long (ct + (0 : Int64))) := Fa100.other W140 (Or.inr (slot_ne (Or.inl (ww hw 26 rfl)) (Or.inl (ww hw 19 rfl)) (by decide) (t := .long) (t' := .long) (by decide) (by decide)))
      have Fa144 : Fld Z h140 o0 "com/example/chartwright/chartwright/eval/ClassScore" "goldOut" "J" (.long gg) := Fa98.other W140 (Or.inr (slot_ne (Or.inl (ww hw 49 rfl)) (Or.inl (ww hw 19 rfl)) (by decide) (t := .long) (t' := .long) (by decide) (by decide)))
      have Fa145 : Fld Z h140 o0 "com/example/chartwright/chartwright/eval/ClassScore" "correctOut" "J" (.long co) := Fa99.other W140 (Or.inr (slot_ne (Or.inl (ww hw 42 rfl)) (Or.inl (ww hw 19 rfl)) (by decide) (t := .long) (t' := .long) (by decide) (by decide)))
      have Fa146 : Fld Z h140 o0 "com/example/chartwright/chartwright/eval/ClassScore" "predictedOut" "J" (.long (po + (0 : Int64))) := Fa97.same W140
      refine go (u' := T140.setTop (mkF m 47 #[.val (.ref o0), .val (.int p1), .val (.int p2)] [])) st140 ?_
      refine go (u' := T140.setTop (mkF m 48 #[.val (.ref o0), .val (.int p1), .val (.int p2)] [(.ref o0)])) (fun _ ks_ => XS.aloadN X140.here hx rfl (hb hby d10_47) rfl rfl ks_) ?_
      refine go (u' := T140.setTop (mkF m 49 #[.val (.ref o0), .val (.int p1), .val (.int p2)] [(.ref o0), (.ref o0)])) (fun _ ks_ => XS.dup X140.here hx rfl (hb hby d10_48) rfl rfl ks_) ?_
      obtain ⟨T147, X147, e147, st147⟩ := getF X140 hx hZ hown (host := "") (Or.inl (ww hw 48 rfl)) Via.refl e140 Fa144 (g := (mkF m 49 #[.val (.ref o0), .val (.int p1), .val (.int p2)] [(.ref o0), (.ref o0)])) rfl rfl (hb hby d10_49)
      refine go (u' := T147.setTop (mkF m 52 #[.val (.ref o0), .val (.int p1), .val (.int p2)] [(.long gg), (.ref o0)])) st147 ?_
      refine go (u' := T147.setTop (mkF m 53 #[.val (.ref o0), .val (.int p1), .val (.int p2)] [(.int p1), (.long gg), (.ref o0)])) (fun _ ks_ => XS.iloadN X147.here hx rfl (hb hby d10_52) rfl  ks_) ?_
      by_cases c53_7 : p1 = (0 : Int32)
      ·
        refine go (u' := T147.setTop (mkF m 60 #[.val (.ref o0), .val (.int p1), .val (.int p2)] [(.long gg), (.ref o0)])) (fun _ ks_ => XS.ifYes X147.here hx rfl (pc0 := 53) (pc' := 60) rfl (hb hby d10_53) rfl ((if0 _ _).trans (teq c53_7).1) (by decide) (by decide) ks_) ?_
        refine go (u' := T147.setTop (mkF m 61 #[.val (.ref o0), .val (.int p1), .val (.int p2)] [(.long (1 : Int64)), (.long gg), (.ref o0)])) (fun _ ks_ => XS.lconst X147.here hx rfl (hb hby d10_60) ks_) ?_
        refine go (u' := T147.setTop (mkF m 62 #[.val (.ref o0), .val (.int p1), .val (.int p2)] [(.long (gg + (1 : Int64))), (.ref o0)])) (fun _ ks_ => XS.ladd X147.here hx rfl (hb hby d10_61) rfl ks_) ?_
        obtain ⟨T148, h148, X148, e148, W148, st148⟩ := putF X147 hx hZ hown (host := "") (Or.inl (ww hw 48 rfl)) Via.refl e147 Fa144 Fa141 (Or.inl (ww hw 49 rfl)) (ww hw 1 rfl) (ty := .long) (by decide) rfl rfl (g := (mkF m 62 #[.val (.ref o0), .val (.int p1), .val (.int p2)] [(.long (gg + (1 : Int64))), (.ref o0)])) rfl rfl (hb hby d10_62)
        have N148 := Fr.snoc X148 N140 g_o0
        have K148 : Keep h0 h148 [o0] := K140.wr W148 (Or.inl (List.mem_of_getElem? (i := 0) rfl))
        have Z148 : n0 ≤ h148.size := Nat.le_trans Z140 (Keep.of_wr W148).1
        have Fa149 : Exa Z h148 o0 "com/example/chartwright/chartwright/eval/ClassScore" := Fa141.wr W148
        have Fa150 : Fld Z h148 o0 "com/example/chartwright/chartwright/eval/ClassScore" "words" "J" (.long (wd + (1 : Int64))) := Fa142.other W148 (Or.inr (slot_ne (Or.inl (ww hw 28 rfl)) (Or.inl (ww hw 49 rfl)) (by decide) (t := .long) (t' := .long) (by decide) (by decide)))
        have Fa151 : Fld Z h148 o0 "com/example/chartwright/chartwright/eval/ClassScore" "correct" "J" (.long (ct + (0 : Int64))) := Fa143.other W148 (Or.inr (slot_ne (Or.inl (ww hw 26 rfl)) (Or.inl (ww hw 49 rfl)) (by decide) (t := .long) (t' := .long) (by decide) (by decide)))
        have Fa152 : Fld Z h148 o0 "com/example/chartwright/chartwright/eval/ClassScore" "predictedOut" "J" (.long (po + (0 : Int64))) := Fa146.other W148 (Or.inr (slot_ne (Or.inl (ww hw 19 rfl)) (Or.inl (ww hw 49 rfl)) (by decide) (t := .long) (t' := .long) (by decide) (by decide)))
        have Fa153 : Fld Z h148 o0 "com/example/chartwright/chartwright/eval/ClassScore" "correctOut" "J" (.long co) := Fa145.other W148 (Or.inr (slot_ne (Or.inl (ww hw 42 rfl)) (Or.inl (ww hw 49 rfl)) (by decide) (t := .long) (t' := .long) (by decide) (by decide)))
        have Fa154 : Fld Z h148 o0 "com/example/chartwright/chartwright/eval/ClassScore" "goldOut" "J" (.long (gg + (1 : Int64))) := Fa144.same W148
        refine go (u' := T148.setTop (mkF m 65 #[.val (.ref o0), .val (.int p1), .val (.int p2)] [])) st148 ?_
        refine go (u' := T148.setTop (mkF m 66 #[.val (.ref o0), .val (.int p1), .val (.int p2)] [(.ref o0)])) (fun _ ks_ => XS.aloadN X148.here hx rfl (hb hby d10_65) rfl rfl ks_) ?_
        refine go (u' := T148.setTop (mkF m 67 #[.val (.ref o0), .val (.int p1), .val (.int p2)] [(.ref o0), (.ref o0)])) (fun _ ks_ => XS.dup X148.here hx rfl (hb hby d10_66) rfl rfl ks_) ?_
        obtain ⟨T155, X155, e155, st155⟩ := getF X148 hx hZ hown (host := "") (Or.inl (ww hw 41 rfl)) Via.refl e148 Fa153 (g := (mkF m 67 #[.val (.ref o0), .val (.int p1), .val (.int p2)] [(.ref o0), (.ref o0)])) rfl rfl (hb hby d10_67)
        refine go (u' := T155.setTop (mkF m 70 #[.val (.ref o0), .val (.int p1), .val (.int p2)] [(.long co), (.ref o0)])) st155 ?_
        refine go (u' := T155.setTop (mkF m 71 #[.val (.ref o0), .val (.int p1), .val (.int p2)] [(.int p1), (.long co), (.ref o0)])) (fun _ ks_ => XS.iloadN X155.here hx rfl (hb hby d10_70) rfl  ks_) ?_
        refine go (u' := T155.setTop (mkF m 74 #[.val (.ref o0), .val (.int p1), .val (.int p2)] [(.long co), (.ref o0)])) (fun _ ks_ => XS.ifNo X155.here hx rfl (hb hby d10_71) rfl ((if0 _ _).trans (teq c53_7).2) ks_) ?_
        refine go (u' := T155.setTop (mkF m 75 #[.val (.ref o0), .val (.int p1), .val (.int p2)] [(.int p2), (.long co), (.ref o0)])) (fun _ ks_ => XS.iloadN X155.here hx rfl (hb hby d10_74) rfl  ks_) ?_
        refine go (u' := T155.setTop (mkF m 82 #[.val (.ref o0), .val (.int p1), .val (.int p2)] [(.long co), (.ref o0)])) (fun _ ks_ => XS.ifYes X155.here hx rfl (pc0 := 75) (pc' := 82) rfl (hb hby d10_75) rfl ((if0 _ _).trans (feq c35_5).2) (by decide) (by decide) ks_) ?_
        refine go (u' := T155.setTop (mkF m 83 #[.val (.ref o0), .val (.int p1), .val (.int p2)] [(.long (0 : Int64)), (.long co), (.ref o0)])) (fun _ ks_ => XS.lconst X155.here hx rfl (hb hby d10_82) ks_) ?_
        refine go (u' := T155.setTop (mkF m 84 #[.val (.ref o0), .val (.int p1), .val (.int p2)] [(.long (co + (0 : Int64))), (.ref o0)])) (fun _ ks_ => XS.ladd X155.here hx rfl (hb hby d10_83) rfl ks_) ?_
        obtain ⟨T156, h156, X156, e156, W156, st156⟩ := putF X155 hx hZ hown (host := "") (Or.inl (ww hw 41 rfl)) Via.refl e155 Fa153 Fa149 (Or.inl (ww hw 42 rfl)) (ww hw 1 rfl) (ty := .long) (by decide) rfl rfl (g := (mkF m 84 #[.val (.ref o0), .val (.int p1), .val (.int p2)] [(.long (co + (0 : Int64))), (.ref o0)])) rfl rfl (hb hby d10_84)
        have N156 := Fr.snoc X156 N148 g_o0
        have K156 : Keep h0 h156 [o0] := K148.wr W156 (Or.inl (List.mem_of_getElem? (i := 0) rfl))
        have Z156 : n0 ≤ h156.size := Nat.le_trans Z148 (Keep.of_wr W156).1
        have Fa157 : Exa Z h156 o0 "com/example/chartwright/chartwright/eval/ClassScore" := Fa149.wr W156
        have Fa158 : Fld Z h156 o0 "com/example/chartwright/chartwright/eval/ClassScore" "words" "J" (.long (wd + (1 : Int64))) := Fa150.other W156 (Or.inr (slot_ne (Or.inl (ww hw 28 rfl)) (Or.inl (ww hw 42 rfl)) (by decide) (t := .long) (t' := .long) (by decide) (by decide)))
        have Fa159 : Fld Z h156 o0 "com/example/chartwright/chartwright/eval/ClassScore" "correct" "J" (.long (ct + (0 : Int64))) := Fa151.other W156 (Or.inr (slot_ne (Or.inl (ww hw 26 rfl)) (Or.inl (ww hw 42 rfl)) (by decide) (t := .long) (t' := .long) (by decide) (by decide)))
        have Fa160 : Fld Z h156 o0 "com/example/chartwright/chartwright/eval/ClassScore" "predictedOut" "J" (.long (po + (0 : Int64))) := Fa152.other W156 (Or.inr (slot_ne (Or.inl (ww hw 19 rfl)) (Or.inl (ww hw 42 rfl)) (by decide) (t := .long) (t' := .long) (by decide) (by decide)))
        have Fa161 : Fld Z h156 o0 "com/example/chartwright/chartwright/eval/ClassScore" "goldOut" "J" (.long (gg + (1 : Int64))) := Fa154.other W156 (Or.inr (slot_ne (Or.inl (ww hw 49 rfl)) (Or.inl (ww hw 42 rfl)) (by decide) (t := .long) (t' := .long) (by decide) (by decide)))
        have Fa162 : Fld Z h156 o0 "com/example/chartwright/chartwright/eval/ClassScore" "correctOut" "J" (.long (co + (0 : Int64))) := Fa153.same W156
        refine go (u' := T156.setTop (mkF m 87 #[.val (.ref o0), .val (.int p1), .val (.int p2)] [])) st156 ?_
        rw [hG]
        refine g0 X156 hx hlk hret (hb hby d10_87) ?_ (Nat.le_of_ble_eq_true rfl) (Nat.le_of_ble_eq_true rfl)
        show Q_rm10 Z o0 p1 p2 wd ct po gg co h0 n0 (none) T156.heap _
        rw [e156]
        exact ⟨rfl, N156, K156, Fa157, Fa158, (own_Fto Fa159 (congrArg Value.long (show (ct + (0 : Int64)) = (if p1 = p2 then (ct + (1 : Int64)) else (ct + (0 : Int64))) from ((if_neg c17_1)).symm))), (own_Fto Fa160 (congrArg Value.long (show (po + (0 : Int64)) = (if p2 = (0 : Int32) then (po + (1 : Int64)) else (po + (0 : Int64))) from ((if_neg c35_5)).symm))), (own_Fto Fa161 (congrArg Value.long (show (gg + (1 : Int64)) = (if p1 = (0 : Int32) then (gg + (1 : Int64)) else (gg + (0 : Int64))) from ((if_pos c53_7)).symm))), (own_Fto Fa162 (congrArg Value.long (show (co + (0 : Int64)) = (if p2 = (0 : Int32) then (if p1 = (0 : Int32) then (co + (1 : Int64)) else (co + (0 : Int64))) else (co + (0 : Int64))) from ((if_neg c35_5)).symm)))⟩
      ·
        refine go (u' := T147.setTop (mkF m 56 #[.val (.ref o0), .val (.int p1), .val (.int p2)] [(.long gg), (.ref o0)])) (fun _ ks_ => XS.ifNo X147.here hx rfl (hb hby d10_53) rfl ((if0 _ _).trans (feq c53_7).1) ks_) ?_
        refine go (u' := T147.setTop (mkF m 57 #[.val (.ref o0), .val (.int p1), .val (.int p2)] [(.long (0 : Int64)), (.long gg), (.ref o0)])) (fun _ ks_ => XS.lconst X147.here hx rfl (hb hby d10_56) ks_) ?_
        refine go (u' := T147.setTop (mkF m 61 #[.val (.ref o0), .val (.int p1), .val (.int p2)] [(.long (0 : Int64)), (.long gg), (.ref o0)])) (fun _ ks_ => XS.goto X147.here hx rfl (pc0 := 57) (pc' := 61) rfl (hb hby d10_57) (by decide) (by decide) ks_) ?_
        refine go (u' := T147.setTop (mkF m 62 #[.val (.ref o0), .val (.int p1), .val (.int p2)] [(.long (gg + (0 : Int64))), (.ref o0)])) (fun _ ks_ => XS.ladd X147.here hx rfl (hb hby d10_61) rfl ks_) ?_
        obtain ⟨T163, h163, X163, e163, W163, st163⟩ := putF X147 hx hZ hown (host := "") (Or.inl (ww hw 48 rfl)) Via.refl e147 Fa144 Fa141 (Or.inl (ww hw 49 rfl)) (ww hw 1 rfl) (ty := .long) (by decide) rfl rfl (g := (mkF m 62 #[.val (.ref o0), .val (.int p1), .val (.int p2)] [(.long (gg + (0 : Int64))), (.ref o0)])) rfl rfl (hb hby d10_62)
        have N163 := Fr.snoc X163 N140 g_o0
        have K163 : Keep h0 h163 [o0] := K140.wr W163 (Or.inl (List.mem_of_getElem? (i := 0) rfl))
        have Z163 : n0 ≤ h163.size := Nat.le_trans Z140 (Keep.of_wr W163).1
        have Fa164 : Exa Z h163 o0 "com/example/chartwright/chartwright/eval/ClassScore" := Fa141.wr W163
        have Fa165 : Fld Z h163 o0 "com/example/chartwright/chartwright/eval/ClassScore" "words" "J" (.long (wd + (1 : Int64))) := Fa142.other W163 (Or.inr (slot_ne (Or.inl (ww hw 28 rfl)) (Or.inl (ww hw 49 rfl)) (by decide) (t := .long) (t' := .long) (by decide) (by decide)))
        have Fa166 : Fld Z h163 o0 "com/example/chartwright/chartwright/eval/ClassScore" "correct" "J" (.long (ct + (0 : Int64))) := Fa143.other W163 (Or.inr (slot_ne (Or.inl (ww hw 26 rfl)) (Or.inl (ww hw 49 rfl)) (by decide) (t := .long) (t' := .long) (by decide) (by decide)))
        have Fa167 : Fld Z h163 o0 "com/example/chartwright/chartwright/eval/ClassScore" "predictedOut" "J" (.long (po + (0 : Int64))) := Fa146.other W163 (Or.inr (slot_ne (Or.inl (ww hw 19 rfl)) (Or.inl (ww hw 49 rfl)) (by decide) (t := .long) (t' := .long) (by decide) (by decide)))
        have Fa168 : Fld Z h163 o0 "com/example/chartwright/chartwright/eval/ClassScore" "correctOut" "J" (.long co) := Fa145.other W163 (Or.inr (slot_ne (Or.inl (ww hw 42 rfl)) (Or.inl (ww hw 49 rfl)) (by decide) (t := .long) (t' := .long) (by decide) (by decide)))
        have Fa169 : Fld Z h163 o0 "com/example/chartwright/chartwright/eval/ClassScore" "goldOut" "J" (.long (gg + (0 : Int64))) := Fa144.same W163
        refine go (u' := T163.setTop (mkF m 65 #[.val (.ref o0), .val (.int p1), .val (.int p2)] [])) st163 ?_
        refine go (u' := T163.setTop (mkF m 66 #[.val (.ref o0), .val (.int p1), .val (.int p2)] [(.ref o0)])) (fun _ ks_ => XS.aloadN X163.here hx rfl (hb hby d10_65) rfl rfl ks_) ?_
        refine go (u' := T163.setTop (mkF m 67 #[.val (.ref o0), .val (.int p1), .val (.int p2)] [(.ref o0), (.ref o0)])) (fun _ ks_ => XS.dup X163.here hx rfl (hb hby d10_66) rfl rfl ks_) ?_
        obtain ⟨T170, X170, e170, st170⟩ := getF X163 hx hZ hown (host := "") (Or.inl (ww hw 41 rfl)) Via.refl e163 Fa168 (g := (mkF m 67 #[.val (.ref o0), .val (.int p1), .val (.int p2)] [(.ref o0), (.ref o0)])) rfl rfl (hb hby d10_67)
        refine go (u' := T170.setTop (mkF m 70 #[.val (.ref o0), .val (.int p1), .val (.int p2)] [(.long co), (.ref o0)])) st170 ?_
        refine go (u' := T170.setTop (mkF m 71 #[.val (.ref o0), .val (.int p1), .val (.int p2)] [(.int p1), (.long co), (.ref o0)])) (fun _ ks_ => XS.iloadN X170.here hx rfl (hb hby d10_70) rfl  ks_) ?_
        refine go (u' := T170.setTop (mkF m 82 #[.val (.ref o0), .val (.int p1), .val (.int p2)] [(.long co), (.ref o0)])) (fun _ ks_ => XS.ifYes X170.here hx rfl (pc0 := 71) (pc' := 82) rfl (hb hby d10_71) rfl ((if0 _ _).trans (feq c53_7).2) (by decide) (by decide) ks_) ?_
        refine go (u' := T170.setTop (mkF m 83 #[.val (.ref o0), .val (.int p1), .val (.int p2)] [(.long (0 : Int64)), (.long co), (.ref o0)])) (fun _ ks_ => XS.lconst X170.here hx rfl (hb hby d10_82) ks_) ?_
        refine go (u' := T170.setTop (mkF m 84 #[.val (.ref o0), .val (.int p1), .val (.int p2)] [(.long (co + (0 : Int64))), (.ref o0)])) (fun _ ks_ => XS.ladd X170.here hx rfl (hb hby d10_83) rfl ks_) ?_
        obtain ⟨T171, h171, X171, e171, W171, st171⟩ := putF X170 hx hZ hown (host := "") (Or.inl (ww hw 41 rfl)) Via.refl e170 Fa168 Fa164 (Or.inl (ww hw 42 rfl)) (ww hw 1 rfl) (ty := .long) (by decide) rfl rfl (g := (mkF m 84 #[.val (.ref o0), .val (.int p1), .val (.int p2)] [(.long (co + (0 : Int64))), (.ref o0)])) rfl rfl (hb hby d10_84)
        have N171 := Fr.snoc X171 N163 g_o0
        have K171 : Keep h0 h171 [o0] := K163.wr W171 (Or.inl (List.mem_of_getElem? (i := 0) rfl))
        have Z171 : n0 ≤ h171.size := Nat.le_trans Z163 (Keep.of_wr W171).1
        have Fa172 : Exa Z h171 o0 "com/example/chartwright/chartwright/eval/ClassScore" := Fa164.wr W171
        have Fa173 : Fld Z h171 o0 "com/example/chartwright/chartwright/eval/ClassScore" "words" "J" (.long (wd + (1 : Int64))) := Fa165.other W171 (Or.inr (slot_ne (Or.inl (ww hw 28 rfl)) (Or.inl (ww hw 42 rfl)) (by decide) (t := .long) (t' := .long) (by decide) (by decide)))
        have Fa174 : Fld Z h171 o0 "com/example/chartwright/chartwright/eval/ClassScore" "correct" "J" (.long (ct + (0 : Int64))) := Fa166.other W171 (Or.inr (slot_ne (Or.inl (ww hw 26 rfl)) (Or.inl (ww hw 42 rfl)) (by decide) (t := .long) (t' := .long) (by decide) (by decide)))
        have Fa175 : Fld Z h171 o0 "com/example/chartwright/chartwright/eval/ClassScore" "predictedOut" "J" (.long (po + (0 : Int64))) := Fa167.other W171 (Or.inr (slot_ne (Or.inl (ww hw 19 rfl)) (Or.inl (ww hw 42 rfl)) (by decide) (t := .long) (t' := .long) (by decide) (by decide)))
        have Fa176 : Fld Z h171 o0 "com/example/chartwright/chartwright/eval/ClassScore" "goldOut" "J" (.long (gg + (0 : Int64))) := Fa169.other W171 (Or.inr (slot_ne (Or.inl (ww hw 49 rfl)) (Or.inl (ww hw 42 rfl)) (by decide) (t := .long) (t' := .long) (by decide) (by decide)))
        have Fa177 : Fld Z h171 o0 "com/example/chartwright/chartwright/eval/ClassScore" "correctOut" "J" (.long (co + (0 : Int64))) := Fa168.same W171
        refine go (u' := T171.setTop (mkF m 87 #[.val (.ref o0), .val (.int p1), .val (.int p2)] [])) st171 ?_
        rw [hG]
        refine g0 X171 hx hlk hret (hb hby d10_87) ?_ (Nat.le_of_ble_eq_true rfl) (Nat.le_of_ble_eq_true rfl)
        show Q_rm10 Z o0 p1 p2 wd ct po gg co h0 n0 (none) T171.heap _
        rw [e171]
        exact ⟨rfl, N171, K171, Fa172, Fa173, (own_Fto Fa174 (congrArg Value.long (show (ct + (0 : Int64)) = (if p1 = p2 then (ct + (1 : Int64)) else (ct + (0 : Int64))) from ((if_neg c17_1)).symm))), (own_Fto Fa175 (congrArg Value.long (show (po + (0 : Int64)) = (if p2 = (0 : Int32) then (po + (1 : Int64)) else (po + (0 : Int64))) from ((if_neg c35_5)).symm))), (own_Fto Fa176 (congrArg Value.long (show (gg + (0 : Int64)) = (if p1 = (0 : Int32) then (gg + (1 : Int64)) else (gg + (0 : Int64))) from ((if_neg c53_7)).symm))), (own_Fto Fa177 (congrArg Value.long (show (co + (0 : Int64)) = (if p2 = (0 : Int32) then (if p1 = (0 : Int32) then (co + (1 : Int64)) else (co + (0 : Int64))) else (co + (0 : Int64))) from ((if_neg c35_5)).symm)))⟩
theorem pn_com_example_chartwright_chartwright_eval_ClassScoreAddPinLaw_on_3 : plainFor (⟨"com/example/chartwright/chartwright/eval/ClassScoreAddPinLaw", "on", "(ZZ)J"⟩ : MethodName) = true := by first | exact plainFor_of_name (by first | (simp [plainName, overriddenIn]; done) | decide +kernel) | decide +kernel
def Q_rm3 (Z : State) (p0 : Int32) (p1 : Int32) (h0 : Heap) (n0 : Nat) (v : Option Value) (h : Heap) (L : List Loc) : Prop := v = some (.long (own_on p0 p1)) ∧ Fr n0 L ∧ h = h0
set_option maxRecDepth 65536 in
set_option maxHeartbeats 4000000 in
theorem ef_rm3 (m : MethodId) (p0 : Int32) (p1 : Int32) : entryFrame m #[(.int p0), (.int p1)] 2 = mkF m 0 #[.val (.int p0), .val (.int p1)] [] := by first | (simp [entryFrame, mkF, argsToLocals, Value.category, maxLocals]; done) | rfl
theorem d3_0 : decode method_3_code 0 = .ok (.iload_n 0, 1) := by decide +kernel
theorem d3_1 : decode method_3_code 1 = .ok (.ifCond .eq 11, 3) := by decide +kernel
theorem d3_4 : decode method_3_code 4 = .ok (.iload_n 1, 1) := by decide +kernel
theorem d3_5 : decode method_3_code 5 = .ok (.ifCond .eq 7, 3) := by decide +kernel
theorem d3_8 : decode method_3_code 8 = .ok (.lconst 1, 1) := by decide +kernel
theorem d3_9 : decode method_3_code 9 = .ok (.goto 4, 3) := by decide +kernel
theorem d3_12 : decode method_3_code 12 = .ok (.lconst 0, 1) := by decide +kernel
theorem d3_13 : decode method_3_code 13 = .ok (.lreturn, 1) := by decide +kernel
set_option maxRecDepth 65536 in
set_option maxHeartbeats 40000000 in
theorem rm3 (l : Launch) (Z : State) (a0 : Array Value) (hw : ∀ d ∈ tables_1, d.before a0 Z = true) (ws : List Jvm.Cond) (p0 : Int32) (p1 : Int32) (h0 : Heap) (n0 : Nat) (Z0 : n0 ≤ h0.size)  :
    MetFree l (⟨"com/example/chartwright/chartwright/eval/ClassScoreAddPinLaw", "on", "(ZZ)J"⟩ : MethodName) (head1 (Jvm.Cond.code (⟨"com/example/chartwright/chartwright/eval/ClassScoreAddPinLaw", "on", "(ZZ)J"⟩ : MethodName) method_3_code 2 (some .long) :: ws) ({ frames := 0, cells := 0, slots := 0, locals := 0 } : Room)) (fun a U => a = #[(.int p0), (.int p1)] ∧ Z.Warmed39 U.vm ∧ U.heap = h0) (fun _ _ _ _ _ => True) (fun _ U o U' => ∃ v L, o = .returned v ∧ Q_rm3 Z p0 p1 h0 n0 v U'.heap L ∧ FrameEnd U o U' L ({ frames := 0, cells := 0, slots := 0, locals := 0 } : Room).cells ({ frames := 0, cells := 0, slots := 0, locals := 0 } : Room).slots) := by
  refine body pn_com_example_chartwright_chartwright_eval_ClassScoreAddPinLaw_on_3 ?_
  intro p e s m below meth c s₁ hx hby hml hown hnm hret hlk hZ e0 X0
  replace hml : c.maxLocals = 2 := hml
  replace hown : s.vm.findClass "com/example/chartwright/chartwright/eval/ClassScoreAddPinLaw" = some m.cls := hown
  replace hnm : meth.name = "on" := hnm
  replace hret : meth.sig.returnType = (some .long) := hret
  have N0 := Fr.nil n0
  rw [ef_rm3]
  obtain ⟨G, hG⟩ : ∃ G, G = End (Q_rm3 Z p0 p1 h0 n0) s ({ frames := 0, cells := 0, slots := 0, locals := 0 } : Room).cells ({ frames := 0, cells := 0, slots := 0, locals := 0 } : Room).slots := ⟨_, rfl⟩
  rw [← hG]
  refine go (u' := s₁.setTop (mkF m 1 #[.val (.int p0), .val (.int p1)] [(.int p0)])) (fun _ ks_ => XS.iloadN X0.here hx rfl (hb hby d3_0) rfl  ks_) ?_
  by_cases c1_1 : p0 = (0 : Int32)
  ·
    refine go (u' := s₁.setTop (mkF m 12 #[.val (.int p0), .val (.int p1)] [])) (fun _ ks_ => XS.ifYes X0.here hx rfl (pc0 := 1) (pc' := 12) rfl (hb hby d3_1) rfl ((if0 _ _).trans (teq c1_1).1) (by decide) (by decide) ks_) ?_
    refine go (u' := s₁.setTop (mkF m 13 #[.val (.int p0), .val (.int p1)] [(.long (0 : Int64))])) (fun _ ks_ => XS.lconst X0.here hx rfl (hb hby d3_12) ks_) ?_
    rw [hG]
    refine gJ X0 hx hlk hret (hb hby d3_13) ?_ (Nat.le_of_ble_eq_true rfl) (Nat.le_of_ble_eq_true rfl)
    show Q_rm3 Z p0 p1 h0 n0 (some (.long (0 : Int64))) s₁.heap _
    rw [e0]
    exact ⟨congrArg (fun z => some (Value.long z)) ((if_pos c1_1)).symm, N0, rfl⟩
  ·
    refine go (u' := s₁.setTop (mkF m 4 #[.val (.int p0), .val (.int p1)] [])) (fun _ ks_ => XS.ifNo X0.here hx rfl (hb hby d3_1) rfl ((if0 _ _).trans (feq c1_1).1) ks_) ?_
    refine go (u' := s₁.setTop (mkF m 5 #[.val (.int p0), .val (.int p1)] [(.int p1)])) (fun _ ks_ => XS.iloadN X0.here hx rfl (hb hby d3_4) rfl  ks_) ?_
    by_cases c5_2 : p1 = (0 : Int32)
    ·
      refine go (u' := s₁.setTop (mkF m 12 #[.val (.int p0), .val (.int p1)] [])) (fun _ ks_ => XS.ifYes X0.here hx rfl (pc0 := 5) (pc' := 12) rfl (hb hby d3_5) rfl ((if0 _ _).trans (teq c5_2).1) (by decide) (by decide) ks_) ?_
      refine go (u' := s₁.setTop (mkF m 13 #[.val (.int p0), .val (.int p1)] [(.long (0 : Int64))])) (fun _ ks_ => XS.lconst X0.here hx rfl (hb hby d3_12) ks_) ?_
      rw [hG]
      refine gJ X0 hx hlk hret (hb hby d3_13) ?_ (Nat.le_of_ble_eq_true rfl) (Nat.le_of_ble_eq_true rfl)
      show Q_rm3 Z p0 p1 h0 n0 (some (.long (0 : Int64))) s₁.heap _
      rw [e0]
      exact ⟨congrArg (fun z => some (Value.long z)) (((if_neg c1_1).trans (if_pos c5_2))).symm, N0, rfl⟩
    ·
      refine go (u' := s₁.setTop (mkF m 8 #[.val (.int p0), .val (.int p1)] [])) (fun _ ks_ => XS.ifNo X0.here hx rfl (hb hby d3_5) rfl ((if0 _ _).trans (feq c5_2).1) ks_) ?_
      refine go (u' := s₁.setTop (mkF m 9 #[.val (.int p0), .val (.int p1)] [(.long (1 : Int64))])) (fun _ ks_ => XS.lconst X0.here hx rfl (hb hby d3_8) ks_) ?_
      refine go (u' := s₁.setTop (mkF m 13 #[.val (.int p0), .val (.int p1)] [(.long (1 : Int64))])) (fun _ ks_ => XS.goto X0.here hx rfl (pc0 := 9) (pc' := 13) rfl (hb hby d3_9) (by decide) (by decide) ks_) ?_
      rw [hG]
      refine gJ X0 hx hlk hret (hb hby d3_13) ?_ (Nat.le_of_ble_eq_true rfl) (Nat.le_of_ble_eq_true rfl)
      show Q_rm3 Z p0 p1 h0 n0 (some (.long (1 : Int64))) s₁.heap _
      rw [e0]
      exact ⟨congrArg (fun z => some (Value.long z)) (((if_neg c1_1).trans (if_neg c5_2))).symm, N0, rfl⟩
theorem pn_com_example_chartwright_chartwright_eval_Totals_percent_6 : plainFor (⟨"com/example/chartwright/chartwright/eval/Totals", "percent", "(JJ)D"⟩ : MethodName) = true := by first | exact plainFor_of_name (by first | (simp [plainName, overriddenIn]; done) | decide +kernel) | decide +kernel
def Q_rm6 (Z : State) (q0 : Int64) (q1 : Int64) (h0 : Heap) (n0 : Nat) (v : Option Value) (h : Heap) (L : List Loc) : Prop := v = some (.double (own_pct q0 q1)) ∧ Fr n0 L ∧ h = h0
set_option maxRecDepth 65536 in
set_option maxHeartbeats 4000000 in
theorem ef_rm6 (m : MethodId) (q0 : Int64) (q1 : Int64) : entryFrame m #[(.long q0), (.long q1)] 4 = mkF m 0 #[.val (.long q0), .second, .val (.long q1), .second] [] := by first | (simp [entryFrame, mkF, argsToLocals, Value.category, maxLocals]; done) | rfl
theorem d6_0 : decode prog_22_method_15_code 0 = .ok (.lload_n 2, 1) := by decide +kernel
theorem d6_1 : decode prog_22_method_15_code 1 = .ok (.lconst 0, 1) := by decide +kernel
theorem d6_2 : decode prog_22_method_15_code 2 = .ok (.lcmp, 1) := by decide +kernel
theorem d6_3 : decode prog_22_method_15_code 3 = .ok (.ifCond .ne 7, 3) := by decide +kernel
theorem d6_6 : decode prog_22_method_15_code 6 = .ok (.dconst 0, 1) := by decide +kernel
theorem d6_7 : decode prog_22_method_15_code 7 = .ok (.goto 12, 3) := by decide +kernel
theorem d6_10 : decode prog_22_method_15_code 10 = .ok (.ldc2_w 57, 3) := by decide +kernel
theorem d6_13 : decode prog_22_method_15_code 13 = .ok (.lload_n 0, 1) := by decide +kernel
theorem d6_14 : decode prog_22_method_15_code 14 = .ok (.l2d, 1) := by decide +kernel
theorem d6_15 : decode prog_22_method_15_code 15 = .ok (.dmul, 1) := by decide +kernel
theorem d6_16 : decode prog_22_method_15_code 16 = .ok (.lload_n 2, 1) := by decide +kernel
theorem d6_17 : decode prog_22_method_15_code 17 = .ok (.l2d, 1) := by decide +kernel
theorem d6_18 : decode prog_22_method_15_code 18 = .ok (.ddiv, 1) := by decide +kernel
theorem d6_19 : decode prog_22_method_15_code 19 = .ok (.dreturn, 1) := by decide +kernel
set_option maxRecDepth 65536 in
set_option maxHeartbeats 40000000 in
theorem rm6 (l : Launch) (Z : State) (a0 : Array Value) (hw : ∀ d ∈ tables_1, d.before a0 Z = true) (ws : List Jvm.Cond) (q0 : Int64) (q1 : Int64) (h0 : Heap) (n0 : Nat) (Z0 : n0 ≤ h0.size)  :
    MetFree l (⟨"com/example/chartwright/chartwright/eval/Totals", "percent", "(JJ)D"⟩ : MethodName) (head1 (Jvm.Cond.code (⟨"com/example/chartwright/chartwright/eval/Totals", "percent", "(JJ)D"⟩ : MethodName) prog_22_method_15_code 4 (some .double) :: ws) ({ frames := 0, cells := 0, slots := 0, locals := 0 } : Room)) (fun a U => a = #[(.long q0), (.long q1)] ∧ Z.Warmed39 U.vm ∧ U.heap = h0) (fun _ _ _ _ _ => True) (fun _ U o U' => ∃ v L, o = .returned v ∧ Q_rm6 Z q0 q1 h0 n0 v U'.heap L ∧ FrameEnd U o U' L ({ frames := 0, cells := 0, slots := 0, locals := 0 } : Room).cells ({ frames := 0, cells := 0, slots := 0, locals := 0 } : Room).slots) := by
  refine body pn_com_example_chartwright_chartwright_eval_Totals_percent_6 ?_
  intro p e s m below meth c s₁ hx hby hml hown hnm hret hlk hZ e0 X0
  replace hml : c.maxLocals = 4 := hml
  replace hown : s.vm.findClass "com/example/chartwright/chartwright/eval/Totals" = some m.cls := hown
  replace hnm : meth.name = "percent" := hnm
  replace hret : meth.sig.returnType = (some .double) := hret
  have N0 := Fr.nil n0
  rw [ef_rm6]
  obtain ⟨G, hG⟩ : ∃ G, G = End (Q_rm6 Z q0 q1 h0 n0) s ({ frames := 0, cells := 0, slots := 0, locals := 0 } : Room).cells ({ frames := 0, cells := 0, slots := 0, locals := 0 } : Room).slots := ⟨_, rfl⟩
  rw [← hG]
  refine go (u' := s₁.setTop (mkF m 1 #[.val (.long q0), .second, .val (.long q1), .second] [(.long q1)])) (fun _ ks_ => XS.lloadN X0.here hx rfl (hb hby d6_0) rfl  ks_) ?_
  refine go (u' := s₁.setTop (mkF m 2 #[.val (.long q0), .second, .val (.long q1), .second] [(.long (0 : Int64)), (.long q1)])) (fun _ ks_ => XS.lconst X0.here hx rfl (hb hby d6_1) ks_) ?_
  refine go (u' := s₁.setTop (mkF m 3 #[.val (.long q0), .second, .val (.long q1), .second] [(.int (lcmpW q1 (0 : Int64)))])) (fun _ ks_ => XS.lcmp X0.here hx rfl (hb hby d6_2) rfl ks_) ?_
  by_cases c3_1 : q1 = (0 : Int64)
  ·
    refine go (u' := s₁.setTop (mkF m 6 #[.val (.long q0), .second, .val (.long q1), .second] [])) (fun _ ks_ => XS.ifNo X0.here hx rfl (hb hby d6_3) rfl (lTe c3_1).2 ks_) ?_
    refine go (u' := s₁.setTop (mkF m 7 #[.val (.long q0), .second, .val (.long q1), .second] [(.double (0 : UInt64))])) (fun _ ks_ => own_dconst0 X0.here hx rfl (hb hby d6_6) ks_) ?_
    refine go (u' := s₁.setTop (mkF m 19 #[.val (.long q0), .second, .val (.long q1), .second] [(.double (0 : UInt64))])) (fun _ ks_ => XS.goto X0.here hx rfl (pc0 := 7) (pc' := 19) rfl (hb hby d6_7) (by decide) (by decide) ks_) ?_
    rw [hG]
    refine gD X0 hx hlk hret (hb hby d6_19) ?_ (Nat.le_of_ble_eq_true rfl) (Nat.le_of_ble_eq_true rfl)
    show Q_rm6 Z q0 q1 h0 n0 (some (.double (0 : UInt64))) s₁.heap _
    rw [e0]
    exact ⟨congrArg (fun z => some (Value.double z)) ((if_pos c3_1)).symm, N0, rfl⟩
  ·
    refine go (u' := s₁.setTop (mkF m 10 #[.val (.long q0), .second, .val (.long q1), .second] [])) (fun _ ks_ => XS.ifYes X0.here hx rfl (pc0 := 3) (pc' := 10) rfl (hb hby d6_3) rfl (lFe c3_1).2 (by decide) (by decide) ks_) ?_
    refine go (u' := s₁.setTop (mkF m 13 #[.val (.long q0), .second, .val (.long q1), .second] [(.double (4636737291354636288 : UInt64))])) (X0.ldc2DoubleC hx hown (mvT hZ (ww hw 55 rfl)) (g := (mkF m 10 #[.val (.long q0), .second, .val (.long q1), .second] [])) rfl (hb hby d6_10)) ?_
    refine go (u' := s₁.setTop (mkF m 14 #[.val (.long q0), .second, .val (.long q1), .second] [(.long q0), (.double (4636737291354636288 : UInt64))])) (fun _ ks_ => XS.lloadN X0.here hx rfl (hb hby d6_13) rfl  ks_) ?_
    refine go (u' := s₁.setTop (mkF m 15 #[.val (.long q0), .second, .val (.long q1), .second] [(.double (FP.l2d q0)), (.double (4636737291354636288 : UInt64))])) (fun _ ks_ => own_l2d X0.here hx rfl (hb hby d6_14) rfl ks_) ?_
    refine go (u' := s₁.setTop (mkF m 16 #[.val (.long q0), .second, .val (.long q1), .second] [(.double (FP.dmul (4636737291354636288 : UInt64) (FP.l2d q0)))])) (fun _ ks_ => own_dmul X0.here hx rfl (hb hby d6_15) rfl (own_nm q0) ks_) ?_
    refine go (u' := s₁.setTop (mkF m 17 #[.val (.long q0), .second, .val (.long q1), .second] [(.long q1), (.double (FP.dmul (4636737291354636288 : UInt64) (FP.l2d q0)))])) (fun _ ks_ => XS.lloadN X0.here hx rfl (hb hby d6_16) rfl  ks_) ?_
    refine go (u' := s₁.setTop (mkF m 18 #[.val (.long q0), .second, .val (.long q1), .second] [(.double (FP.l2d q1)), (.double (FP.dmul (4636737291354636288 : UInt64) (FP.l2d q0)))])) (fun _ ks_ => own_l2d X0.here hx rfl (hb hby d6_17) rfl ks_) ?_
    refine go (u' := s₁.setTop (mkF m 19 #[.val (.long q0), .second, .val (.long q1), .second] [(.double (FP.ddiv (FP.dmul (4636737291354636288 : UInt64) (FP.l2d q0)) (FP.l2d q1)))])) (fun _ ks_ => own_ddiv X0.here hx rfl (hb hby d6_18) rfl (own_nd q0 q1 c3_1) ks_) ?_
    rw [hG]
    refine gD X0 hx hlk hret (hb hby d6_19) ?_ (Nat.le_of_ble_eq_true rfl) (Nat.le_of_ble_eq_true rfl)
    show Q_rm6 Z q0 q1 h0 n0 (some (.double (FP.ddiv (FP.dmul (4636737291354636288 : UInt64) (FP.l2d q0)) (FP.l2d q1)))) s₁.heap _
    rw [e0]
    exact ⟨congrArg (fun z => some (Value.double z)) ((if_neg c3_1)).symm, N0, rfl⟩
theorem pn_com_example_chartwright_chartwright_eval_ClassScoreAddPinLaw_pct_7 : plainFor (⟨"com/example/chartwright/chartwright/eval/ClassScoreAddPinLaw", "pct", "(JJ)D"⟩ : MethodName) = true := by first | exact plainFor_of_name (by first | (simp [plainName, overriddenIn]; done) | decide +kernel) | decide +kernel
def Q_rm7 (Z : State) (q0 : Int64) (q1 : Int64) (h0 : Heap) (n0 : Nat) (v : Option Value) (h : Heap) (L : List Loc) : Prop := v = some (.double (own_pct q0 q1)) ∧ Fr n0 L ∧ h = h0
set_option maxRecDepth 65536 in
set_option maxHeartbeats 4000000 in
theorem ef_rm7 (m : MethodId) (q0 : Int64) (q1 : Int64) : entryFrame m #[(.long q0), (.long q1)] 4 = mkF m 0 #[.val (.long q0), .second, .val (.long q1), .second] [] := by first | (simp [entryFrame, mkF, argsToLocals, Value.category, maxLocals]; done) | rfl
theorem d7_0 : decode method_4_code 0 = .ok (.lload_n 2, 1) := by decide +kernel
theorem d7_1 : decode method_4_code 1 = .ok (.lconst 0, 1) := by decide +kernel
theorem d7_2 : decode method_4_code 2 = .ok (.lcmp, 1) := by decide +kernel
theorem d7_3 : decode method_4_code 3 = .ok (.ifCond .ne 5, 3) := by decide +kernel
theorem d7_6 : decode method_4_code 6 = .ok (.dconst 0, 1) := by decide +kernel
theorem d7_7 : decode method_4_code 7 = .ok (.dreturn, 1) := by decide +kernel
theorem d7_8 : decode method_4_code 8 = .ok (.ldc2_w 38, 3) := by decide +kernel
theorem d7_11 : decode method_4_code 11 = .ok (.lload_n 0, 1) := by decide +kernel
theorem d7_12 : decode method_4_code 12 = .ok (.l2d, 1) := by decide +kernel
theorem d7_13 : decode method_4_code 13 = .ok (.dmul, 1) := by decide +kernel
theorem d7_14 : decode method_4_code 14 = .ok (.lload_n 2, 1) := by decide +kernel
theorem d7_15 : decode method_4_code 15 = .ok (.l2d, 1) := by decide +kernel
theorem d7_16 : decode method_4_code 16 = .ok (.ddiv, 1) := by decide +kernel
theorem d7_17 : decode method_4_code 17 = .ok (.dreturn, 1) := by decide +kernel
set_option maxRecDepth 65536 in
set_option maxHeartbeats 40000000 in
theorem rm7 (l : Launch) (Z : State) (a0 : Array Value) (hw : ∀ d ∈ tables_1, d.before a0 Z = true) (ws : List Jvm.Cond) (q0 : Int64) (q1 : Int64) (h0 : Heap) (n0 : Nat) (Z0 : n0 ≤ h0.size)  :
    MetFree l (⟨"com/example/chartwright/chartwright/eval/ClassScoreAddPinLaw", "pct", "(JJ)D"⟩ : MethodName) (head1 (Jvm.Cond.code (⟨"com/example/chartwright/chartwright/eval/ClassScoreAddPinLaw", "pct", "(JJ)D"⟩ : MethodName) method_4_code 4 (some .double) :: ws) ({ frames := 0, cells := 0, slots := 0, locals := 0 } : Room)) (fun a U => a = #[(.long q0), (.long q1)] ∧ Z.Warmed39 U.vm ∧ U.heap = h0) (fun _ _ _ _ _ => True) (fun _ U o U' => ∃ v L, o = .returned v ∧ Q_rm7 Z q0 q1 h0 n0 v U'.heap L ∧ FrameEnd U o U' L ({ frames := 0, cells := 0, slots := 0, locals := 0 } : Room).cells ({ frames := 0, cells := 0, slots := 0, locals := 0 } : Room).slots) := by
  refine body pn_com_example_chartwright_chartwright_eval_ClassScoreAddPinLaw_pct_7 ?_
  intro p e s m below meth c s₁ hx hby hml hown hnm hret hlk hZ e0 X0
  replace hml : c.maxLocals = 4 := hml
  replace hown : s.vm.findClass "com/example/chartwright/chartwright/eval/ClassScoreAddPinLaw" = some m.cls := hown
  replace hnm : meth.name = "pct" := hnm
  replace hret : meth.sig.returnType = (some .double) := hret
  have N0 := Fr.nil n0
  rw [ef_rm7]
  obtain ⟨G, hG⟩ : ∃ G, G = End (Q_rm7 Z q0 q1 h0 n0) s ({ frames := 0, cells := 0, slots := 0, locals := 0 } : Room).cells ({ frames := 0, cells := 0, slots := 0, locals := 0 } : Room).slots := ⟨_, rfl⟩
  rw [← hG]
  refine go (u' := s₁.setTop (mkF m 1 #[.val (.long q0), .second, .val (.long q1), .second] [(.long q1)])) (fun _ ks_ => XS.lloadN X0.here hx rfl (hb hby d7_0) rfl  ks_) ?_
  refine go (u' := s₁.setTop (mkF m 2 #[.val (.long q0), .second, .val (.long q1), .second] [(.long (0 : Int64)), (.long q1)])) (fun _ ks_ => XS.lconst X0.here hx rfl (hb hby d7_1) ks_) ?_
  refine go (u' := s₁.setTop (mkF m 3 #[.val (.long q0), .second, .val (.long q1), .second] [(.int (lcmpW q1 (0 : Int64)))])) (fun _ ks_ => XS.lcmp X0.here hx rfl (hb hby d7_2) rfl ks_) ?_
  by_cases c3_1 : q1 = (0 : Int64)
  ·
    refine go (u' := s₁.setTop (mkF m 6 #[.val (.long q0), .second, .val (.long q1), .second] [])) (fun _ ks_ => XS.ifNo X0.here hx rfl (hb hby d7_3) rfl (lTe c3_1).2 ks_) ?_
    refine go (u' := s₁.setTop (mkF m 7 #[.val (.long q0), .second, .val (.long q1), .second] [(.double (0 : UInt64))])) (fun _ ks_ => own_dconst0 X0.here hx rfl (hb hby d7_6) ks_) ?_
    rw [hG]
    refine gD X0 hx hlk hret (hb hby d7_7) ?_ (Nat.le_of_ble_eq_true rfl) (Nat.le_of_ble_eq_true rfl)
    show Q_rm7 Z q0 q1 h0 n0 (some (.double (0 : UInt64))) s₁.heap _
    rw [e0]
    exact ⟨congrArg (fun z => some (Value.double z)) ((if_pos c3_1)).symm, N0, rfl⟩
  ·
    refine go (u' := s₁.setTop (mkF m 8 #[.val (.long q0), .second, .val (.long q1), .second] [])) (fun _ ks_ => XS.ifYes X0.here hx rfl (pc0 := 3) (pc' := 8) rfl (hb hby d7_3) rfl (lFe c3_1).2 (by decide) (by decide) ks_) ?_
    refine go (u' := s₁.setTop (mkF m 11 #[.val (.long q0), .second, .val (.long q1), .second] [(.double (4636737291354636288 : UInt64))])) (X0.ldc2DoubleC hx hown (mvT hZ (ww hw 56 rfl)) (g := (mkF m 8 #[.val (.long q0), .second, .val (.long q1), .second] [])) rfl (hb hby d7_8)) ?_
    refine go (u' := s₁.setTop (mkF m 12 #[.val (.long q0), .second, .val (.long q1), .second] [(.long q0), (.double (4636737291354636288 : UInt64))])) (fun _ ks_ => XS.lloadN X0.here hx rfl (hb hby d7_11) rfl  ks_) ?_
    refine go (u' := s₁.setTop (mkF m 13 #[.val (.long q0), .second, .val (.long q1), .second] [(.double (FP.l2d q0)), (.double (4636737291354636288 : UInt64))])) (fun _ ks_ => own_l2d X0.here hx rfl (hb hby d7_12) rfl ks_) ?_
    refine go (u' := s₁.setTop (mkF m 14 #[.val (.long q0), .second, .val (.long q1), .second] [(.double (FP.dmul (4636737291354636288 : UInt64) (FP.l2d q0)))])) (fun _ ks_ => own_dmul X0.here hx rfl (hb hby d7_13) rfl (own_nm q0) ks_) ?_
    refine go (u' := s₁.setTop (mkF m 15 #[.val (.long q0), .second, .val (.long q1), .second] [(.long q1), (.double (FP.dmul (4636737291354636288 : UInt64) (FP.l2d q0)))])) (fun _ ks_ => XS.lloadN X0.here hx rfl (hb hby d7_14) rfl  ks_) ?_
    refine go (u' := s₁.setTop (mkF m 16 #[.val (.long q0), .second, .val (.long q1), .second] [(.double (FP.l2d q1)), (.double (FP.dmul (4636737291354636288 : UInt64) (FP.l2d q0)))])) (fun _ ks_ => own_l2d X0.here hx rfl (hb hby d7_15) rfl ks_) ?_
    refine go (u' := s₁.setTop (mkF m 17 #[.val (.long q0), .second, .val (.long q1), .second] [(.double (FP.ddiv (FP.dmul (4636737291354636288 : UInt64) (FP.l2d q0)) (FP.l2d q1)))])) (fun _ ks_ => own_ddiv X0.here hx rfl (hb hby d7_16) rfl (own_nd q0 q1 c3_1) ks_) ?_
    rw [hG]
    refine gD X0 hx hlk hret (hb hby d7_17) ?_ (Nat.le_of_ble_eq_true rfl) (Nat.le_of_ble_eq_true rfl)
    show Q_rm7 Z q0 q1 h0 n0 (some (.double (FP.ddiv (FP.dmul (4636737291354636288 : UInt64) (FP.l2d q0)) (FP.l2d q1)))) s₁.heap _
    rw [e0]
    exact ⟨congrArg (fun z => some (Value.double z)) ((if_neg c3_1)).symm, N0, rfl⟩
theorem pn_com_example_chartwright_chartwright_eval_ClassScore_predictedOut_4 : plainFor (⟨"com/example/chartwright/chartwright/eval/ClassScore", "predictedOut", "()J"⟩ : MethodName) = true := by first | exact plainFor_of_name (by first | (simp [plainName, overriddenIn]; done) | decide +kernel) | decide +kernel
def Q_rm4 (Z : State) (o0 : Addr) (po : Int64) (h0 : Heap) (n0 : Nat) (v : Option Value) (h : Heap) (L : List Loc) : Prop := v = some (.long po) ∧ Fr n0 L ∧ h = h0
set_option maxRecDepth 65536 in
set_option maxHeartbeats 4000000 in
theorem ef_rm4 (m : MethodId) (o0 : Addr) : entryFrame m #[(.ref o0)] 1 = mkF m 0 #[.val (.ref o0)] [] := by first | (simp [entryFrame, mkF, argsToLocals, Value.category, maxLocals]; done) | rfl
theorem d4_0 : decode prog_17_method_3_code 0 = .ok (.aload_n 0, 1) := by decide +kernel
theorem d4_1 : decode prog_17_method_3_code 1 = .ok (.getfield 16, 3) := by decide +kernel
theorem d4_4 : decode prog_17_method_3_code 4 = .ok (.lreturn, 1) := by decide +kernel
set_option maxRecDepth 65536 in
set_option maxHeartbeats 40000000 in
theorem rm4 (l : Launch) (Z : State) (a0 : Array Value) (hw : ∀ d ∈ tables_1, d.before a0 Z = true) (ws : List Jvm.Cond) (o0 : Addr) (po : Int64) (h0 : Heap) (n0 : Nat) (Z0 : n0 ≤ h0.size) (F0 : Fld Z h0 o0 "com/example/chartwright/chartwright/eval/ClassScore" "predictedOut" "J" (.long po)) :
    MetFree l (⟨"com/example/chartwright/chartwright/eval/ClassScore", "predictedOut", "()J"⟩ : MethodName) (head1 (Jvm.Cond.code (⟨"com/example/chartwright/chartwright/eval/ClassScore", "predictedOut", "()J"⟩ : MethodName) prog_17_method_3_code 1 (some .long) :: ws) ({ frames := 0, cells := 0, slots := 0, locals := 0 } : Room)) (fun a U => a = #[(.ref o0)] ∧ Z.Warmed39 U.vm ∧ U.heap = h0) (fun _ _ _ _ _ => True) (fun _ U o U' => ∃ v L, o = .returned v ∧ Q_rm4 Z o0 po h0 n0 v U'.heap L ∧ FrameEnd U o U' L ({ frames := 0, cells := 0, slots := 0, locals := 0 } : Room).cells ({ frames := 0, cells := 0, slots := 0, locals := 0 } : Room).slots) := by
  refine body pn_com_example_chartwright_chartwright_eval_ClassScore_predictedOut_4 ?_
  intro p e s m below meth c s₁ hx hby hml hown hnm hret hlk hZ e0 X0
  replace hml : c.maxLocals = 1 := hml
  replace hown : s.vm.findClass "com/example/chartwright/chartwright/eval/ClassScore" = some m.cls := hown
  replace hnm : meth.name = "predictedOut" := hnm
  replace hret : meth.sig.returnType = (some .long) := hret
  have N0 := Fr.nil n0
  rw [ef_rm4]
  obtain ⟨G, hG⟩ : ∃ G, G = End (Q_rm4 Z o0 po h0 n0) s ({ frames := 0, cells := 0, slots := 0, locals := 0 } : Room).cells ({ frames := 0, cells := 0, slots := 0, locals := 0 } : Room).slots := ⟨_, rfl⟩
  rw [← hG]
  refine go (u' := s₁.setTop (mkF m 1 #[.val (.ref o0)] [(.ref o0)])) (fun _ ks_ => XS.aloadN X0.here hx rfl (hb hby d4_0) rfl rfl ks_) ?_
  obtain ⟨T1, X1, e1, st1⟩ := getF X0 hx hZ hown (host := "") (Or.inl (ww hw 18 rfl)) Via.refl e0 F0 (g := (mkF m 1 #[.val (.ref o0)] [(.ref o0)])) rfl rfl (hb hby d4_1)
  refine go (u' := T1.setTop (mkF m 4 #[.val (.ref o0)] [(.long po)])) st1 ?_
  rw [hG]
  refine gJ X1 hx hlk hret (hb hby d4_4) ?_ (Nat.le_of_ble_eq_true rfl) (Nat.le_of_ble_eq_true rfl)
  show Q_rm4 Z o0 po h0 n0 (some (.long po)) T1.heap _
  rw [e1]
  exact ⟨rfl, N0, rfl⟩
theorem pd__40_JJ_41_D : parseMethodDescriptor "(JJ)D" = some ⟨[.long, .long], some .double⟩ := by decide +kernel
theorem pn_com_example_chartwright_chartwright_eval_ClassScore_accuracy_5 : plainFor (⟨"com/example/chartwright/chartwright/eval/ClassScore", "accuracy", "()D"⟩ : MethodName) = true := by first | exact plainFor_of_name (by first | (simp [plainName, overriddenIn]; done) | decide +kernel) | decide +kernel
def Q_rm5 (Z : State) (o0 : Addr) (ct : Int64) (wd : Int64) (h0 : Heap) (n0 : Nat) (v : Option Value) (h : Heap) (L : List Loc) : Prop := v = some (.double (own_pct ct wd)) ∧ Fr n0 L ∧ h = h0
set_option maxRecDepth 65536 in
set_option maxHeartbeats 4000000 in
theorem ef_rm5 (m : MethodId) (o0 : Addr) : entryFrame m #[(.ref o0)] 1 = mkF m 0 #[.val (.ref o0)] [] := by first | (simp [entryFrame, mkF, argsToLocals, Value.category, maxLocals]; done) | rfl
theorem d5_0 : decode prog_17_method_4_code 0 = .ok (.aload_n 0, 1) := by decide +kernel
theorem d5_1 : decode prog_17_method_4_code 1 = .ok (.getfield 13, 3) := by decide +kernel
theorem d5_4 : decode prog_17_method_4_code 4 = .ok (.aload_n 0, 1) := by decide +kernel
theorem d5_5 : decode prog_17_method_4_code 5 = .ok (.getfield 7, 3) := by decide +kernel
theorem d5_8 : decode prog_17_method_4_code 8 = .ok (.invokestatic 25, 3) := by decide +kernel
theorem d5_11 : decode prog_17_method_4_code 11 = .ok (.dreturn, 1) := by decide +kernel
set_option maxRecDepth 65536 in
set_option maxHeartbeats 40000000 in
theorem rm5 (l : Launch) (Z : State) (a0 : Array Value) (hw : ∀ d ∈ tables_1, d.before a0 Z = true) (ws : List Jvm.Cond) (o0 : Addr) (ct : Int64) (wd : Int64) (h0 : Heap) (n0 : Nat) (Z0 : n0 ≤ h0.size) (F0 : Fld Z h0 o0 "com/example/chartwright/chartwright/eval/ClassScore" "correct" "J" (.long ct)) (F1 : Fld Z h0 o0 "com/example/chartwright/chartwright/eval/ClassScore" "words" "J" (.long wd)) :
    MetFree l (⟨"com/example/chartwright/chartwright/eval/ClassScore", "accuracy", "()D"⟩ : MethodName) (head1 (Jvm.Cond.code (⟨"com/example/chartwright/chartwright/eval/ClassScore", "accuracy", "()D"⟩ : MethodName) prog_17_method_4_code 1 (some .double) :: ws) ({ frames := 1, cells := 0, slots := 0, locals := 15 } : Room)) (fun a U => a = #[(.ref o0)] ∧ Z.Warmed39 U.vm ∧ U.heap = h0) (fun _ _ _ _ _ => True) (fun _ U o U' => ∃ v L, o = .returned v ∧ Q_rm5 Z o0 ct wd h0 n0 v U'.heap L ∧ FrameEnd U o U' L ({ frames := 1, cells := 0, slots := 0, locals := 15 } : Room).cells ({ frames := 1, cells := 0, slots := 0, locals := 15 } : Room).slots) := by
  refine body pn_com_example_chartwright_chartwright_eval_ClassScore_accuracy_5 ?_
  intro p e s m below meth c s₁ hx hby hml hown hnm hret hlk hZ e0 X0
  replace hml : c.maxLocals = 1 := hml
  replace hown : s.vm.findClass "com/example/chartwright/chartwright/eval/ClassScore" = some m.cls := hown
  replace hnm : meth.name = "accuracy" := hnm
  replace hret : meth.sig.returnType = (some .double) := hret
  have N0 := Fr.nil n0
  rw [ef_rm5]
  obtain ⟨G, hG⟩ : ∃ G, G = End (Q_rm5 Z o0 ct wd h0 n0) s ({ frames := 1, cells := 0, slots := 0, locals := 15 } : Room).cells ({ frames := 1, cells := 0, slots := 0, locals := 15 } : Room).slots := ⟨_, rfl⟩
  rw [← hG]
  refine go (u' := s₁.setTop (mkF m 1 #[.val (.ref o0)] [(.ref o0)])) (fun _ ks_ => XS.aloadN X0.here hx rfl (hb hby d5_0) rfl rfl ks_) ?_
  obtain ⟨T1, X1, e1, st1⟩ := getF X0 hx hZ hown (host := "") (Or.inl (ww hw 25 rfl)) Via.refl e0 F0 (g := (mkF m 1 #[.val (.ref o0)] [(.ref o0)])) rfl rfl (hb hby d5_1)
  refine go (u' := T1.setTop (mkF m 4 #[.val (.ref o0)] [(.long ct)])) st1 ?_
  refine go (u' := T1.setTop (mkF m 5 #[.val (.ref o0)] [(.ref o0), (.long ct)])) (fun _ ks_ => XS.aloadN X1.here hx rfl (hb hby d5_4) rfl rfl ks_) ?_
  obtain ⟨T2, X2, e2, st2⟩ := getF X1 hx hZ hown (host := "") (Or.inl (ww hw 27 rfl)) Via.refl e1 F1 (g := (mkF m 5 #[.val (.ref o0)] [(.ref o0), (.long ct)])) rfl rfl (hb hby d5_5)
  refine go (u' := T2.setTop (mkF m 8 #[.val (.ref o0)] [(.long wd), (.long ct)])) st2 ?_
  obtain ⟨_, _, ⟨T3, L3, k3, n3⟩, -, X3, ⟨Lc3, hQ3, l3, y3, z3⟩, st3⟩ := Jvm.LawKit.callS X2 hx (y := (⟨"com/example/chartwright/chartwright/eval/Totals", "percent", "(JJ)D"⟩ : MethodName)) hown (mvT hZ (ww hw 29 rfl)) (mvT hZ (ww hw 30 rfl)) (mvT hZ (ww hw 31 rfl)) (mvT hZ (ww hw 32 rfl)) (by decide) (backOf (W := 0) (rm6 l Z a0 hw [] ct wd h0 n0 Z0) hZ (ww hw 32 rfl) (ww hw 31 rfl) (by decide) (by decide)) (g := (mkF m 8 #[.val (.ref o0)] [(.long wd), (.long ct)])) rfl (by rw [hml]; rfl) (argsL := [(.long ct), (.long wd)]) (rest := []) (lenOf pd__40_JJ_41_D rfl) rfl (by show 2 * 0 + _ ≤ _; exact Nat.le_of_eq rfl) (hb hby d5_8) (fun _ _ => ⟨rfl, e2, (by decide : 0 + 0 ≤ _), (by decide : 0 + 0 ≤ _)⟩)
  dsimp only [Pt.U, Pt.locs, Pt.cells, Pt.slots] at X3 l3 y3 z3 st3 hQ3
  subst l3 y3 z3
  obtain ⟨rfl, N3q, eq3⟩ := hQ3
  have N3 := Fr.app N0 N3q
  refine go (u' := T3.setTop (mkF m 11 #[.val (.ref o0)] [(.double (own_pct ct wd))])) st3 ?_
  rw [hG]
  refine gD X3 hx hlk hret (hb hby d5_11) ?_ (Nat.le_of_ble_eq_true rfl) (Nat.le_of_ble_eq_true rfl)
  show Q_rm5 Z o0 ct wd h0 n0 (some (.double (own_pct ct wd))) T3.heap _
  rw [eq3]
  exact ⟨rfl, N3, rfl⟩
theorem pn_com_example_chartwright_chartwright_eval_ClassScore_precision_8 : plainFor (⟨"com/example/chartwright/chartwright/eval/ClassScore", "precision", "()D"⟩ : MethodName) = true := by first | exact plainFor_of_name (by first | (simp [plainName, overriddenIn]; done) | decide +kernel) | decide +kernel
def Q_rm8 (Z : State) (o0 : Addr) (co : Int64) (po : Int64) (h0 : Heap) (n0 : Nat) (v : Option Value) (h : Heap) (L : List Loc) : Prop := v = some (.double (own_pct co po)) ∧ Fr n0 L ∧ h = h0
set_option maxRecDepth 65536 in
set_option maxHeartbeats 4000000 in
theorem ef_rm8 (m : MethodId) (o0 : Addr) : entryFrame m #[(.ref o0)] 1 = mkF m 0 #[.val (.ref o0)] [] := by first | (simp [entryFrame, mkF, argsToLocals, Value.category, maxLocals]; done) | rfl
theorem d8_0 : decode prog_17_method_5_code 0 = .ok (.aload_n 0, 1) := by decide +kernel
theorem d8_1 : decode prog_17_method_5_code 1 = .ok (.getfield 22, 3) := by decide +kernel
theorem d8_4 : decode prog_17_method_5_code 4 = .ok (.aload_n 0, 1) := by decide +kernel
theorem d8_5 : decode prog_17_method_5_code 5 = .ok (.getfield 16, 3) := by decide +kernel
theorem d8_8 : decode prog_17_method_5_code 8 = .ok (.invokestatic 25, 3) := by decide +kernel
theorem d8_11 : decode prog_17_method_5_code 11 = .ok (.dreturn, 1) := by decide +kernel
set_option maxRecDepth 65536 in
set_option maxHeartbeats 40000000 in
theorem rm8 (l : Launch) (Z : State) (a0 : Array Value) (hw : ∀ d ∈ tables_1, d.before a0 Z = true) (ws : List Jvm.Cond) (o0 : Addr) (co : Int64) (po : Int64) (h0 : Heap) (n0 : Nat) (Z0 : n0 ≤ h0.size) (F0 : Fld Z h0 o0 "com/example/chartwright/chartwright/eval/ClassScore" "correctOut" "J" (.long co)) (F1 : Fld Z h0 o0 "com/example/chartwright/chartwright/eval/ClassScore" "predictedOut" "J" (.long po)) :
    MetFree l (⟨"com/example/chartwright/chartwright/eval/ClassScore", "precision", "()D"⟩ : MethodName) (head1 (Jvm.Cond.code (⟨"com/example/chartwright/chartwright/eval/ClassScore", "precision", "()D"⟩ : MethodName) prog_17_method_5_code 1 (some .double) :: ws) ({ frames := 1, cells := 0, slots := 0, locals := 15 } : Room)) (fun a U => a = #[(.ref o0)] ∧ Z.Warmed39 U.vm ∧ U.heap = h0) (fun _ _ _ _ _ => True) (fun _ U o U' => ∃ v L, o = .returned v ∧ Q_rm8 Z o0 co po h0 n0 v U'.heap L ∧ FrameEnd U o U' L ({ frames := 1, cells := 0, slots := 0, locals := 15 } : Room).cells ({ frames := 1, cells := 0, slots := 0, locals := 15 } : Room).slots) := by
  refine body pn_com_example_chartwright_chartwright_eval_ClassScore_precision_8 ?_
  intro p e s m below meth c s₁ hx hby hml hown hnm hret hlk hZ e0 X0
  replace hml : c.maxLocals = 1 := hml
  replace hown : s.vm.findClass "com/example/chartwright/chartwright/eval/ClassScore" = some m.cls := hown
  replace hnm : meth.name = "precision" := hnm
  replace hret : meth.sig.returnType = (some .double) := hret
  have N0 := Fr.nil n0
  rw [ef_rm8]
  obtain ⟨G, hG⟩ : ∃ G, G = End (Q_rm8 Z o0 co po h0 n0) s ({ frames := 1, cells := 0, slots := 0, locals := 15 } : Room).cells ({ frames := 1, cells := 0, slots := 0, locals := 15 } : Room).slots := ⟨_, rfl⟩
  rw [← hG]
  refine go (u' := s₁.setTop (mkF m 1 #[.val (.ref o0)] [(.ref o0)])) (fun _ ks_ => XS.aloadN X0.here hx rfl (hb hby d8_0) rfl rfl ks_) ?_
  obtain ⟨T1, X1, e1, st1⟩ := getF X0 hx hZ hown (host := "") (Or.inl (ww hw 41 rfl)) Via.refl e0 F0 (g := (mkF m 1 #[.val (.ref o0)] [(.ref o0)])) rfl rfl (hb hby d8_1)
  refine go (u' := T1.setTop (mkF m 4 #[.val (.ref o0)] [(.long co)])) st1 ?_
  refine go (u' := T1.setTop (mkF m 5 #[.val (.ref o0)] [(.ref o0), (.long co)])) (fun _ ks_ => XS.aloadN X1.here hx rfl (hb hby d8_4) rfl rfl ks_) ?_
  obtain ⟨T2, X2, e2, st2⟩ := getF X1 hx hZ hown (host := "") (Or.inl (ww hw 18 rfl)) Via.refl e1 F1 (g := (mkF m 5 #[.val (.ref o0)] [(.ref o0), (.long co)])) rfl rfl (hb hby d8_5)
  refine go (u' := T2.setTop (mkF m 8 #[.val (.ref o0)] [(.long po), (.long co)])) st2 ?_
  obtain ⟨_, _, ⟨T3, L3, k3, n3⟩, -, X3, ⟨Lc3, hQ3, l3, y3, z3⟩, st3⟩ := Jvm.LawKit.callS X2 hx (y := (⟨"com/example/chartwright/chartwright/eval/Totals", "percent", "(JJ)D"⟩ : MethodName)) hown (mvT hZ (ww hw 29 rfl)) (mvT hZ (ww hw 30 rfl)) (mvT hZ (ww hw 31 rfl)) (mvT hZ (ww hw 32 rfl)) (by decide) (backOf (W := 0) (rm6 l Z a0 hw [] co po h0 n0 Z0) hZ (ww hw 32 rfl) (ww hw 31 rfl) (by decide) (by decide)) (g := (mkF m 8 #[.val (.ref o0)] [(.long po), (.long co)])) rfl (by rw [hml]; rfl) (argsL := [(.long co), (.long po)]) (rest := []) (lenOf pd__40_JJ_41_D rfl) rfl (by show 2 * 0 + _ ≤ _; exact Nat.le_of_eq rfl) (hb hby d8_8) (fun _ _ => ⟨rfl, e2, (by decide : 0 + 0 ≤ _), (by decide : 0 + 0 ≤ _)⟩)
  dsimp only [Pt.U, Pt.locs, Pt.cells, Pt.slots] at X3 l3 y3 z3 st3 hQ3
  subst l3 y3 z3
  obtain ⟨rfl, N3q, eq3⟩ := hQ3
  have N3 := Fr.app N0 N3q
  refine go (u' := T3.setTop (mkF m 11 #[.val (.ref o0)] [(.double (own_pct co po))])) st3 ?_
  rw [hG]
  refine gD X3 hx hlk hret (hb hby d8_11) ?_ (Nat.le_of_ble_eq_true rfl) (Nat.le_of_ble_eq_true rfl)
  show Q_rm8 Z o0 co po h0 n0 (some (.double (own_pct co po))) T3.heap _
  rw [eq3]
  exact ⟨rfl, N3, rfl⟩
theorem pn_com_example_chartwright_chartwright_eval_ClassScore_recall_9 : plainFor (⟨"com/example/chartwright/chartwright/eval/ClassScore", "recall", "()D"⟩ : MethodName) = true := by first | exact plainFor_of_name (by first | (simp [plainName, overriddenIn]; done) | decide +kernel) | decide +kernel
def Q_rm9 (Z : State) (o0 : Addr) (co : Int64) (gg : Int64) (h0 : Heap) (n0 : Nat) (v : Option Value) (h : Heap) (L : List Loc) : Prop := v = some (.double (own_pct co gg)) ∧ Fr n0 L ∧ h = h0
set_option maxRecDepth 65536 in
set_option maxHeartbeats 4000000 in
theorem ef_rm9 (m : MethodId) (o0 : Addr) : entryFrame m #[(.ref o0)] 1 = mkF m 0 #[.val (.ref o0)] [] := by first | (simp [entryFrame, mkF, argsToLocals, Value.category, maxLocals]; done) | rfl
theorem d9_0 : decode prog_17_method_6_code 0 = .ok (.aload_n 0, 1) := by decide +kernel
theorem d9_1 : decode prog_17_method_6_code 1 = .ok (.getfield 22, 3) := by decide +kernel
theorem d9_4 : decode prog_17_method_6_code 4 = .ok (.aload_n 0, 1) := by decide +kernel
theorem d9_5 : decode prog_17_method_6_code 5 = .ok (.getfield 19, 3) := by decide +kernel
theorem d9_8 : decode prog_17_method_6_code 8 = .ok (.invokestatic 25, 3) := by decide +kernel
theorem d9_11 : decode prog_17_method_6_code 11 = .ok (.dreturn, 1) := by decide +kernel
set_option maxRecDepth 65536 in
set_option maxHeartbeats 40000000 in
theorem rm9 (l : Launch) (Z : State) (a0 : Array Value) (hw : ∀ d ∈ tables_1, d.before a0 Z = true) (ws : List Jvm.Cond) (o0 : Addr) (co : Int64) (gg : Int64) (h0 : Heap) (n0 : Nat) (Z0 : n0 ≤ h0.size) (F0 : Fld Z h0 o0 "com/example/chartwright/chartwright/eval/ClassScore" "correctOut" "J" (.long co)) (F1 : Fld Z h0 o0 "com/example/chartwright/chartwright/eval/ClassScore" "goldOut" "J" (.long gg)) :
    MetFree l (⟨"com/example/chartwright/chartwright/eval/ClassScore", "recall", "()D"⟩ : MethodName) (head1 (Jvm.Cond.code (⟨"com/example/chartwright/chartwright/eval/ClassScore", "recall", "()D"⟩ : MethodName) prog_17_method_6_code 1 (some .double) :: ws) ({ frames := 1, cells := 0, slots := 0, locals := 15 } : Room)) (fun a U => a = #[(.ref o0)] ∧ Z.Warmed39 U.vm ∧ U.heap = h0) (fun _ _ _ _ _ => True) (fun _ U o U' => ∃ v L, o = .returned v ∧ Q_rm9 Z o0 co gg h0 n0 v U'.heap L ∧ FrameEnd U o U' L ({ frames := 1, cells := 0, slots := 0, locals := 15 } : Room).cells ({ frames := 1, cells := 0, slots := 0, locals := 15 } : Room).slots) := by
  refine body pn_com_example_chartwright_chartwright_eval_ClassScore_recall_9 ?_
  intro p e s m below meth c s₁ hx hby hml hown hnm hret hlk hZ e0 X0
  replace hml : c.maxLocals = 1 := hml
  replace hown : s.vm.findClass "com/example/chartwright/chartwright/eval/ClassScore" = some m.cls := hown
  replace hnm : meth.name = "recall" := hnm
  replace hret : meth.sig.returnType = (some .double) := hret
  have N0 := Fr.nil n0
  rw [ef_rm9]
  obtain ⟨G, hG⟩ : ∃ G, G = End (Q_rm9 Z o0 co gg h0 n0) s ({ frames := 1, cells := 0, slots := 0, locals := 15 } : Room).cells ({ frames := 1, cells := 0, slots := 0, locals := 15 } : Room).slots := ⟨_, rfl⟩
  rw [← hG]
  refine go (u' := s₁.setTop (mkF m 1 #[.val (.ref o0)] [(.ref o0)])) (fun _ ks_ => XS.aloadN X0.here hx rfl (hb hby d9_0) rfl rfl ks_) ?_
  obtain ⟨T1, X1, e1, st1⟩ := getF X0 hx hZ hown (host := "") (Or.inl (ww hw 41 rfl)) Via.refl e0 F0 (g := (mkF m 1 #[.val (.ref o0)] [(.ref o0)])) rfl rfl (hb hby d9_1)
  refine go (u' := T1.setTop (mkF m 4 #[.val (.ref o0)] [(.long co)])) st1 ?_
  refine go (u' := T1.setTop (mkF m 5 #[.val (.ref o0)] [(.ref o0), (.long co)])) (fun _ ks_ => XS.aloadN X1.here hx rfl (hb hby d9_4) rfl rfl ks_) ?_
  obtain ⟨T2, X2, e2, st2⟩ := getF X1 hx hZ hown (host := "") (Or.inl (ww hw 48 rfl)) Via.refl e1 F1 (g := (mkF m 5 #[.val (.ref o0)] [(.ref o0), (.long co)])) rfl rfl (hb hby d9_5)
  refine go (u' := T2.setTop (mkF m 8 #[.val (.ref o0)] [(.long gg), (.long co)])) st2 ?_
  obtain ⟨_, _, ⟨T3, L3, k3, n3⟩, -, X3, ⟨Lc3, hQ3, l3, y3, z3⟩, st3⟩ := Jvm.LawKit.callS X2 hx (y := (⟨"com/example/chartwright/chartwright/eval/Totals", "percent", "(JJ)D"⟩ : MethodName)) hown (mvT hZ (ww hw 29 rfl)) (mvT hZ (ww hw 30 rfl)) (mvT hZ (ww hw 31 rfl)) (mvT hZ (ww hw 32 rfl)) (by decide) (backOf (W := 0) (rm6 l Z a0 hw [] co gg h0 n0 Z0) hZ (ww hw 32 rfl) (ww hw 31 rfl) (by decide) (by decide)) (g := (mkF m 8 #[.val (.ref o0)] [(.long gg), (.long co)])) rfl (by rw [hml]; rfl) (argsL := [(.long co), (.long gg)]) (rest := []) (lenOf pd__40_JJ_41_D rfl) rfl (by show 2 * 0 + _ ≤ _; exact Nat.le_of_eq rfl) (hb hby d9_8) (fun _ _ => ⟨rfl, e2, (by decide : 0 + 0 ≤ _), (by decide : 0 + 0 ≤ _)⟩)
  dsimp only [Pt.U, Pt.locs, Pt.cells, Pt.slots] at X3 l3 y3 z3 st3 hQ3
  subst l3 y3 z3
  obtain ⟨rfl, N3q, eq3⟩ := hQ3
  have N3 := Fr.app N0 N3q
  refine go (u' := T3.setTop (mkF m 11 #[.val (.ref o0)] [(.double (own_pct co gg))])) st3 ?_
  rw [hG]
  refine gD X3 hx hlk hret (hb hby d9_11) ?_ (Nat.le_of_ble_eq_true rfl) (Nat.le_of_ble_eq_true rfl)
  show Q_rm9 Z o0 co gg h0 n0 (some (.double (own_pct co gg))) T3.heap _
  rw [eq3]
  exact ⟨rfl, N3, rfl⟩
theorem own_a1 (g p : Int32) (c : Int64) : ad_correct g p c = c + (if g = p then 1 else 0) := by simp only [ad_correct]; split <;> rfl
theorem own_a2 (p : Int32) (c : Int64) : ad_predictedOut p c = c + (if p = 0 then 1 else 0) := by simp only [ad_predictedOut]; split <;> rfl
theorem own_a3 (g : Int32) (c : Int64) : ad_goldOut g c = c + (if g = 0 then 1 else 0) := by simp only [ad_goldOut]; split <;> rfl
theorem own_a4 (g p : Int32) (c : Int64) : ad_correctOut g p c = c + (if (g = 0 ∧ p = 0) then 1 else 0) := by
  simp only [ad_correctOut]; by_cases h : g = 0 <;> by_cases h2 : p = 0 <;> simp [h, h2]
theorem own_d3 (n : Fin 4) : (((0 : Int64) + X (B (¬ ((Int32.ofNat n.val) < (1 : Int32)))) True) + X (B (¬ ((Int32.ofNat n.val) < (2 : Int32)))) True) + X (B (¬ ((Int32.ofNat n.val) < (3 : Int32)))) True = (Int32.ofNat n.val).toInt64 := by
  revert n; decide +kernel
theorem own_words (p0 nn aa ab ac : Int32) (hn : nn = (((p0.toUInt32 >>> ((6 : Int32) &&& 31).toUInt32).toInt32) &&& (3 : Int32))) (ha : aa = (B (¬ (nn < (1 : Int32))))) (hb : ab = (B (¬ (nn < (2 : Int32))))) (hc : ac = (B (¬ (nn < (3 : Int32))))) : (((0 : Int64) + X aa True) + X ab True) + X ac True = nn.toInt64 := by
  have h1 := c_mask ((p0.toUInt32 >>> ((6 : Int32) &&& 31).toUInt32).toInt32) 3 2 (by decide) (by decide)
  rw [← hn] at h1
  have h2 : nn = Int32.ofNat nn.toInt.toNat := by
    apply Int32.toInt_inj.mp
    rw [Int32.toInt_ofNat_of_lt (by omega)]
    omega
  subst ha hb hc
  have h3 := own_d3 ⟨nn.toInt.toNat, by omega⟩
  rw [← h2] at h3
  exact h3
theorem pd__40__41_V : parseMethodDescriptor "()V" = some ⟨[], none⟩ := by decide +kernel
theorem pd__40_ZZ_41_J : parseMethodDescriptor "(ZZ)J" = some ⟨[.boolean, .boolean], some .long⟩ := by decide +kernel
theorem pd__40__41_J : parseMethodDescriptor "()J" = some ⟨[], some .long⟩ := by decide +kernel
theorem pd__40__41_D : parseMethodDescriptor "()D" = some ⟨[], some .double⟩ := by decide +kernel
theorem pd__40_ZZ_41_V : parseMethodDescriptor "(ZZ)V" = some ⟨[.boolean, .boolean], none⟩ := by decide +kernel
theorem pn_com_example_chartwright_chartwright_eval_ClassScoreAddPinLaw_law_0 : plainFor x = true := by first | exact plainFor_of_name (by first | (simp [plainName, overriddenIn]; done) | decide +kernel) | decide +kernel
def Q_rm0 (Z : State) (p0 : Int32) (h0 : Heap) (n0 : Nat) (v : Option Value) (h : Heap) (L : List Loc) : Prop := v = some (.int (1 : Int32)) ∧ Fr n0 L
set_option maxRecDepth 65536 in
set_option maxHeartbeats 4000000 in
theorem ef_rm0 (m : MethodId) (p0 : Int32) : entryFrame m #[(.int p0)] maxLocals = mkF m 0 #[.val (.int p0), .unset, .unset, .unset, .unset, .unset, .unset, .unset, .unset, .unset, .unset, .unset, .unset, .unset, .unset, .unset, .unset, .unset, .unset, .unset, .unset, .unset] [] := by first | (simp [entryFrame, mkF, argsToLocals, Value.category, maxLocals]; done) | rfl
set_option maxRecDepth 65536 in
set_option maxHeartbeats 40000000 in
theorem rm0 (l : Launch) (Z : State) (a0 : Array Value) (hw : ∀ d ∈ tables_1, d.before a0 Z = true) (ws : List Jvm.Cond) (p0 : Int32) (h0 : Heap) (n0 : Nat) (Z0 : n0 ≤ h0.size)  :
    MetFree l x (head1 (Jvm.Cond.code x code maxLocals ret :: ws) room_1) (fun a U => a = #[(.int p0)] ∧ Z.Warmed39 U.vm ∧ U.heap = h0) (fun _ _ _ _ _ => True) (fun _ U o U' => ∃ v L, o = .returned v ∧ Q_rm0 Z p0 h0 n0 v U'.heap L ∧ FrameEnd U o U' L room_1.cells room_1.slots) := by
  refine body pn_com_example_chartwright_chartwright_eval_ClassScoreAddPinLaw_law_0 ?_
  intro p e s m below meth c s₁ hx hby hml hown hnm hret hlk hZ e0 X0
  replace hml : c.maxLocals = 22 := hml
  replace hown : s.vm.findClass "com/example/chartwright/chartwright/eval/ClassScoreAddPinLaw" = some m.cls := hown
  replace hnm : meth.name = "law" := hnm
  replace hret : meth.sig.returnType = (some .boolean) := hret
  have N0 := Fr.nil n0
  rw [ef_rm0]
  obtain ⟨G, hG⟩ : ∃ G, G = End (Q_rm0 Z p0 h0 n0) s room_1.cells room_1.slots := ⟨_, rfl⟩
  rw [← hG]
  refine go (u' := s₁.setTop (mkF m 1 #[.val (.int p0), .unset, .unset, .unset, .unset, .unset, .unset, .unset, .unset, .unset, .unset, .unset, .unset, .unset, .unset, .unset, .unset, .unset, .unset, .unset, .unset, .unset] [(.int p0)])) (fun _ ks_ => XS.iloadN X0.here hx rfl (hb hby at_0) rfl  ks_) ?_
  refine go (u' := s₁.setTop (mkF m 3 #[.val (.int p0), .unset, .unset, .unset, .unset, .unset, .unset, .unset, .unset, .unset, .unset, .unset, .unset, .unset, .unset, .unset, .unset, .unset, .unset, .unset, .unset, .unset] [(.int (6 : Int32)), (.int p0)])) (fun _ ks_ => XS.bipush X0.here hx rfl (hb hby at_1) ks_) ?_
  refine go (u' := s₁.setTop (mkF m 4 #[.val (.int p0), .unset, .unset, .unset, .unset, .unset, .unset, .unset, .unset, .unset, .unset, .unset, .unset, .unset, .unset, .unset, .unset, .unset, .unset, .unset, .unset, .unset] [(.int ((p0.toUInt32 >>> ((6 : Int32) &&& 31).toUInt32).toInt32))])) (fun _ ks_ => XS.iushr X0.here hx rfl (hb hby at_3) rfl ks_) ?_
  refine go (u' := s₁.setTop (mkF m 5 #[.val (.int p0), .unset, .unset, .unset, .unset, .unset, .unset, .unset, .unset, .unset, .unset, .unset, .unset, .unset, .unset, .unset, .unset, .unset, .unset, .unset, .unset, .unset] [(.int (3 : Int32)), (.int ((p0.toUInt32 >>> ((6 : Int32) &&& 31).toUInt32).toInt32))])) (fun _ ks_ => XS.iconst X0.here hx rfl (hb hby at_4) ks_) ?_
  refine go (u' := s₁.setTop (mkF m 6 #[.val (.int p0), .unset, .unset, .unset, .unset, .unset, .unset, .unset, .unset, .unset, .unset, .unset, .unset, .unset, .unset, .unset, .unset, .unset, .unset, .unset, .unset, .unset] [(.int (((p0.toUInt32 >>> ((6 : Int32) &&& 31).toUInt32).toInt32) &&& (3 : Int32)))])) (fun _ ks_ => XS.iand X0.here hx rfl (hb hby at_5) rfl ks_) ?_
  refine go (u' := s₁.setTop (mkF m 7 #[.val (.int p0), .val (.int (((p0.toUInt32 >>> ((6 : Int32) &&& 31).toUInt32).toInt32) &&& (3 : Int32))), .unset, .unset, .unset, .unset, .unset, .unset, .unset, .unset, .unset, .unset, .unset, .unset, .unset, .unset, .unset, .unset, .unset, .unset, .unset, .unset] [])) (fun _ ks_ => XS.istoreN X0.here hx rfl (hb hby at_6) rfl  (l' := #[.val (.int p0), .val (.int (((p0.toUInt32 >>> ((6 : Int32) &&& 31).toUInt32).toInt32) &&& (3 : Int32))), .unset, .unset, .unset, .unset, .unset, .unset, .unset, .unset, .unset, .unset, .unset, .unset, .unset, .unset, .unset, .unset, .unset, .unset, .unset, .unset]) rfl ks_) ?_
  obtain ⟨nn, hnn⟩ : ∃ z, z = (((p0.toUInt32 >>> ((6 : Int32) &&& 31).toUInt32).toInt32) &&& (3 : Int32)) := ⟨_, rfl⟩
  rw [← hnn]
  refine go (u' := s₁.setTop (mkF m 8 #[.val (.int p0), .val (.int nn), .unset, .unset, .unset, .unset, .unset, .unset, .unset, .unset, .unset, .unset, .unset, .unset, .unset, .unset, .unset, .unset, .unset, .unset, .unset, .unset] [(.int p0)])) (fun _ ks_ => XS.iloadN X0.here hx rfl (hb hby at_7) rfl  ks_) ?_
  refine go (u' := s₁.setTop (mkF m 9 #[.val (.int p0), .val (.int nn), .unset, .unset, .unset, .unset, .unset, .unset, .unset, .unset, .unset, .unset, .unset, .unset, .unset, .unset, .unset, .unset, .unset, .unset, .unset, .unset] [(.int (1 : Int32)), (.int p0)])) (fun _ ks_ => XS.iconst X0.here hx rfl (hb hby at_8) ks_) ?_
  refine go (u' := s₁.setTop (mkF m 10 #[.val (.int p0), .val (.int nn), .unset, .unset, .unset, .unset, .unset, .unset, .unset, .unset, .unset, .unset, .unset, .unset, .unset, .unset, .unset, .unset, .unset, .unset, .unset, .unset] [(.int (p0 &&& (1 : Int32)))])) (fun _ ks_ => XS.iand X0.here hx rfl (hb hby at_9) rfl ks_) ?_
  have J18_1 : ∀ ga : Int32, ga = (B (¬ ((p0 &&& (1 : Int32)) = (0 : Int32)))) → Go p.tables e below G (s₁.setTop (mkF m 18 #[.val (.int p0), .val (.int nn), .unset, .unset, .unset, .unset, .unset, .unset, .unset, .unset, .unset, .unset, .unset, .unset, .unset, .unset, .unset, .unset, .unset, .unset, .unset, .unset] [(.int ga)])) := by
    intro ga hga
    refine go (u' := s₁.setTop (mkF m 19 #[.val (.int p0), .val (.int nn), .val (.int ga), .unset, .unset, .unset, .unset, .unset, .unset, .unset, .unset, .unset, .unset, .unset, .unset, .unset, .unset, .unset, .unset, .unset, .unset, .unset] [])) (fun _ ks_ => XS.istoreN X0.here hx rfl (hb hby at_18) rfl  (l' := #[.val (.int p0), .val (.int nn), .val (.int ga), .unset, .unset, .unset, .unset, .unset, .unset, .unset, .unset, .unset, .unset, .unset, .unset, .unset, .unset, .unset, .unset, .unset, .unset, .unset]) rfl ks_) ?_
    refine go (u' := s₁.setTop (mkF m 20 #[.val (.int p0), .val (.int nn), .val (.int ga), .unset, .unset, .unset, .unset, .unset, .unset, .unset, .unset, .unset, .unset, .unset, .unset, .unset, .unset, .unset, .unset, .unset, .unset, .unset] [(.int p0)])) (fun _ ks_ => XS.iloadN X0.here hx rfl (hb hby at_19) rfl  ks_) ?_
    refine go (u' := s₁.setTop (mkF m 21 #[.val (.int p0), .val (.int nn), .val (.int ga), .unset, .unset, .unset, .unset, .unset, .unset, .unset, .unset, .unset, .unset, .unset, .unset, .unset, .unset, .unset, .unset, .unset, .unset, .unset] [(.int (2 : Int32)), (.int p0)])) (fun _ ks_ => XS.iconst X0.here hx rfl (hb hby at_20) ks_) ?_
    refine go (u' := s₁.setTop (mkF m 22 #[.val (.int p0), .val (.int nn), .val (.int ga), .unset, .unset, .unset, .unset, .unset, .unset, .unset, .unset, .unset, .unset, .unset, .unset, .unset, .unset, .unset, .unset, .unset, .unset, .unset] [(.int (p0 &&& (2 : Int32)))])) (fun _ ks_ => XS.iand X0.here hx rfl (hb hby at_21) rfl ks_) ?_
    have J30_2 : ∀ pa : Int32, pa = (B (¬ ((p0 &&& (2 : Int32)) = (0 : Int32)))) → Go p.tables e below G (s₁.setTop (mkF m 30 #[.val (.int p0), .val (.int nn), .val (.int ga), .unset, .unset, .unset, .unset, .unset, .unset, .unset, .unset, .unset, .unset, .unset, .unset, .unset, .unset, .unset, .unset, .unset, .unset, .unset] [(.int pa)])) := by
      intro pa hpa
      refine go (u' := s₁.setTop (mkF m 31 #[.val (.int p0), .val (.int nn), .val (.int ga), .val (.int pa), .unset, .unset, .unset, .unset, .unset, .unset, .unset, .unset, .unset, .unset, .unset, .unset, .unset, .unset, .unset, .unset, .unset, .unset] [])) (fun _ ks_ => XS.istoreN X0.here hx rfl (hb hby at_30) rfl  (l' := #[.val (.int p0), .val (.int nn), .val (.int ga), .val (.int pa), .unset, .unset, .unset, .unset, .unset, .unset, .unset, .unset, .unset, .unset, .unset, .unset, .unset, .unset, .unset, .unset, .unset, .unset]) rfl ks_) ?_
      refine go (u' := s₁.setTop (mkF m 32 #[.val (.int p0), .val (.int nn), .val (.int ga), .val (.int pa), .unset, .unset, .unset, .unset, .unset, .unset, .unset, .unset, .unset, .unset, .unset, .unset, .unset, .unset, .unset, .unset, .unset, .unset] [(.int p0)])) (fun _ ks_ => XS.iloadN X0.here hx rfl (hb hby at_31) rfl  ks_) ?_
      refine go (u' := s₁.setTop (mkF m 33 #[.val (.int p0), .val (.int nn), .val (.int ga), .val (.int pa), .unset, .unset, .unset, .unset, .unset, .unset, .unset, .unset, .unset, .unset, .unset, .unset, .unset, .unset, .unset, .unset, .unset, .unset] [(.int (4 : Int32)), (.int p0)])) (fun _ ks_ => XS.iconst X0.here hx rfl (hb hby at_32) ks_) ?_
      refine go (u' := s₁.setTop (mkF m 34 #[.val (.int p0), .val (.int nn), .val (.int ga), .val (.int pa), .unset, .unset, .unset, .unset, .unset, .unset, .unset, .unset, .unset, .unset, .unset, .unset, .unset, .unset, .unset, .unset, .unset, .unset] [(.int (p0 &&& (4 : Int32)))])) (fun _ ks_ => XS.iand X0.here hx rfl (hb hby at_33) rfl ks_) ?_
      have J42_3 : ∀ gb : Int32, gb = (B (¬ ((p0 &&& (4 : Int32)) = (0 : Int32)))) → Go p.tables e below G (s₁.setTop (mkF m 42 #[.val (.int p0), .val (.int nn), .val (.int ga), .val (.int pa), .unset, .unset, .unset, .unset, .unset, .unset, .unset, .unset, .unset, .unset, .unset, .unset, .unset, .unset, .unset, .unset, .unset, .unset] [(.int gb)])) := by
        intro gb hgb
        refine go (u' := s₁.setTop (mkF m 44 #[.val (.int p0), .val (.int nn), .val (.int ga), .val (.int pa), .val (.int gb), .unset, .unset, .unset, .unset, .unset, .unset, .unset, .unset, .unset, .unset, .unset, .unset, .unset, .unset, .unset, .unset, .unset] [])) (fun _ ks_ => XS.istore X0.here hx rfl (hb hby at_42) rfl  (l' := #[.val (.int p0), .val (.int nn), .val (.int ga), .val (.int pa), .val (.int gb), .unset, .unset, .unset, .unset, .unset, .unset, .unset, .unset, .unset, .unset, .unset, .unset, .unset, .unset, .unset, .unset, .unset]) rfl ks_) ?_
        refine go (u' := s₁.setTop (mkF m 45 #[.val (.int p0), .val (.int nn), .val (.int ga), .val (.int pa), .val (.int gb), .unset, .unset, .unset, .unset, .unset, .unset, .unset, .unset, .unset, .unset, .unset, .unset, .unset, .unset, .unset, .unset, .unset] [(.int p0)])) (fun _ ks_ => XS.iloadN X0.here hx rfl (hb hby at_44) rfl  ks_) ?_
        refine go (u' := s₁.setTop (mkF m 47 #[.val (.int p0), .val (.int nn), .val (.int ga), .val (.int pa), .val (.int gb), .unset, .unset, .unset, .unset, .unset, .unset, .unset, .unset, .unset, .unset, .unset, .unset, .unset, .unset, .unset, .unset, .unset] [(.int (8 : Int32)), (.int p0)])) (fun _ ks_ => XS.bipush X0.here hx rfl (hb hby at_45) ks_) ?_
        refine go (u' := s₁.setTop (mkF m 48 #[.val (.int p0), .val (.int nn), .val (.int ga), .val (.int pa), .val (.int gb), .unset, .unset, .unset, .unset, .unset, .unset, .unset, .unset, .unset, .unset, .unset, .unset, .unset, .unset, .unset, .unset, .unset] [(.int (p0 &&& (8 : Int32)))])) (fun _ ks_ => XS.iand X0.here hx rfl (hb hby at_47) rfl ks_) ?_
        have J56_4 : ∀ pb : Int32, pb = (B (¬ ((p0 &&& (8 : Int32)) = (0 : Int32)))) → Go p.tables e below G (s₁.setTop (mkF m 56 #[.val (.int p0), .val (.int nn), .val (.int ga), .val (.int pa), .val (.int gb), .unset, .unset, .unset, .unset, .unset, .unset, .unset, .unset, .unset, .unset, .unset, .unset, .unset, .unset, .unset, .unset, .unset] [(.int pb)])) := by
          intro pb hpb
          refine go (u' := s₁.setTop (mkF m 58 #[.val (.int p0), .val (.int nn), .val (.int ga), .val (.int pa), .val (.int gb), .val (.int pb), .unset, .unset, .unset, .unset, .unset, .unset, .unset, .unset, .unset, .unset, .unset, .unset, .unset, .unset, .unset, .unset] [])) (fun _ ks_ => XS.istore X0.here hx rfl (hb hby at_56) rfl  (l' := #[.val (.int p0), .val (.int nn), .val (.int ga), .val (.int pa), .val (.int gb), .val (.int pb), .unset, .unset, .unset, .unset, .unset, .unset, .unset, .unset, .unset, .unset, .unset, .unset, .unset, .unset, .unset, .unset]) rfl ks_) ?_
          refine go (u' := s₁.setTop (mkF m 59 #[.val (.int p0), .val (.int nn), .val (.int ga), .val (.int pa), .val (.int gb), .val (.int pb), .unset, .unset, .unset, .unset, .unset, .unset, .unset, .unset, .unset, .unset, .unset, .unset, .unset, .unset, .unset, .unset] [(.int p0)])) (fun _ ks_ => XS.iloadN X0.here hx rfl (hb hby at_58) rfl  ks_) ?_
          refine go (u' := s₁.setTop (mkF m 61 #[.val (.int p0), .val (.int nn), .val (.int ga), .val (.int pa), .val (.int gb), .val (.int pb), .unset, .unset, .unset, .unset, .unset, .unset, .unset, .unset, .unset, .unset, .unset, .unset, .unset, .unset, .unset, .unset] [(.int (16 : Int32)), (.int p0)])) (fun _ ks_ => XS.bipush X0.here hx rfl (hb hby at_59) ks_) ?_
          refine go (u' := s₁.setTop (mkF m 62 #[.val (.int p0), .val (.int nn), .val (.int ga), .val (.int pa), .val (.int gb), .val (.int pb), .unset, .unset, .unset, .unset, .unset, .unset, .unset, .unset, .unset, .unset, .unset, .unset, .unset, .unset, .unset, .unset] [(.int (p0 &&& (16 : Int32)))])) (fun _ ks_ => XS.iand X0.here hx rfl (hb hby at_61) rfl ks_) ?_
          have J70_5 : ∀ gc : Int32, gc = (B (¬ ((p0 &&& (16 : Int32)) = (0 : Int32)))) → Go p.tables e below G (s₁.setTop (mkF m 70 #[.val (.int p0), .val (.int nn), .val (.int ga), .val (.int pa), .val (.int gb), .val (.int pb), .unset, .unset, .unset, .unset, .unset, .unset, .unset, .unset, .unset, .unset, .unset, .unset, .unset, .unset, .unset, .unset] [(.int gc)])) := by
            intro gc hgc
            refine go (u' := s₁.setTop (mkF m 72 #[.val (.int p0), .val (.int nn), .val (.int ga), .val (.int pa), .val (.int gb), .val (.int pb), .val (.int gc), .unset, .unset, .unset, .unset, .unset, .unset, .unset, .unset, .unset, .unset, .unset, .unset, .unset, .unset, .unset] [])) (fun _ ks_ => XS.istore X0.here hx rfl (hb hby at_70) rfl  (l' := #[.val (.int p0), .val (.int nn), .val (.int ga), .val (.int pa), .val (.int gb), .val (.int pb), .val (.int gc), .unset, .unset, .unset, .unset, .unset, .unset, .unset, .unset, .unset, .unset, .unset, .unset, .unset, .unset, .unset]) rfl ks_) ?_
            refine go (u' := s₁.setTop (mkF m 73 #[.val (.int p0), .val (.int nn), .val (.int ga), .val (.int pa), .val (.int gb), .val (.int pb), .val (.int gc), .unset, .unset, .unset, .unset, .unset, .unset, .unset, .unset, .unset, .unset, .unset, .unset, .unset, .unset, .unset] [(.int p0)])) (fun _ ks_ => XS.iloadN X0.here hx rfl (hb hby at_72) rfl  ks_) ?_
            refine go (u' := s₁.setTop (mkF m 75 #[.val (.int p0), .val (.int nn), .val (.int ga), .val (.int pa), .val (.int gb), .val (.int pb), .val (.int gc), .unset, .unset, .unset, .unset, .unset, .unset, .unset, .unset, .unset, .unset, .unset, .unset, .unset, .unset, .unset] [(.int (32 : Int32)), (.int p0)])) (fun _ ks_ => XS.bipush X0.here hx rfl (hb hby at_73) ks_) ?_
            refine go (u' := s₁.setTop (mkF m 76 #[.val (.int p0), .val (.int nn), .val (.int ga), .val (.int pa), .val (.int gb), .val (.int pb), .val (.int gc), .unset, .unset, .unset, .unset, .unset, .unset, .unset, .unset, .unset, .unset, .unset, .unset, .unset, .unset, .unset] [(.int (p0 &&& (32 : Int32)))])) (fun _ ks_ => XS.iand X0.here hx rfl (hb hby at_75) rfl ks_) ?_
            have J84_6 : ∀ pc : Int32, pc = (B (¬ ((p0 &&& (32 : Int32)) = (0 : Int32)))) → Go p.tables e below G (s₁.setTop (mkF m 84 #[.val (.int p0), .val (.int nn), .val (.int ga), .val (.int pa), .val (.int gb), .val (.int pb), .val (.int gc), .unset, .unset, .unset, .unset, .unset, .unset, .unset, .unset, .unset, .unset, .unset, .unset, .unset, .unset, .unset] [(.int pc)])) := by
              intro pc hpc
              refine go (u' := s₁.setTop (mkF m 86 #[.val (.int p0), .val (.int nn), .val (.int ga), .val (.int pa), .val (.int gb), .val (.int pb), .val (.int gc), .val (.int pc), .unset, .unset, .unset, .unset, .unset, .unset, .unset, .unset, .unset, .unset, .unset, .unset, .unset, .unset] [])) (fun _ ks_ => XS.istore X0.here hx rfl (hb hby at_84) rfl  (l' := #[.val (.int p0), .val (.int nn), .val (.int ga), .val (.int pa), .val (.int gb), .val (.int pb), .val (.int gc), .val (.int pc), .unset, .unset, .unset, .unset, .unset, .unset, .unset, .unset, .unset, .unset, .unset, .unset, .unset, .unset]) rfl ks_) ?_
              refine go (u' := s₁.setTop (mkF m 87 #[.val (.int p0), .val (.int nn), .val (.int ga), .val (.int pa), .val (.int gb), .val (.int pb), .val (.int gc), .val (.int pc), .unset, .unset, .unset, .unset, .unset, .unset, .unset, .unset, .unset, .unset, .unset, .unset, .unset, .unset] [(.int nn)])) (fun _ ks_ => XS.iloadN X0.here hx rfl (hb hby at_86) rfl  ks_) ?_
              refine go (u' := s₁.setTop (mkF m 88 #[.val (.int p0), .val (.int nn), .val (.int ga), .val (.int pa), .val (.int gb), .val (.int pb), .val (.int gc), .val (.int pc), .unset, .unset, .unset, .unset, .unset, .unset, .unset, .unset, .unset, .unset, .unset, .unset, .unset, .unset] [(.int (1 : Int32)), (.int nn)])) (fun _ ks_ => XS.iconst X0.here hx rfl (hb hby at_87) ks_) ?_
              have J96_7 : ∀ aa : Int32, aa = (B (¬ (nn < (1 : Int32)))) → Go p.tables e below G (s₁.setTop (mkF m 96 #[.val (.int p0), .val (.int nn), .val (.int ga), .val (.int pa), .val (.int gb), .val (.int pb), .val (.int gc), .val (.int pc), .unset, .unset, .unset, .unset, .unset, .unset, .unset, .unset, .unset, .unset, .unset, .unset, .unset, .unset] [(.int aa)])) := by
                intro aa haa
                refine go (u' := s₁.setTop (mkF m 98 #[.val (.int p0), .val (.int nn), .val (.int ga), .val (.int pa), .val (.int gb), .val (.int pb), .val (.int gc), .val (.int pc), .val (.int aa), .unset, .unset, .unset, .unset, .unset, .unset, .unset, .unset, .unset, .unset, .unset, .unset, .unset] [])) (fun _ ks_ => XS.istore X0.here hx rfl (hb hby at_96) rfl  (l' := #[.val (.int p0), .val (.int nn), .val (.int ga), .val (.int pa), .val (.int gb), .val (.int pb), .val (.int gc), .val (.int pc), .val (.int aa), .unset, .unset, .unset, .unset, .unset, .unset, .unset, .unset, .unset, .unset, .unset, .unset, .unset]) rfl ks_) ?_
                refine go (u' := s₁.setTop (mkF m 99 #[.val (.int p0), .val (.int nn), .val (.int ga), .val (.int pa), .val (.int gb), .val (.int pb), .val (.int gc), .val (.int pc), .val (.int aa), .unset, .unset, .unset, .unset, .unset, .unset, .unset, .unset, .unset, .unset, .unset, .unset, .unset] [(.int nn)])) (fun _ ks_ => XS.iloadN X0.here hx rfl (hb hby at_98) rfl  ks_) ?_
                refine go (u' := s₁.setTop (mkF m 100 #[.val (.int p0), .val (.int nn), .val (.int ga), .val (.int pa), .val (.int gb), .val (.int pb), .val (.int gc), .val (.int pc), .val (.int aa), .unset, .unset, .unset, .unset, .unset, .unset, .unset, .unset, .unset, .unset, .unset, .unset, .unset] [(.int (2 : Int32)), (.int nn)])) (fun _ ks_ => XS.iconst X0.here hx rfl (hb hby at_99) ks_) ?_
                have J108_8 : ∀ ab : Int32, ab = (B (¬ (nn < (2 : Int32)))) → Go p.tables e below G (s₁.setTop (mkF m 108 #[.val (.int p0), .val (.int nn), .val (.int ga), .val (.int pa), .val (.int gb), .val (.int pb), .val (.int gc), .val (.int pc), .val (.int aa), .unset, .unset, .unset, .unset, .unset, .unset, .unset, .unset, .unset, .unset, .unset, .unset, .unset] [(.int ab)])) := by
                  intro ab hab
                  refine go (u' := s₁.setTop (mkF m 110 #[.val (.int p0), .val (.int nn), .val (.int ga), .val (.int pa), .val (.int gb), .val (.int pb), .val (.int gc), .val (.int pc), .val (.int aa), .val (.int ab), .unset, .unset, .unset, .unset, .unset, .unset, .unset, .unset, .unset, .unset, .unset, .unset] [])) (fun _ ks_ => XS.istore X0.here hx rfl (hb hby at_108) rfl  (l' := #[.val (.int p0), .val (.int nn), .val (.int ga), .val (.int pa), .val (.int gb), .val (.int pb), .val (.int gc), .val (.int pc), .val (.int aa), .val (.int ab), .unset, .unset, .unset, .unset, .unset, .unset, .unset, .unset, .unset, .unset, .unset, .unset]) rfl ks_) ?_
                  refine go (u' := s₁.setTop (mkF m 111 #[.val (.int p0), .val (.int nn), .val (.int ga), .val (.int pa), .val (.int gb), .val (.int pb), .val (.int gc), .val (.int pc), .val (.int aa), .val (.int ab), .unset, .unset, .unset, .unset, .unset, .unset, .unset, .unset, .unset, .unset, .unset, .unset] [(.int nn)])) (fun _ ks_ => XS.iloadN X0.here hx rfl (hb hby at_110) rfl  ks_) ?_
                  refine go (u' := s₁.setTop (mkF m 112 #[.val (.int p0), .val (.int nn), .val (.int ga), .val (.int pa), .val (.int gb), .val (.int pb), .val (.int gc), .val (.int pc), .val (.int aa), .val (.int ab), .unset, .unset, .unset, .unset, .unset, .unset, .unset, .unset, .unset, .unset, .unset, .unset] [(.int (3 : Int32)), (.int nn)])) (fun _ ks_ => XS.iconst X0.here hx rfl (hb hby at_111) ks_) ?_
                  have J120_9 : ∀ ac : Int32, ac = (B (¬ (nn < (3 : Int32)))) → Go p.tables e below G (s₁.setTop (mkF m 120 #[.val (.int p0), .val (.int nn), .val (.int ga), .val (.int pa), .val (.int gb), .val (.int pb), .val (.int gc), .val (.int pc), .val (.int aa), .val (.int ab), .unset, .unset, .unset, .unset, .unset, .unset, .unset, .unset, .unset, .unset, .unset, .unset] [(.int ac)])) := by
                    intro ac hac
                    refine go (u' := s₁.setTop (mkF m 122 #[.val (.int p0), .val (.int nn), .val (.int ga), .val (.int pa), .val (.int gb), .val (.int pb), .val (.int gc), .val (.int pc), .val (.int aa), .val (.int ab), .val (.int ac), .unset, .unset, .unset, .unset, .unset, .unset, .unset, .unset, .unset, .unset, .unset] [])) (fun _ ks_ => XS.istore X0.here hx rfl (hb hby at_120) rfl  (l' := #[.val (.int p0), .val (.int nn), .val (.int ga), .val (.int pa), .val (.int gb), .val (.int pb), .val (.int gc), .val (.int pc), .val (.int aa), .val (.int ab), .val (.int ac), .unset, .unset, .unset, .unset, .unset, .unset, .unset, .unset, .unset, .unset, .unset]) rfl ks_) ?_
                    obtain ⟨T1, h1, X1, e1, E1, A1, D1, -, st1⟩ := newO X0 hx hZ hown (ww hw 0 rfl) (ww hw 1 rfl) (ww hw 2 rfl) e0 (g := (mkF m 122 #[.val (.int p0), .val (.int nn), .val (.int ga), .val (.int pa), .val (.int gb), .val (.int pb), .val (.int gc), .val (.int pc), .val (.int aa), .val (.int ab), .val (.int ac), .unset, .unset, .unset, .unset, .unset, .unset, .unset, .unset, .unset, .unset, .unset] [])) rfl (hb hby at_122) (by decide) (by decide)
                    obtain ⟨b1, g1⟩ : ∃ z, z = h0.size := ⟨_, rfl⟩
                    rw [← g1] at A1 D1 st1
                    have g_b1 : n0 ≤ b1 := Nat.le_trans Z0 (Nat.le_of_eq g1.symm)
                    have sz_b1 : h0.size ≤ b1 := Nat.le_trans (Keep.refl h0 []).1 (Nat.le_of_eq g1.symm)
                    have K1 : Keep h0 h1 [] := (Keep.refl h0 []).ext E1
                    have Z1 : n0 ≤ h1.size := Nat.le_trans Z0 E1.1
                    have Fa2 : Fld Z h1 b1 "com/example/chartwright/chartwright/eval/ClassScore" "predictedOut" "J" (.long (0 : Int64)) := D1 (Or.inl (ww hw 19 rfl)) (ty := .long) (by decide)
                    have Fa3 : Fld Z h1 b1 "com/example/chartwright/chartwright/eval/ClassScore" "correct" "J" (.long (0 : Int64)) := D1 (Or.inl (ww hw 26 rfl)) (ty := .long) (by decide)
                    have Fa4 : Fld Z h1 b1 "com/example/chartwright/chartwright/eval/ClassScore" "words" "J" (.long (0 : Int64)) := D1 (Or.inl (ww hw 28 rfl)) (ty := .long) (by decide)
                    have Fa5 : Fld Z h1 b1 "com/example/chartwright/chartwright/eval/ClassScore" "correctOut" "J" (.long (0 : Int64)) := D1 (Or.inl (ww hw 42 rfl)) (ty := .long) (by decide)
                    have Fa6 : Fld Z h1 b1 "com/example/chartwright/chartwright/eval/ClassScore" "goldOut" "J" (.long (0 : Int64)) := D1 (Or.inl (ww hw 49 rfl)) (ty := .long) (by decide)
                    refine go (u' := T1.setTop (mkF m 125 #[.val (.int p0), .val (.int nn), .val (.int ga), .val (.int pa), .val (.int gb), .val (.int pb), .val (.int gc), .val (.int pc), .val (.int aa), .val (.int ab), .val (.int ac), .unset, .unset, .unset, .unset, .unset, .unset, .unset, .unset, .unset, .unset, .unset] [(.ref b1)])) st1 ?_
                    refine go (u' := T1.setTop (mkF m 126 #[.val (.int p0), .val (.int nn), .val (.int ga), .val (.int pa), .val (.int gb), .val (.int pb), .val (.int gc), .val (.int pc), .val (.int aa), .val (.int ab), .val (.int ac), .unset, .unset, .unset, .unset, .unset, .unset, .unset, .unset, .unset, .unset, .unset] [(.ref b1), (.ref b1)])) (fun _ ks_ => XS.dup X1.here hx rfl (hb hby at_125) rfl rfl ks_) ?_
                    obtain ⟨_, _, ⟨T7, L7, k7, n7⟩, -, X7, ⟨Lc7, hQ7, l7, y7, z7⟩, st7⟩ := X1.specialBack hx (y := (⟨"com/example/chartwright/chartwright/eval/ClassScore", "<init>", "()V"⟩ : MethodName)) rfl hown (mvT hZ (ww hw 3 rfl)) (mvT hZ (ww hw 4 rfl)) (mvT hZ (ww hw 5 rfl)) (by decide) (backOf (W := 1) (rm1 l Z a0 hw [] b1 h1 n0 Z1 g_b1 A1 Fa2 Fa3 Fa4 Fa5 Fa6) hZ (ww hw 5 rfl) (ww hw 2 rfl) (by decide) (by decide)) (g := (mkF m 126 #[.val (.int p0), .val (.int nn), .val (.int ga), .val (.int pa), .val (.int gb), .val (.int pb), .val (.int gc), .val (.int pc), .val (.int aa), .val (.int ab), .val (.int ac), .unset, .unset, .unset, .unset, .unset, .unset, .unset, .unset, .unset, .unset, .unset] [(.ref b1), (.ref b1)])) rfl (by rw [hml]; rfl) (Steps.refl _) (a := b1) (argsL := []) (rest := [(.ref b1)]) (lenOf pd__40__41_V rfl) rfl (by show 2 * 0 + _ ≤ _; exact Nat.le_of_eq rfl) (hb hby at_126) (fun _ _ => ⟨rfl, e1, (by decide : 1 + 0 ≤ _), (by decide : 5 + 0 ≤ _)⟩)
                    dsimp only [Pt.U, Pt.locs, Pt.cells, Pt.slots] at X7 l7 y7 z7 st7 hQ7
                    subst l7 y7 z7
                    obtain ⟨rfl, N7q, Kq7, Fa8, Fa9, Fa10, Fa11, Fa12, Fa13⟩ := hQ7
                    have N7 := Fr.app N0 N7q
                    have K7 : Keep h0 T7.heap [] := K1.trans Kq7 (allS (P := fun x => x ∈ [] ∨ h0.size ≤ x) (Or.inr sz_b1) all0)
                    have Z7 : n0 ≤ T7.heap.size := Nat.le_trans Z1 Kq7.1
                    have Fa14 : Exa Z T7.heap b1 "com/example/chartwright/chartwright/eval/ClassScore" := A1.keep Kq7
                    refine goT (u' := T7.setTop (mkF m 129 #[.val (.int p0), .val (.int nn), .val (.int ga), .val (.int pa), .val (.int gb), .val (.int pb), .val (.int gc), .val (.int pc), .val (.int aa), .val (.int ab), .val (.int ac), .unset, .unset, .unset, .unset, .unset, .unset, .unset, .unset, .unset, .unset, .unset] [(.ref b1)])) st7 ?_
                    refine go (u' := T7.setTop (mkF m 131 #[.val (.int p0), .val (.int nn), .val (.int ga), .val (.int pa), .val (.int gb), .val (.int pb), .val (.int gc), .val (.int pc), .val (.int aa), .val (.int ab), .val (.int ac), .val (.ref b1), .unset, .unset, .unset, .unset, .unset, .unset, .unset, .unset, .unset, .unset] [])) (fun _ ks_ => XS.astore X7.here hx rfl (hb hby at_129) rfl rfl (l' := #[.val (.int p0), .val (.int nn), .val (.int ga), .val (.int pa), .val (.int gb), .val (.int pb), .val (.int gc), .val (.int pc), .val (.int aa), .val (.int ab), .val (.int ac), .val (.ref b1), .unset, .unset, .unset, .unset, .unset, .unset, .unset, .unset, .unset, .unset]) rfl ks_) ?_
                    have C143_10 : ∀ (wd : Int64) (ct : Int64) (po : Int64) (gg : Int64) (co : Int64) (T15 : State) (h15 : Heap) (Ls15 : List Loc), (Stand p l e room_1 s m #[(.int p0)] below meth c T15 Ls15 1 5) → (T15.heap = h15) → (Fr n0 Ls15) → (n0 ≤ h15.size) → (Keep h0 h15 []) → (Exa Z h15 b1 "com/example/chartwright/chartwright/eval/ClassScore") → (Fld Z h15 b1 "com/example/chartwright/chartwright/eval/ClassScore" "predictedOut" "J" (.long po)) → (Fld Z h15 b1 "com/example/chartwright/chartwright/eval/ClassScore" "correct" "J" (.long ct)) → (Fld Z h15 b1 "com/example/chartwright/chartwright/eval/ClassScore" "words" "J" (.long wd)) → (Fld Z h15 b1 "com/example/chartwright/chartwright/eval/ClassScore" "correctOut" "J" (.long co)) → (Fld Z h15 b1 "com/example/chartwright/chartwright/eval/ClassScore" "goldOut" "J" (.long gg)) → (wd = ((0 : Int64) + X aa True)) → (ct = ((0 : Int64) + X aa (ga = pa))) → (po = ((0 : Int64) + X aa (pa = 0))) → (gg = ((0 : Int64) + X aa (ga = 0))) → (co = ((0 : Int64) + X aa (ga = 0 ∧ pa = 0))) → Go p.tables e below G (T15.setTop (mkF m 143 #[.val (.int p0), .val (.int nn), .val (.int ga), .val (.int pa), .val (.int gb), .val (.int pb), .val (.int gc), .val (.int pc), .val (.int aa), .val (.int ab), .val (.int ac), .val (.ref b1), .unset, .unset, .unset, .unset, .unset, .unset, .unset, .unset, .unset, .unset] [])) := by
                      intro wd ct po gg co T15 h15 Ls15 X15 e15 N15 Z15 K15 F15_0 F15_1 F15_2 F15_3 F15_4 F15_5 h_wd h_ct h_po h_gg h_co
                      have C157_11 : ∀ (wd : Int64) (ct : Int64) (po : Int64) (gg : Int64) (co : Int64) (T16 : State) (h16 : Heap) (Ls16 : List Loc), (Stand p l e room_1 s m #[(.int p0)] below meth c T16 Ls16 1 5) → (T16.heap = h16) → (Fr n0 Ls16) → (n0 ≤ h16.size) → (Keep h0 h16 []) → (Exa Z h16 b1 "com/example/chartwright/chartwright/eval/ClassScore") → (Fld Z h16 b1 "com/example/chartwright/chartwright/eval/ClassScore" "predictedOut" "J" (.long po)) → (Fld Z h16 b1 "com/example/chartwright/chartwright/eval/ClassScore" "correct" "J" (.long ct)) → (Fld Z h16 b1 "com/example/chartwright/chartwright/eval/ClassScore" "words" "J" (.long wd)) → (Fld Z h16 b1 "com/example/chartwright/chartwright/eval/ClassScore" "correctOut" "J" (.long co)) → (Fld Z h16 b1 "com/example/chartwright/chartwright/eval/ClassScore" "goldOut" "J" (.long gg)) → (wd = (((0 : Int64) + X aa True) + X ab True)) → (ct = (((0 : Int64) + X aa (ga = pa)) + X ab (gb = pb))) → (po = (((0 : Int64) + X aa (pa = 0)) + X ab (pb = 0))) → (gg = (((0 : Int64) + X aa (ga = 0)) + X ab (gb = 0))) → (co = (((0 : Int64) + X aa (ga = 0 ∧ pa = 0)) + X ab (gb = 0 ∧ pb = 0))) → Go p.tables e below G (T16.setTop (mkF m 157 #[.val (.int p0), .val (.int nn), .val (.int ga), .val (.int pa), .val (.int gb), .val (.int pb), .val (.int gc), .val (.int pc), .val (.int aa), .val (.int ab), .val (.int ac), .val (.ref b1), .unset, .unset, .unset, .unset, .unset, .unset, .unset, .unset, .unset, .unset] [])) := by
                        intro wd ct po gg co T16 h16 Ls16 X16 e16 N16 Z16 K16 F16_0 F16_1 F16_2 F16_3 F16_4 F16_5 h_wd h_ct h_po h_gg h_co
                        have C171_12 : ∀ (wd : Int64) (ct : Int64) (po : Int64) (gg : Int64) (co : Int64) (T17 : State) (h17 : Heap) (Ls17 : List Loc), (Stand p l e room_1 s m #[(.int p0)] below meth c T17 Ls17 1 5) → (T17.heap = h17) → (Fr n0 Ls17) → (n0 ≤ h17.size) → (Keep h0 h17 []) → (Exa Z h17 b1 "com/example/chartwright/chartwright/eval/ClassScore") → (Fld Z h17 b1 "com/example/chartwright/chartwright/eval/ClassScore" "predictedOut" "J" (.long po)) → (Fld Z h17 b1 "com/example/chartwright/chartwright/eval/ClassScore" "correct" "J" (.long ct)) → (Fld Z h17 b1 "com/example/chartwright/chartwright/eval/ClassScore" "words" "J" (.long wd)) → (Fld Z h17 b1 "com/example/chartwright/chartwright/eval/ClassScore" "correctOut" "J" (.long co)) → (Fld Z h17 b1 "com/example/chartwright/chartwright/eval/ClassScore" "goldOut" "J" (.long gg)) → (wd = ((((0 : Int64) + X aa True) + X ab True) + X ac True)) → (ct = ((((0 : Int64) + X aa (ga = pa)) + X ab (gb = pb)) + X ac (gc = pc))) → (po = ((((0 : Int64) + X aa (pa = 0)) + X ab (pb = 0)) + X ac (pc = 0))) → (gg = ((((0 : Int64) + X aa (ga = 0)) + X ab (gb = 0)) + X ac (gc = 0))) → (co = ((((0 : Int64) + X aa (ga = 0 ∧ pa = 0)) + X ab (gb = 0 ∧ pb = 0)) + X ac (gc = 0 ∧ pc = 0))) → Go p.tables e below G (T17.setTop (mkF m 171 #[.val (.int p0), .val (.int nn), .val (.int ga), .val (.int pa), .val (.int gb), .val (.int pb), .val (.int gc), .val (.int pc), .val (.int aa), .val (.int ab), .val (.int ac), .val (.ref b1), .unset, .unset, .unset, .unset, .unset, .unset, .unset, .unset, .unset, .unset] [])) := by
                          intro wd ct po gg co T17 h17 Ls17 X17 e17 N17 Z17 K17 F17_0 F17_1 F17_2 F17_3 F17_4 F17_5 h_wd h_ct h_po h_gg h_co
                          refine go (u' := T17.setTop (mkF m 172 #[.val (.int p0), .val (.int nn), .val (.int ga), .val (.int pa), .val (.int gb), .val (.int pb), .val (.int gc), .val (.int pc), .val (.int aa), .val (.int ab), .val (.int ac), .val (.ref b1), .unset, .unset, .unset, .unset, .unset, .unset, .unset, .unset, .unset, .unset] [(.int nn)])) (fun _ ks_ => XS.iloadN X17.here hx rfl (hb hby at_171) rfl  ks_) ?_
                          refine go (u' := T17.setTop (mkF m 173 #[.val (.int p0), .val (.int nn), .val (.int ga), .val (.int pa), .val (.int gb), .val (.int pb), .val (.int gc), .val (.int pc), .val (.int aa), .val (.int ab), .val (.int ac), .val (.ref b1), .unset, .unset, .unset, .unset, .unset, .unset, .unset, .unset, .unset, .unset] [(.long (nn.toInt64))])) (fun _ ks_ => XS.i2l X17.here hx rfl (hb hby at_172) rfl ks_) ?_
                          refine go (u' := T17.setTop (mkF m 175 #[.val (.int p0), .val (.int nn), .val (.int ga), .val (.int pa), .val (.int gb), .val (.int pb), .val (.int gc), .val (.int pc), .val (.int aa), .val (.int ab), .val (.int ac), .val (.ref b1), .val (.long (nn.toInt64)), .second, .unset, .unset, .unset, .unset, .unset, .unset, .unset, .unset] [])) (fun _ ks_ => XS.lstore X17.here hx rfl (hb hby at_173) rfl  (l' := #[.val (.int p0), .val (.int nn), .val (.int ga), .val (.int pa), .val (.int gb), .val (.int pb), .val (.int gc), .val (.int pc), .val (.int aa), .val (.int ab), .val (.int ac), .val (.ref b1), .val (.long (nn.toInt64)), .second, .unset, .unset, .unset, .unset, .unset, .unset, .unset, .unset]) rfl ks_) ?_
                          refine go (u' := T17.setTop (mkF m 177 #[.val (.int p0), .val (.int nn), .val (.int ga), .val (.int pa), .val (.int gb), .val (.int pb), .val (.int gc), .val (.int pc), .val (.int aa), .val (.int ab), .val (.int ac), .val (.ref b1), .val (.long (nn.toInt64)), .second, .unset, .unset, .unset, .unset, .unset, .unset, .unset, .unset] [(.int aa)])) (fun _ ks_ => XS.iload X17.here hx rfl (hb hby at_175) rfl  ks_) ?_
                          refine go (u' := T17.setTop (mkF m 178 #[.val (.int p0), .val (.int nn), .val (.int ga), .val (.int pa), .val (.int gb), .val (.int pb), .val (.int gc), .val (.int pc), .val (.int aa), .val (.int ab), .val (.int ac), .val (.ref b1), .val (.long (nn.toInt64)), .second, .unset, .unset, .unset, .unset, .unset, .unset, .unset, .unset] [(.int ga), (.int aa)])) (fun _ ks_ => XS.iloadN X17.here hx rfl (hb hby at_177) rfl  ks_) ?_
                          refine go (u' := T17.setTop (mkF m 179 #[.val (.int p0), .val (.int nn), .val (.int ga), .val (.int pa), .val (.int gb), .val (.int pb), .val (.int gc), .val (.int pc), .val (.int aa), .val (.int ab), .val (.int ac), .val (.ref b1), .val (.long (nn.toInt64)), .second, .unset, .unset, .unset, .unset, .unset, .unset, .unset, .unset] [(.int pa), (.int ga), (.int aa)])) (fun _ ks_ => XS.iloadN X17.here hx rfl (hb hby at_178) rfl  ks_) ?_
                          have J187_13 : ∀ v187_13 : Int32, v187_13 = (B (ga = pa)) → Go p.tables e below G (T17.setTop (mkF m 187 #[.val (.int p0), .val (.int nn), .val (.int ga), .val (.int pa), .val (.int gb), .val (.int pb), .val (.int gc), .val (.int pc), .val (.int aa), .val (.int ab), .val (.int ac), .val (.ref b1), .val (.long (nn.toInt64)), .second, .unset, .unset, .unset, .unset, .unset, .unset, .unset, .unset] [(.int v187_13), (.int aa)])) := by
                            intro v187_13 hv187_13
                            subst hv187_13
                            obtain ⟨_, _, ⟨T18, L18, k18, n18⟩, -, X18, ⟨Lc18, hQ18, l18, y18, z18⟩, st18⟩ := Jvm.LawKit.callS X17 hx (y := (⟨"com/example/chartwright/chartwright/eval/ClassScoreAddPinLaw", "on", "(ZZ)J"⟩ : MethodName)) hown (mvT hZ (ww hw 9 rfl)) (mvT hZ (ww hw 10 rfl)) (mvT hZ (ww hw 11 rfl)) (mvT hZ (ww hw 12 rfl)) (by decide) (backOf (W := 0) (rm3 l Z a0 hw [] aa (B (ga = pa)) h17 n0 Z17) hZ (ww hw 12 rfl) (ww hw 11 rfl) (by decide) (by decide)) (g := (mkF m 187 #[.val (.int p0), .val (.int nn), .val (.int ga), .val (.int pa), .val (.int gb), .val (.int pb), .val (.int gc), .val (.int pc), .val (.int aa), .val (.int ab), .val (.int ac), .val (.ref b1), .val (.long (nn.toInt64)), .second, .unset, .unset, .unset, .unset, .unset, .unset, .unset, .unset] [(.int (B (ga = pa))), (.int aa)])) rfl (by rw [hml]; rfl) (argsL := [(.int aa), (.int (B (ga = pa)))]) (rest := []) (lenOf pd__40_ZZ_41_J rfl) rfl (by show 2 * 0 + _ ≤ _; exact Nat.le_of_eq rfl) (hb hby at_187) (fun _ _ => ⟨rfl, e17, (by decide : 1 + 0 ≤ _), (by decide : 5 + 0 ≤ _)⟩)
                            dsimp only [Pt.U, Pt.locs, Pt.cells, Pt.slots] at X18 l18 y18 z18 st18 hQ18
                            subst l18 y18 z18
                            obtain ⟨rfl, N18q, eq18⟩ := hQ18
                            have N18 := Fr.app N17 N18q
                            refine go (u' := T18.setTop (mkF m 190 #[.val (.int p0), .val (.int nn), .val (.int ga), .val (.int pa), .val (.int gb), .val (.int pb), .val (.int gc), .val (.int pc), .val (.int aa), .val (.int ab), .val (.int ac), .val (.ref b1), .val (.long (nn.toInt64)), .second, .unset, .unset, .unset, .unset, .unset, .unset, .unset, .unset] [(.long (own_on aa (B (ga = pa))))])) st18 ?_
                            refine go (u' := T18.setTop (mkF m 192 #[.val (.int p0), .val (.int nn), .val (.int ga), .val (.int pa), .val (.int gb), .val (.int pb), .val (.int gc), .val (.int pc), .val (.int aa), .val (.int ab), .val (.int ac), .val (.ref b1), .val (.long (nn.toInt64)), .second, .unset, .unset, .unset, .unset, .unset, .unset, .unset, .unset] [(.int ab), (.long (own_on aa (B (ga = pa))))])) (fun _ ks_ => XS.iload X18.here hx rfl (hb hby at_190) rfl  ks_) ?_
                            refine go (u' := T18.setTop (mkF m 194 #[.val (.int p0), .val (.int nn), .val (.int ga), .val (.int pa), .val (.int gb), .val (.int pb), .val (.int gc), .val (.int pc), .val (.int aa), .val (.int ab), .val (.int ac), .val (.ref b1), .val (.long (nn.toInt64)), .second, .unset, .unset, .unset, .unset, .unset, .unset, .unset, .unset] [(.int gb), (.int ab), (.long (own_on aa (B (ga = pa))))])) (fun _ ks_ => XS.iload X18.here hx rfl (hb hby at_192) rfl  ks_) ?_
                            refine go (u' := T18.setTop (mkF m 196 #[.val (.int p0), .val (.int nn), .val (.int ga), .val (.int pa), .val (.int gb), .val (.int pb), .val (.int gc), .val (.int pc), .val (.int aa), .val (.int ab), .val (.int ac), .val (.ref b1), .val (.long (nn.toInt64)), .second, .unset, .unset, .unset, .unset, .unset, .unset, .unset, .unset] [(.int pb), (.int gb), (.int ab), (.long (own_on aa (B (ga = pa))))])) (fun _ ks_ => XS.iload X18.here hx rfl (hb hby at_194) rfl  ks_) ?_
                            have J204_14 : ∀ v204_14 : Int32, v204_14 = (B (gb = pb)) → Go p.tables e below G (T18.setTop (mkF m 204 #[.val (.int p0), .val (.int nn), .val (.int ga), .val (.int pa), .val (.int gb), .val (.int pb), .val (.int gc), .val (.int pc), .val (.int aa), .val (.int ab), .val (.int ac), .val (.ref b1), .val (.long (nn.toInt64)), .second, .unset, .unset, .unset, .unset, .unset, .unset, .unset, .unset] [(.int v204_14), (.int ab), (.long (own_on aa (B (ga = pa))))])) := by
                              intro v204_14 hv204_14
                              subst hv204_14
                              obtain ⟨_, _, ⟨T19, L19, k19, n19⟩, -, X19, ⟨Lc19, hQ19, l19, y19, z19⟩, st19⟩ := Jvm.LawKit.callS X18 hx (y := (⟨"com/example/chartwright/chartwright/eval/ClassScoreAddPinLaw", "on", "(ZZ)J"⟩ : MethodName)) hown (mvT hZ (ww hw 9 rfl)) (mvT hZ (ww hw 10 rfl)) (mvT hZ (ww hw 11 rfl)) (mvT hZ (ww hw 12 rfl)) (by decide) (backOf (W := 2) (rm3 l Z a0 hw [] ab (B (gb = pb)) h17 n0 Z17) hZ (ww hw 12 rfl) (ww hw 11 rfl) (by decide) (by decide)) (g := (mkF m 204 #[.val (.int p0), .val (.int nn), .val (.int ga), .val (.int pa), .val (.int gb), .val (.int pb), .val (.int gc), .val (.int pc), .val (.int aa), .val (.int ab), .val (.int ac), .val (.ref b1), .val (.long (nn.toInt64)), .second, .unset, .unset, .unset, .unset, .unset, .unset, .unset, .unset] [(.int (B (gb = pb))), (.int ab), (.long (own_on aa (B (ga = pa))))])) rfl (by rw [hml]; rfl) (argsL := [(.int ab), (.int (B (gb = pb)))]) (rest := [(.long (own_on aa (B (ga = pa))))]) (lenOf pd__40_ZZ_41_J rfl) rfl (by show 2 * 0 + _ ≤ _; exact Nat.le_of_eq rfl) (hb hby at_204) (fun _ _ => ⟨rfl, eq18, (by decide : 1 + 0 ≤ _), (by decide : 5 + 0 ≤ _)⟩)
                              dsimp only [Pt.U, Pt.locs, Pt.cells, Pt.slots] at X19 l19 y19 z19 st19 hQ19
                              subst l19 y19 z19
                              obtain ⟨rfl, N19q, eq19⟩ := hQ19
                              have N19 := Fr.app N18 N19q
                              refine go (u' := T19.setTop (mkF m 207 #[.val (.int p0), .val (.int nn), .val (.int ga), .val (.int pa), .val (.int gb), .val (.int pb), .val (.int gc), .val (.int pc), .val (.int aa), .val (.int ab), .val (.int ac), .val (.ref b1), .val (.long (nn.toInt64)), .second, .unset, .unset, .unset, .unset, .unset, .unset, .unset, .unset] [(.long (own_on ab (B (gb = pb)))), (.long (own_on aa (B (ga = pa))))])) st19 ?_
                              refine go (u' := T19.setTop (mkF m 208 #[.val (.int p0), .val (.int nn), .val (.int ga), .val (.int pa), .val (.int gb), .val (.int pb), .val (.int gc), .val (.int pc), .val (.int aa), .val (.int ab), .val (.int ac), .val (.ref b1), .val (.long (nn.toInt64)), .second, .unset, .unset, .unset, .unset, .unset, .unset, .unset, .unset] [(.long ((own_on aa (B (ga = pa))) + (own_on ab (B (gb = pb)))))])) (fun _ ks_ => XS.ladd X19.here hx rfl (hb hby at_207) rfl ks_) ?_
                              refine go (u' := T19.setTop (mkF m 210 #[.val (.int p0), .val (.int nn), .val (.int ga), .val (.int pa), .val (.int gb), .val (.int pb), .val (.int gc), .val (.int pc), .val (.int aa), .val (.int ab), .val (.int ac), .val (.ref b1), .val (.long (nn.toInt64)), .second, .unset, .unset, .unset, .unset, .unset, .unset, .unset, .unset] [(.int ac), (.long ((own_on aa (B (ga = pa))) + (own_on ab (B (gb = pb)))))])) (fun _ ks_ => XS.iload X19.here hx rfl (hb hby at_208) rfl  ks_) ?_
                              refine go (u' := T19.setTop (mkF m 212 #[.val (.int p0), .val (.int nn), .val (.int ga), .val (.int pa), .val (.int gb), .val (.int pb), .val (.int gc), .val (.int pc), .val (.int aa), .val (.int ab), .val (.int ac), .val (.ref b1), .val (.long (nn.toInt64)), .second, .unset, .unset, .unset, .unset, .unset, .unset, .unset, .unset] [(.int gc), (.int ac), (.long ((own_on aa (B (ga = pa))) + (own_on ab (B (gb = pb)))))])) (fun _ ks_ => XS.iload X19.here hx rfl (hb hby at_210) rfl  ks_) ?_
                              refine go (u' := T19.setTop (mkF m 214 #[.val (.int p0), .val (.int nn), .val (.int ga), .val (.int pa), .val (.int gb), .val (.int pb), .val (.int gc), .val (.int pc), .val (.int aa), .val (.int ab), .val (.int ac), .val (.ref b1), .val (.long (nn.toInt64)), .second, .unset, .unset, .unset, .unset, .unset, .unset, .unset, .unset] [(.int pc), (.int gc), (.int ac), (.long ((own_on aa (B (ga = pa))) + (own_on ab (B (gb = pb)))))])) (fun _ ks_ => XS.iload X19.here hx rfl (hb hby at_212) rfl  ks_) ?_
                              have J222_15 : ∀ v222_15 : Int32, v222_15 = (B (gc = pc)) → Go p.tables e below G (T19.setTop (mkF m 222 #[.val (.int p0), .val (.int nn), .val (.int ga), .val (.int pa), .val (.int gb), .val (.int pb), .val (.int gc), .val (.int pc), .val (.int aa), .val (.int ab), .val (.int ac), .val (.ref b1), .val (.long (nn.toInt64)), .second, .unset, .unset, .unset, .unset, .unset, .unset, .unset, .unset] [(.int v222_15), (.int ac), (.long ((own_on aa (B (ga = pa))) + (own_on ab (B (gb = pb)))))])) := by
                                intro v222_15 hv222_15
                                subst hv222_15
                                obtain ⟨_, _, ⟨T20, L20, k20, n20⟩, -, X20, ⟨Lc20, hQ20, l20, y20, z20⟩, st20⟩ := Jvm.LawKit.callS X19 hx (y := (⟨"com/example/chartwright/chartwright/eval/ClassScoreAddPinLaw", "on", "(ZZ)J"⟩ : MethodName)) hown (mvT hZ (ww hw 9 rfl)) (mvT hZ (ww hw 10 rfl)) (mvT hZ (ww hw 11 rfl)) (mvT hZ (ww hw 12 rfl)) (by decide) (backOf (W := 2) (rm3 l Z a0 hw [] ac (B (gc = pc)) h17 n0 Z17) hZ (ww hw 12 rfl) (ww hw 11 rfl) (by decide) (by decide)) (g := (mkF m 222 #[.val (.int p0), .val (.int nn), .val (.int ga), .val (.int pa), .val (.int gb), .val (.int pb), .val (.int gc), .val (.int pc), .val (.int aa), .val (.int ab), .val (.int ac), .val (.ref b1), .val (.long (nn.toInt64)), .second, .unset, .unset, .unset, .unset, .unset, .unset, .unset, .unset] [(.int (B (gc = pc))), (.int ac), (.long ((own_on aa (B (ga = pa))) + (own_on ab (B (gb = pb)))))])) rfl (by rw [hml]; rfl) (argsL := [(.int ac), (.int (B (gc = pc)))]) (rest := [(.long ((own_on aa (B (ga = pa))) + (own_on ab (B (gb = pb)))))]) (lenOf pd__40_ZZ_41_J rfl) rfl (by show 2 * 0 + _ ≤ _; exact Nat.le_of_eq rfl) (hb hby at_222) (fun _ _ => ⟨rfl, eq19, (by decide : 1 + 0 ≤ _), (by decide : 5 + 0 ≤ _)⟩)
                                dsimp only [Pt.U, Pt.locs, Pt.cells, Pt.slots] at X20 l20 y20 z20 st20 hQ20
                                subst l20 y20 z20
                                obtain ⟨rfl, N20q, eq20⟩ := hQ20
                                have N20 := Fr.app N19 N20q
                                refine go (u' := T20.setTop (mkF m 225 #[.val (.int p0), .val (.int nn), .val (.int ga), .val (.int pa), .val (.int gb), .val (.int pb), .val (.int gc), .val (.int pc), .val (.int aa), .val (.int ab), .val (.int ac), .val (.ref b1), .val (.long (nn.toInt64)), .second, .unset, .unset, .unset, .unset, .unset, .unset, .unset, .unset] [(.long (own_on ac (B (gc = pc)))), (.long ((own_on aa (B (ga = pa))) + (own_on ab (B (gb = pb)))))])) st20 ?_
                                refine go (u' := T20.setTop (mkF m 226 #[.val (.int p0), .val (.int nn), .val (.int ga), .val (.int pa), .val (.int gb), .val (.int pb), .val (.int gc), .val (.int pc), .val (.int aa), .val (.int ab), .val (.int ac), .val (.ref b1), .val (.long (nn.toInt64)), .second, .unset, .unset, .unset, .unset, .unset, .unset, .unset, .unset] [(.long (((own_on aa (B (ga = pa))) + (own_on ab (B (gb = pb)))) + (own_on ac (B (gc = pc)))))])) (fun _ ks_ => XS.ladd X20.here hx rfl (hb hby at_225) rfl ks_) ?_
                                refine go (u' := T20.setTop (mkF m 228 #[.val (.int p0), .val (.int nn), .val (.int ga), .val (.int pa), .val (.int gb), .val (.int pb), .val (.int gc), .val (.int pc), .val (.int aa), .val (.int ab), .val (.int ac), .val (.ref b1), .val (.long (nn.toInt64)), .second, .val (.long (((own_on aa (B (ga = pa))) + (own_on ab (B (gb = pb)))) + (own_on ac (B (gc = pc))))), .second, .unset, .unset, .unset, .unset, .unset, .unset] [])) (fun _ ks_ => XS.lstore X20.here hx rfl (hb hby at_226) rfl  (l' := #[.val (.int p0), .val (.int nn), .val (.int ga), .val (.int pa), .val (.int gb), .val (.int pb), .val (.int gc), .val (.int pc), .val (.int aa), .val (.int ab), .val (.int ac), .val (.ref b1), .val (.long (nn.toInt64)), .second, .val (.long (((own_on aa (B (ga = pa))) + (own_on ab (B (gb = pb)))) + (own_on ac (B (gc = pc))))), .second, .unset, .unset, .unset, .unset, .unset, .unset]) rfl ks_) ?_
                                obtain ⟨lc, hlc⟩ : ∃ z, z = (((own_on aa (B (ga = pa))) + (own_on ab (B (gb = pb)))) + (own_on ac (B (gc = pc)))) := ⟨_, rfl⟩
                                rw [← hlc]
                                refine go (u' := T20.setTop (mkF m 230 #[.val (.int p0), .val (.int nn), .val (.int ga), .val (.int pa), .val (.int gb), .val (.int pb), .val (.int gc), .val (.int pc), .val (.int aa), .val (.int ab), .val (.int ac), .val (.ref b1), .val (.long (nn.toInt64)), .second, .val (.long lc), .second, .unset, .unset, .unset, .unset, .unset, .unset] [(.int aa)])) (fun _ ks_ => XS.iload X20.here hx rfl (hb hby at_228) rfl  ks_) ?_
                                refine go (u' := T20.setTop (mkF m 231 #[.val (.int p0), .val (.int nn), .val (.int ga), .val (.int pa), .val (.int gb), .val (.int pb), .val (.int gc), .val (.int pc), .val (.int aa), .val (.int ab), .val (.int ac), .val (.ref b1), .val (.long (nn.toInt64)), .second, .val (.long lc), .second, .unset, .unset, .unset, .unset, .unset, .unset] [(.int pa), (.int aa)])) (fun _ ks_ => XS.iloadN X20.here hx rfl (hb hby at_230) rfl  ks_) ?_
                                have J239_16 : ∀ v239_16 : Int32, v239_16 = (B (pa = (0 : Int32))) → Go p.tables e below G (T20.setTop (mkF m 239 #[.val (.int p0), .val (.int nn), .val (.int ga), .val (.int pa), .val (.int gb), .val (.int pb), .val (.int gc), .val (.int pc), .val (.int aa), .val (.int ab), .val (.int ac), .val (.ref b1), .val (.long (nn.toInt64)), .second, .val (.long lc), .second, .unset, .unset, .unset, .unset, .unset, .unset] [(.int v239_16), (.int aa)])) := by
                                  intro v239_16 hv239_16
                                  subst hv239_16
                                  obtain ⟨_, _, ⟨T21, L21, k21, n21⟩, -, X21, ⟨Lc21, hQ21, l21, y21, z21⟩, st21⟩ := Jvm.LawKit.callS X20 hx (y := (⟨"com/example/chartwright/chartwright/eval/ClassScoreAddPinLaw", "on", "(ZZ)J"⟩ : MethodName)) hown (mvT hZ (ww hw 9 rfl)) (mvT hZ (ww hw 10 rfl)) (mvT hZ (ww hw 11 rfl)) (mvT hZ (ww hw 12 rfl)) (by decide) (backOf (W := 0) (rm3 l Z a0 hw [] aa (B (pa = (0 : Int32))) h17 n0 Z17) hZ (ww hw 12 rfl) (ww hw 11 rfl) (by decide) (by decide)) (g := (mkF m 239 #[.val (.int p0), .val (.int nn), .val (.int ga), .val (.int pa), .val (.int gb), .val (.int pb), .val (.int gc), .val (.int pc), .val (.int aa), .val (.int ab), .val (.int ac), .val (.ref b1), .val (.long (nn.toInt64)), .second, .val (.long lc), .second, .unset, .unset, .unset, .unset, .unset, .unset] [(.int (B (pa = (0 : Int32)))), (.int aa)])) rfl (by rw [hml]; rfl) (argsL := [(.int aa), (.int (B (pa = (0 : Int32))))]) (rest := []) (lenOf pd__40_ZZ_41_J rfl) rfl (by show 2 * 0 + _ ≤ _; exact Nat.le_of_eq rfl) (hb hby at_239) (fun _ _ => ⟨rfl, eq20, (by decide : 1 + 0 ≤ _), (by decide : 5 + 0 ≤ _)⟩)
                                  dsimp only [Pt.U, Pt.locs, Pt.cells, Pt.slots] at X21 l21 y21 z21 st21 hQ21
                                  subst l21 y21 z21
                                  obtain ⟨rfl, N21q, eq21⟩ := hQ21
                                  have N21 := Fr.app N20 N21q
                                  refine go (u' := T21.setTop (mkF m 242 #[.val (.int p0), .val (.int nn), .val (.int ga), .val (.int pa), .val (.int gb), .val (.int pb), .val (.int gc), .val (.int pc), .val (.int aa), .val (.int ab), .val (.int ac), .val (.ref b1), .val (.long (nn.toInt64)), .second, .val (.long lc), .second, .unset, .unset, .unset, .unset, .unset, .unset] [(.long (own_on aa (B (pa = (0 : Int32)))))])) st21 ?_
                                  refine go (u' := T21.setTop (mkF m 244 #[.val (.int p0), .val (.int nn), .val (.int ga), .val (.int pa), .val (.int gb), .val (.int pb), .val (.int gc), .val (.int pc), .val (.int aa), .val (.int ab), .val (.int ac), .val (.ref b1), .val (.long (nn.toInt64)), .second, .val (.long lc), .second, .unset, .unset, .unset, .unset, .unset, .unset] [(.int ab), (.long (own_on aa (B (pa = (0 : Int32)))))])) (fun _ ks_ => XS.iload X21.here hx rfl (hb hby at_242) rfl  ks_) ?_
                                  refine go (u' := T21.setTop (mkF m 246 #[.val (.int p0), .val (.int nn), .val (.int ga), .val (.int pa), .val (.int gb), .val (.int pb), .val (.int gc), .val (.int pc), .val (.int aa), .val (.int ab), .val (.int ac), .val (.ref b1), .val (.long (nn.toInt64)), .second, .val (.long lc), .second, .unset, .unset, .unset, .unset, .unset, .unset] [(.int pb), (.int ab), (.long (own_on aa (B (pa = (0 : Int32)))))])) (fun _ ks_ => XS.iload X21.here hx rfl (hb hby at_244) rfl  ks_) ?_
                                  have J254_17 : ∀ v254_17 : Int32, v254_17 = (B (pb = (0 : Int32))) → Go p.tables e below G (T21.setTop (mkF m 254 #[.val (.int p0), .val (.int nn), .val (.int ga), .val (.int pa), .val (.int gb), .val (.int pb), .val (.int gc), .val (.int pc), .val (.int aa), .val (.int ab), .val (.int ac), .val (.ref b1), .val (.long (nn.toInt64)), .second, .val (.long lc), .second, .unset, .unset, .unset, .unset, .unset, .unset] [(.int v254_17), (.int ab), (.long (own_on aa (B (pa = (0 : Int32)))))])) := by
                                    intro v254_17 hv254_17
                                    subst hv254_17
                                    obtain ⟨_, _, ⟨T22, L22, k22, n22⟩, -, X22, ⟨Lc22, hQ22, l22, y22, z22⟩, st22⟩ := Jvm.LawKit.callS X21 hx (y := (⟨"com/example/chartwright/chartwright/eval/ClassScoreAddPinLaw", "on", "(ZZ)J"⟩ : MethodName)) hown (mvT hZ (ww hw 9 rfl)) (mvT hZ (ww hw 10 rfl)) (mvT hZ (ww hw 11 rfl)) (mvT hZ (ww hw 12 rfl)) (by decide) (backOf (W := 2) (rm3 l Z a0 hw [] ab (B (pb = (0 : Int32))) h17 n0 Z17) hZ (ww hw 12 rfl) (ww hw 11 rfl) (by decide) (by decide)) (g := (mkF m 254 #[.val (.int p0), .val (.int nn), .val (.int ga), .val (.int pa), .val (.int gb), .val (.int pb), .val (.int gc), .val (.int pc), .val (.int aa), .val (.int ab), .val (.int ac), .val (.ref b1), .val (.long (nn.toInt64)), .second, .val (.long lc), .second, .unset, .unset, .unset, .unset, .unset, .unset] [(.int (B (pb = (0 : Int32)))), (.int ab), (.long (own_on aa (B (pa = (0 : Int32)))))])) rfl (by rw [hml]; rfl) (argsL := [(.int ab), (.int (B (pb = (0 : Int32))))]) (rest := [(.long (own_on aa (B (pa = (0 : Int32)))))]) (lenOf pd__40_ZZ_41_J rfl) rfl (by show 2 * 0 + _ ≤ _; exact Nat.le_of_eq rfl) (hb hby at_254) (fun _ _ => ⟨rfl, eq21, (by decide : 1 + 0 ≤ _), (by decide : 5 + 0 ≤ _)⟩)
                                    dsimp only [Pt.U, Pt.locs, Pt.cells, Pt.slots] at X22 l22 y22 z22 st22 hQ22
                                    subst l22 y22 z22
                                    obtain ⟨rfl, N22q, eq22⟩ := hQ22
                                    have N22 := Fr.app N21 N22q
                                    refine go (u' := T22.setTop (mkF m 257 #[.val (.int p0), .val (.int nn), .val (.int ga), .val (.int pa), .val (.int gb), .val (.int pb), .val (.int gc), .val (.int pc), .val (.int aa), .val (.int ab), .val (.int ac), .val (.ref b1), .val (.long (nn.toInt64)), .second, .val (.long lc), .second, .unset, .unset, .unset, .unset, .unset, .unset] [(.long (own_on ab (B (pb = (0 : Int32))))), (.long (own_on aa (B (pa = (0 : Int32)))))])) st22 ?_
                                    refine go (u' := T22.setTop (mkF m 258 #[.val (.int p0), .val (.int nn), .val (.int ga), .val (.int pa), .val (.int gb), .val (.int pb), .val (.int gc), .val (.int pc), .val (.int aa), .val (.int ab), .val (.int ac), .val (.ref b1), .val (.long (nn.toInt64)), .second, .val (.long lc), .second, .unset, .unset, .unset, .unset, .unset, .unset] [(.long ((own_on aa (B (pa = (0 : Int32)))) + (own_on ab (B (pb = (0 : Int32))))))])) (fun _ ks_ => XS.ladd X22.here hx rfl (hb hby at_257) rfl ks_) ?_
                                    refine go (u' := T22.setTop (mkF m 260 #[.val (.int p0), .val (.int nn), .val (.int ga), .val (.int pa), .val (.int gb), .val (.int pb), .val (.int gc), .val (.int pc), .val (.int aa), .val (.int ab), .val (.int ac), .val (.ref b1), .val (.long (nn.toInt64)), .second, .val (.long lc), .second, .unset, .unset, .unset, .unset, .unset, .unset] [(.int ac), (.long ((own_on aa (B (pa = (0 : Int32)))) + (own_on ab (B (pb = (0 : Int32))))))])) (fun _ ks_ => XS.iload X22.here hx rfl (hb hby at_258) rfl  ks_) ?_
                                    refine go (u' := T22.setTop (mkF m 262 #[.val (.int p0), .val (.int nn), .val (.int ga), .val (.int pa), .val (.int gb), .val (.int pb), .val (.int gc), .val (.int pc), .val (.int aa), .val (.int ab), .val (.int ac), .val (.ref b1), .val (.long (nn.toInt64)), .second, .val (.long lc), .second, .unset, .unset, .unset, .unset, .unset, .unset] [(.int pc), (.int ac), (.long ((own_on aa (B (pa = (0 : Int32)))) + (own_on ab (B (pb = (0 : Int32))))))])) (fun _ ks_ => XS.iload X22.here hx rfl (hb hby at_260) rfl  ks_) ?_
                                    have J270_18 : ∀ v270_18 : Int32, v270_18 = (B (pc = (0 : Int32))) → Go p.tables e below G (T22.setTop (mkF m 270 #[.val (.int p0), .val (.int nn), .val (.int ga), .val (.int pa), .val (.int gb), .val (.int pb), .val (.int gc), .val (.int pc), .val (.int aa), .val (.int ab), .val (.int ac), .val (.ref b1), .val (.long (nn.toInt64)), .second, .val (.long lc), .second, .unset, .unset, .unset, .unset, .unset, .unset] [(.int v270_18), (.int ac), (.long ((own_on aa (B (pa = (0 : Int32)))) + (own_on ab (B (pb = (0 : Int32))))))])) := by
                                      intro v270_18 hv270_18
                                      subst hv270_18
                                      obtain ⟨_, _, ⟨T23, L23, k23, n23⟩, -, X23, ⟨Lc23, hQ23, l23, y23, z23⟩, st23⟩ := Jvm.LawKit.callS X22 hx (y := (⟨"com/example/chartwright/chartwright/eval/ClassScoreAddPinLaw", "on", "(ZZ)J"⟩ : MethodName)) hown (mvT hZ (ww hw 9 rfl)) (mvT hZ (ww hw 10 rfl)) (mvT hZ (ww hw 11 rfl)) (mvT hZ (ww hw 12 rfl)) (by decide) (backOf (W := 2) (rm3 l Z a0 hw [] ac (B (pc = (0 : Int32))) h17 n0 Z17) hZ (ww hw 12 rfl) (ww hw 11 rfl) (by decide) (by decide)) (g := (mkF m 270 #[.val (.int p0), .val (.int nn), .val (.int ga), .val (.int pa), .val (.int gb), .val (.int pb), .val (.int gc), .val (.int pc), .val (.int aa), .val (.int ab), .val (.int ac), .val (.ref b1), .val (.long (nn.toInt64)), .second, .val (.long lc), .second, .unset, .unset, .unset, .unset, .unset, .unset] [(.int (B (pc = (0 : Int32)))), (.int ac), (.long ((own_on aa (B (pa = (0 : Int32)))) + (own_on ab (B (pb = (0 : Int32))))))])) rfl (by rw [hml]; rfl) (argsL := [(.int ac), (.int (B (pc = (0 : Int32))))]) (rest := [(.long ((own_on aa (B (pa = (0 : Int32)))) + (own_on ab (B (pb = (0 : Int32))))))]) (lenOf pd__40_ZZ_41_J rfl) rfl (by show 2 * 0 + _ ≤ _; exact Nat.le_of_eq rfl) (hb hby at_270) (fun _ _ => ⟨rfl, eq22, (by decide : 1 + 0 ≤ _), (by decide : 5 + 0 ≤ _)⟩)
                                      dsimp only [Pt.U, Pt.locs, Pt.cells, Pt.slots] at X23 l23 y23 z23 st23 hQ23
                                      subst l23 y23 z23
                                      obtain ⟨rfl, N23q, eq23⟩ := hQ23
                                      have N23 := Fr.app N22 N23q
                                      refine go (u' := T23.setTop (mkF m 273 #[.val (.int p0), .val (.int nn), .val (.int ga), .val (.int pa), .val (.int gb), .val (.int pb), .val (.int gc), .val (.int pc), .val (.int aa), .val (.int ab), .val (.int ac), .val (.ref b1), .val (.long (nn.toInt64)), .second, .val (.long lc), .second, .unset, .unset, .unset, .unset, .unset, .unset] [(.long (own_on ac (B (pc = (0 : Int32))))), (.long ((own_on aa (B (pa = (0 : Int32)))) + (own_on ab (B (pb = (0 : Int32))))))])) st23 ?_
                                      refine go (u' := T23.setTop (mkF m 274 #[.val (.int p0), .val (.int nn), .val (.int ga), .val (.int pa), .val (.int gb), .val (.int pb), .val (.int gc), .val (.int pc), .val (.int aa), .val (.int ab), .val (.int ac), .val (.ref b1), .val (.long (nn.toInt64)), .second, .val (.long lc), .second, .unset, .unset, .unset, .unset, .unset, .unset] [(.long (((own_on aa (B (pa = (0 : Int32)))) + (own_on ab (B (pb = (0 : Int32))))) + (own_on ac (B (pc = (0 : Int32))))))])) (fun _ ks_ => XS.ladd X23.here hx rfl (hb hby at_273) rfl ks_) ?_
                                      refine go (u' := T23.setTop (mkF m 276 #[.val (.int p0), .val (.int nn), .val (.int ga), .val (.int pa), .val (.int gb), .val (.int pb), .val (.int gc), .val (.int pc), .val (.int aa), .val (.int ab), .val (.int ac), .val (.ref b1), .val (.long (nn.toInt64)), .second, .val (.long lc), .second, .val (.long (((own_on aa (B (pa = (0 : Int32)))) + (own_on ab (B (pb = (0 : Int32))))) + (own_on ac (B (pc = (0 : Int32)))))), .second, .unset, .unset, .unset, .unset] [])) (fun _ ks_ => XS.lstore X23.here hx rfl (hb hby at_274) rfl  (l' := #[.val (.int p0), .val (.int nn), .val (.int ga), .val (.int pa), .val (.int gb), .val (.int pb), .val (.int gc), .val (.int pc), .val (.int aa), .val (.int ab), .val (.int ac), .val (.ref b1), .val (.long (nn.toInt64)), .second, .val (.long lc), .second, .val (.long (((own_on aa (B (pa = (0 : Int32)))) + (own_on ab (B (pb = (0 : Int32))))) + (own_on ac (B (pc = (0 : Int32)))))), .second, .unset, .unset, .unset, .unset]) rfl ks_) ?_
                                      obtain ⟨lp, hlp⟩ : ∃ z, z = (((own_on aa (B (pa = (0 : Int32)))) + (own_on ab (B (pb = (0 : Int32))))) + (own_on ac (B (pc = (0 : Int32))))) := ⟨_, rfl⟩
                                      rw [← hlp]
                                      refine go (u' := T23.setTop (mkF m 278 #[.val (.int p0), .val (.int nn), .val (.int ga), .val (.int pa), .val (.int gb), .val (.int pb), .val (.int gc), .val (.int pc), .val (.int aa), .val (.int ab), .val (.int ac), .val (.ref b1), .val (.long (nn.toInt64)), .second, .val (.long lc), .second, .val (.long lp), .second, .unset, .unset, .unset, .unset] [(.int aa)])) (fun _ ks_ => XS.iload X23.here hx rfl (hb hby at_276) rfl  ks_) ?_
                                      refine go (u' := T23.setTop (mkF m 279 #[.val (.int p0), .val (.int nn), .val (.int ga), .val (.int pa), .val (.int gb), .val (.int pb), .val (.int gc), .val (.int pc), .val (.int aa), .val (.int ab), .val (.int ac), .val (.ref b1), .val (.long (nn.toInt64)), .second, .val (.long lc), .second, .val (.long lp), .second, .unset, .unset, .unset, .unset] [(.int ga), (.int aa)])) (fun _ ks_ => XS.iloadN X23.here hx rfl (hb hby at_278) rfl  ks_) ?_
                                      have J287_19 : ∀ v287_19 : Int32, v287_19 = (B (ga = (0 : Int32))) → Go p.tables e below G (T23.setTop (mkF m 287 #[.val (.int p0), .val (.int nn), .val (.int ga), .val (.int pa), .val (.int gb), .val (.int pb), .val (.int gc), .val (.int pc), .val (.int aa), .val (.int ab), .val (.int ac), .val (.ref b1), .val (.long (nn.toInt64)), .second, .val (.long lc), .second, .val (.long lp), .second, .unset, .unset, .unset, .unset] [(.int v287_19), (.int aa)])) := by
                                        intro v287_19 hv287_19
                                        subst hv287_19
                                        obtain ⟨_, _, ⟨T24, L24, k24, n24⟩, -, X24, ⟨Lc24, hQ24, l24, y24, z24⟩, st24⟩ := Jvm.LawKit.callS X23 hx (y := (⟨"com/example/chartwright/chartwright/eval/ClassScoreAddPinLaw", "on", "(ZZ)J"⟩ : MethodName)) hown (mvT hZ (ww hw 9 rfl)) (mvT hZ (ww hw 10 rfl)) (mvT hZ (ww hw 11 rfl)) (mvT hZ (ww hw 12 rfl)) (by decide) (backOf (W := 0) (rm3 l Z a0 hw [] aa (B (ga = (0 : Int32))) h17 n0 Z17) hZ (ww hw 12 rfl) (ww hw 11 rfl) (by decide) (by decide)) (g := (mkF m 287 #[.val (.int p0), .val (.int nn), .val (.int ga), .val (.int pa), .val (.int gb), .val (.int pb), .val (.int gc), .val (.int pc), .val (.int aa), .val (.int ab), .val (.int ac), .val (.ref b1), .val (.long (nn.toInt64)), .second, .val (.long lc), .second, .val (.long lp), .second, .unset, .unset, .unset, .unset] [(.int (B (ga = (0 : Int32)))), (.int aa)])) rfl (by rw [hml]; rfl) (argsL := [(.int aa), (.int (B (ga = (0 : Int32))))]) (rest := []) (lenOf pd__40_ZZ_41_J rfl) rfl (by show 2 * 0 + _ ≤ _; exact Nat.le_of_eq rfl) (hb hby at_287) (fun _ _ => ⟨rfl, eq23, (by decide : 1 + 0 ≤ _), (by decide : 5 + 0 ≤ _)⟩)
                                        dsimp only [Pt.U, Pt.locs, Pt.cells, Pt.slots] at X24 l24 y24 z24 st24 hQ24
                                        subst l24 y24 z24
                                        obtain ⟨rfl, N24q, eq24⟩ := hQ24
                                        have N24 := Fr.app N23 N24q
                                        refine go (u' := T24.setTop (mkF m 290 #[.val (.int p0), .val (.int nn), .val (.int ga), .val (.int pa), .val (.int gb), .val (.int pb), .val (.int gc), .val (.int pc), .val (.int aa), .val (.int ab), .val (.int ac), .val (.ref b1), .val (.long (nn.toInt64)), .second, .val (.long lc), .second, .val (.long lp), .second, .unset, .unset, .unset, .unset] [(.long (own_on aa (B (ga = (0 : Int32)))))])) st24 ?_
                                        refine go (u' := T24.setTop (mkF m 292 #[.val (.int p0), .val (.int nn), .val (.int ga), .val (.int pa), .val (.int gb), .val (.int pb), .val (.int gc), .val (.int pc), .val (.int aa), .val (.int ab), .val (.int ac), .val (.ref b1), .val (.long (nn.toInt64)), .second, .val (.long lc), .second, .val (.long lp), .second, .unset, .unset, .unset, .unset] [(.int ab), (.long (own_on aa (B (ga = (0 : Int32)))))])) (fun _ ks_ => XS.iload X24.here hx rfl (hb hby at_290) rfl  ks_) ?_
                                        refine go (u' := T24.setTop (mkF m 294 #[.val (.int p0), .val (.int nn), .val (.int ga), .val (.int pa), .val (.int gb), .val (.int pb), .val (.int gc), .val (.int pc), .val (.int aa), .val (.int ab), .val (.int ac), .val (.ref b1), .val (.long (nn.toInt64)), .second, .val (.long lc), .second, .val (.long lp), .second, .unset, .unset, .unset, .unset] [(.int gb), (.int ab), (.long (own_on aa (B (ga = (0 : Int32)))))])) (fun _ ks_ => XS.iload X24.here hx rfl (hb hby at_292) rfl  ks_) ?_
                                        have J302_20 : ∀ v302_20 : Int32, v302_20 = (B (gb = (0 : Int32))) → Go p.tables e below G (T24.setTop (mkF m 302 #[.val (.int p0), .val (.int nn), .val (.int ga), .val (.int pa), .val (.int gb), .val (.int pb), .val (.int gc), .val (.int pc), .val (.int aa), .val (.int ab), .val (.int ac), .val (.ref b1), .val (.long (nn.toInt64)), .second, .val (.long lc), .second, .val (.long lp), .second, .unset, .unset, .unset, .unset] [(.int v302_20), (.int ab), (.long (own_on aa (B (ga = (0 : Int32)))))])) := by
                                          intro v302_20 hv302_20
                                          subst hv302_20
                                          obtain ⟨_, _, ⟨T25, L25, k25, n25⟩, -, X25, ⟨Lc25, hQ25, l25, y25, z25⟩, st25⟩ := Jvm.LawKit.callS X24 hx (y := (⟨"com/example/chartwright/chartwright/eval/ClassScoreAddPinLaw", "on", "(ZZ)J"⟩ : MethodName)) hown (mvT hZ (ww hw 9 rfl)) (mvT hZ (ww hw 10 rfl)) (mvT hZ (ww hw 11 rfl)) (mvT hZ (ww hw 12 rfl)) (by decide) (backOf (W := 2) (rm3 l Z a0 hw [] ab (B (gb = (0 : Int32))) h17 n0 Z17) hZ (ww hw 12 rfl) (ww hw 11 rfl) (by decide) (by decide)) (g := (mkF m 302 #[.val (.int p0), .val (.int nn), .val (.int ga), .val (.int pa), .val (.int gb), .val (.int pb), .val (.int gc), .val (.int pc), .val (.int aa), .val (.int ab), .val (.int ac), .val (.ref b1), .val (.long (nn.toInt64)), .second, .val (.long lc), .second, .val (.long lp), .second, .unset, .unset, .unset, .unset] [(.int (B (gb = (0 : Int32)))), (.int ab), (.long (own_on aa (B (ga = (0 : Int32)))))])) rfl (by rw [hml]; rfl) (argsL := [(.int ab), (.int (B (gb = (0 : Int32))))]) (rest := [(.long (own_on aa (B (ga = (0 : Int32)))))]) (lenOf pd__40_ZZ_41_J rfl) rfl (by show 2 * 0 + _ ≤ _; exact Nat.le_of_eq rfl) (hb hby at_302) (fun _ _ => ⟨rfl, eq24, (by decide : 1 + 0 ≤ _), (by decide : 5 + 0 ≤ _)⟩)
                                          dsimp only [Pt.U, Pt.locs, Pt.cells, Pt.slots] at X25 l25 y25 z25 st25 hQ25
                                          subst l25 y25 z25
                                          obtain ⟨rfl, N25q, eq25⟩ := hQ25
                                          have N25 := Fr.app N24 N25q
                                          refine go (u' := T25.setTop (mkF m 305 #[.val (.int p0), .val (.int nn), .val (.int ga), .val (.int pa), .val (.int gb), .val (.int pb), .val (.int gc), .val (.int pc), .val (.int aa), .val (.int ab), .val (.int ac), .val (.ref b1), .val (.long (nn.toInt64)), .second, .val (.long lc), .second, .val (.long lp), .second, .unset, .unset, .unset, .unset] [(.long (own_on ab (B (gb = (0 : Int32))))), (.long (own_on aa (B (ga = (0 : Int32)))))])) st25 ?_
                                          refine go (u' := T25.setTop (mkF m 306 #[.val (.int p0), .val (.int nn), .val (.int ga), .val (.int pa), .val (.int gb), .val (.int pb), .val (.int gc), .val (.int pc), .val (.int aa), .val (.int ab), .val (.int ac), .val (.ref b1), .val (.long (nn.toInt64)), .second, .val (.long lc), .second, .val (.long lp), .second, .unset, .unset, .unset, .unset] [(.long ((own_on aa (B (ga = (0 : Int32)))) + (own_on ab (B (gb = (0 : Int32))))))])) (fun _ ks_ => XS.ladd X25.here hx rfl (hb hby at_305) rfl ks_) ?_
                                          refine go (u' := T25.setTop (mkF m 308 #[.val (.int p0), .val (.int nn), .val (.int ga), .val (.int pa), .val (.int gb), .val (.int pb), .val (.int gc), .val (.int pc), .val (.int aa), .val (.int ab), .val (.int ac), .val (.ref b1), .val (.long (nn.toInt64)), .second, .val (.long lc), .second, .val (.long lp), .second, .unset, .unset, .unset, .unset] [(.int ac), (.long ((own_on aa (B (ga = (0 : Int32)))) + (own_on ab (B (gb = (0 : Int32))))))])) (fun _ ks_ => XS.iload X25.here hx rfl (hb hby at_306) rfl  ks_) ?_
                                          refine go (u' := T25.setTop (mkF m 310 #[.val (.int p0), .val (.int nn), .val (.int ga), .val (.int pa), .val (.int gb), .val (.int pb), .val (.int gc), .val (.int pc), .val (.int aa), .val (.int ab), .val (.int ac), .val (.ref b1), .val (.long (nn.toInt64)), .second, .val (.long lc), .second, .val (.long lp), .second, .unset, .unset, .unset, .unset] [(.int gc), (.int ac), (.long ((own_on aa (B (ga = (0 : Int32)))) + (own_on ab (B (gb = (0 : Int32))))))])) (fun _ ks_ => XS.iload X25.here hx rfl (hb hby at_308) rfl  ks_) ?_
                                          have J318_21 : ∀ v318_21 : Int32, v318_21 = (B (gc = (0 : Int32))) → Go p.tables e below G (T25.setTop (mkF m 318 #[.val (.int p0), .val (.int nn), .val (.int ga), .val (.int pa), .val (.int gb), .val (.int pb), .val (.int gc), .val (.int pc), .val (.int aa), .val (.int ab), .val (.int ac), .val (.ref b1), .val (.long (nn.toInt64)), .second, .val (.long lc), .second, .val (.long lp), .second, .unset, .unset, .unset, .unset] [(.int v318_21), (.int ac), (.long ((own_on aa (B (ga = (0 : Int32)))) + (own_on ab (B (gb = (0 : Int32))))))])) := by
                                            intro v318_21 hv318_21
                                            subst hv318_21
                                            obtain ⟨_, _, ⟨T26, L26, k26, n26⟩, -, X26, ⟨Lc26, hQ26, l26, y26, z26⟩, st26⟩ := Jvm.LawKit.callS X25 hx (y := (⟨"com/example/chartwright/chartwright/eval/ClassScoreAddPinLaw", "on", "(ZZ)J"⟩ : MethodName)) hown (mvT hZ (ww hw 9 rfl)) (mvT hZ (ww hw 10 rfl)) (mvT hZ (ww hw 11 rfl)) (mvT hZ (ww hw 12 rfl)) (by decide) (backOf (W := 2) (rm3 l Z a0 hw [] ac (B (gc = (0 : Int32))) h17 n0 Z17) hZ (ww hw 12 rfl) (ww hw 11 rfl) (by decide) (by decide)) (g := (mkF m 318 #[.val (.int p0), .val (.int nn), .val (.int ga), .val (.int pa), .val (.int gb), .val (.int pb), .val (.int gc), .val (.int pc), .val (.int aa), .val (.int ab), .val (.int ac), .val (.ref b1), .val (.long (nn.toInt64)), .second, .val (.long lc), .second, .val (.long lp), .second, .unset, .unset, .unset, .unset] [(.int (B (gc = (0 : Int32)))), (.int ac), (.long ((own_on aa (B (ga = (0 : Int32)))) + (own_on ab (B (gb = (0 : Int32))))))])) rfl (by rw [hml]; rfl) (argsL := [(.int ac), (.int (B (gc = (0 : Int32))))]) (rest := [(.long ((own_on aa (B (ga = (0 : Int32)))) + (own_on ab (B (gb = (0 : Int32))))))]) (lenOf pd__40_ZZ_41_J rfl) rfl (by show 2 * 0 + _ ≤ _; exact Nat.le_of_eq rfl) (hb hby at_318) (fun _ _ => ⟨rfl, eq25, (by decide : 1 + 0 ≤ _), (by decide : 5 + 0 ≤ _)⟩)
                                            dsimp only [Pt.U, Pt.locs, Pt.cells, Pt.slots] at X26 l26 y26 z26 st26 hQ26
                                            subst l26 y26 z26
                                            obtain ⟨rfl, N26q, eq26⟩ := hQ26
                                            have N26 := Fr.app N25 N26q
                                            refine go (u' := T26.setTop (mkF m 321 #[.val (.int p0), .val (.int nn), .val (.int ga), .val (.int pa), .val (.int gb), .val (.int pb), .val (.int gc), .val (.int pc), .val (.int aa), .val (.int ab), .val (.int ac), .val (.ref b1), .val (.long (nn.toInt64)), .second, .val (.long lc), .second, .val (.long lp), .second, .unset, .unset, .unset, .unset] [(.long (own_on ac (B (gc = (0 : Int32))))), (.long ((own_on aa (B (ga = (0 : Int32)))) + (own_on ab (B (gb = (0 : Int32))))))])) st26 ?_
                                            refine go (u' := T26.setTop (mkF m 322 #[.val (.int p0), .val (.int nn), .val (.int ga), .val (.int pa), .val (.int gb), .val (.int pb), .val (.int gc), .val (.int pc), .val (.int aa), .val (.int ab), .val (.int ac), .val (.ref b1), .val (.long (nn.toInt64)), .second, .val (.long lc), .second, .val (.long lp), .second, .unset, .unset, .unset, .unset] [(.long (((own_on aa (B (ga = (0 : Int32)))) + (own_on ab (B (gb = (0 : Int32))))) + (own_on ac (B (gc = (0 : Int32))))))])) (fun _ ks_ => XS.ladd X26.here hx rfl (hb hby at_321) rfl ks_) ?_
                                            refine go (u' := T26.setTop (mkF m 324 #[.val (.int p0), .val (.int nn), .val (.int ga), .val (.int pa), .val (.int gb), .val (.int pb), .val (.int gc), .val (.int pc), .val (.int aa), .val (.int ab), .val (.int ac), .val (.ref b1), .val (.long (nn.toInt64)), .second, .val (.long lc), .second, .val (.long lp), .second, .val (.long (((own_on aa (B (ga = (0 : Int32)))) + (own_on ab (B (gb = (0 : Int32))))) + (own_on ac (B (gc = (0 : Int32)))))), .second, .unset, .unset] [])) (fun _ ks_ => XS.lstore X26.here hx rfl (hb hby at_322) rfl  (l' := #[.val (.int p0), .val (.int nn), .val (.int ga), .val (.int pa), .val (.int gb), .val (.int pb), .val (.int gc), .val (.int pc), .val (.int aa), .val (.int ab), .val (.int ac), .val (.ref b1), .val (.long (nn.toInt64)), .second, .val (.long lc), .second, .val (.long lp), .second, .val (.long (((own_on aa (B (ga = (0 : Int32)))) + (own_on ab (B (gb = (0 : Int32))))) + (own_on ac (B (gc = (0 : Int32)))))), .second, .unset, .unset]) rfl ks_) ?_
                                            obtain ⟨lg, hlg⟩ : ∃ z, z = (((own_on aa (B (ga = (0 : Int32)))) + (own_on ab (B (gb = (0 : Int32))))) + (own_on ac (B (gc = (0 : Int32))))) := ⟨_, rfl⟩
                                            rw [← hlg]
                                            refine go (u' := T26.setTop (mkF m 326 #[.val (.int p0), .val (.int nn), .val (.int ga), .val (.int pa), .val (.int gb), .val (.int pb), .val (.int gc), .val (.int pc), .val (.int aa), .val (.int ab), .val (.int ac), .val (.ref b1), .val (.long (nn.toInt64)), .second, .val (.long lc), .second, .val (.long lp), .second, .val (.long lg), .second, .unset, .unset] [(.int aa)])) (fun _ ks_ => XS.iload X26.here hx rfl (hb hby at_324) rfl  ks_) ?_
                                            refine go (u' := T26.setTop (mkF m 327 #[.val (.int p0), .val (.int nn), .val (.int ga), .val (.int pa), .val (.int gb), .val (.int pb), .val (.int gc), .val (.int pc), .val (.int aa), .val (.int ab), .val (.int ac), .val (.ref b1), .val (.long (nn.toInt64)), .second, .val (.long lc), .second, .val (.long lp), .second, .val (.long lg), .second, .unset, .unset] [(.int ga), (.int aa)])) (fun _ ks_ => XS.iloadN X26.here hx rfl (hb hby at_326) rfl  ks_) ?_
                                            have J339_22 : ∀ v339_22 : Int32, v339_22 = (B ((ga = (0 : Int32)) ∧ (pa = (0 : Int32)))) → Go p.tables e below G (T26.setTop (mkF m 339 #[.val (.int p0), .val (.int nn), .val (.int ga), .val (.int pa), .val (.int gb), .val (.int pb), .val (.int gc), .val (.int pc), .val (.int aa), .val (.int ab), .val (.int ac), .val (.ref b1), .val (.long (nn.toInt64)), .second, .val (.long lc), .second, .val (.long lp), .second, .val (.long lg), .second, .unset, .unset] [(.int v339_22), (.int aa)])) := by
                                              intro v339_22 hv339_22
                                              subst hv339_22
                                              obtain ⟨_, _, ⟨T27, L27, k27, n27⟩, -, X27, ⟨Lc27, hQ27, l27, y27, z27⟩, st27⟩ := Jvm.LawKit.callS X26 hx (y := (⟨"com/example/chartwright/chartwright/eval/ClassScoreAddPinLaw", "on", "(ZZ)J"⟩ : MethodName)) hown (mvT hZ (ww hw 9 rfl)) (mvT hZ (ww hw 10 rfl)) (mvT hZ (ww hw 11 rfl)) (mvT hZ (ww hw 12 rfl)) (by decide) (backOf (W := 0) (rm3 l Z a0 hw [] aa (B ((ga = (0 : Int32)) ∧ (pa = (0 : Int32)))) h17 n0 Z17) hZ (ww hw 12 rfl) (ww hw 11 rfl) (by decide) (by decide)) (g := (mkF m 339 #[.val (.int p0), .val (.int nn), .val (.int ga), .val (.int pa), .val (.int gb), .val (.int pb), .val (.int gc), .val (.int pc), .val (.int aa), .val (.int ab), .val (.int ac), .val (.ref b1), .val (.long (nn.toInt64)), .second, .val (.long lc), .second, .val (.long lp), .second, .val (.long lg), .second, .unset, .unset] [(.int (B ((ga = (0 : Int32)) ∧ (pa = (0 : Int32))))), (.int aa)])) rfl (by rw [hml]; rfl) (argsL := [(.int aa), (.int (B ((ga = (0 : Int32)) ∧ (pa = (0 : Int32)))))]) (rest := []) (lenOf pd__40_ZZ_41_J rfl) rfl (by show 2 * 0 + _ ≤ _; exact Nat.le_of_eq rfl) (hb hby at_339) (fun _ _ => ⟨rfl, eq26, (by decide : 1 + 0 ≤ _), (by decide : 5 + 0 ≤ _)⟩)
                                              dsimp only [Pt.U, Pt.locs, Pt.cells, Pt.slots] at X27 l27 y27 z27 st27 hQ27
                                              subst l27 y27 z27
                                              obtain ⟨rfl, N27q, eq27⟩ := hQ27
                                              have N27 := Fr.app N26 N27q
                                              refine go (u' := T27.setTop (mkF m 342 #[.val (.int p0), .val (.int nn), .val (.int ga), .val (.int pa), .val (.int gb), .val (.int pb), .val (.int gc), .val (.int pc), .val (.int aa), .val (.int ab), .val (.int ac), .val (.ref b1), .val (.long (nn.toInt64)), .second, .val (.long lc), .second, .val (.long lp), .second, .val (.long lg), .second, .unset, .unset] [(.long (own_on aa (B ((ga = (0 : Int32)) ∧ (pa = (0 : Int32))))))])) st27 ?_
                                              refine go (u' := T27.setTop (mkF m 344 #[.val (.int p0), .val (.int nn), .val (.int ga), .val (.int pa), .val (.int gb), .val (.int pb), .val (.int gc), .val (.int pc), .val (.int aa), .val (.int ab), .val (.int ac), .val (.ref b1), .val (.long (nn.toInt64)), .second, .val (.long lc), .second, .val (.long lp), .second, .val (.long lg), .second, .unset, .unset] [(.int ab), (.long (own_on aa (B ((ga = (0 : Int32)) ∧ (pa = (0 : Int32))))))])) (fun _ ks_ => XS.iload X27.here hx rfl (hb hby at_342) rfl  ks_) ?_
                                              refine go (u' := T27.setTop (mkF m 346 #[.val (.int p0), .val (.int nn), .val (.int ga), .val (.int pa), .val (.int gb), .val (.int pb), .val (.int gc), .val (.int pc), .val (.int aa), .val (.int ab), .val (.int ac), .val (.ref b1), .val (.long (nn.toInt64)), .second, .val (.long lc), .second, .val (.long lp), .second, .val (.long lg), .second, .unset, .unset] [(.int gb), (.int ab), (.long (own_on aa (B ((ga = (0 : Int32)) ∧ (pa = (0 : Int32))))))])) (fun _ ks_ => XS.iload X27.here hx rfl (hb hby at_344) rfl  ks_) ?_
                                              have J359_23 : ∀ v359_23 : Int32, v359_23 = (B ((gb = (0 : Int32)) ∧ (pb = (0 : Int32)))) → Go p.tables e below G (T27.setTop (mkF m 359 #[.val (.int p0), .val (.int nn), .val (.int ga), .val (.int pa), .val (.int gb), .val (.int pb), .val (.int gc), .val (.int pc), .val (.int aa), .val (.int ab), .val (.int ac), .val (.ref b1), .val (.long (nn.toInt64)), .second, .val (.long lc), .second, .val (.long lp), .second, .val (.long lg), .second, .unset, .unset] [(.int v359_23), (.int ab), (.long (own_on aa (B ((ga = (0 : Int32)) ∧ (pa = (0 : Int32))))))])) := by
                                                intro v359_23 hv359_23
                                                subst hv359_23
                                                obtain ⟨_, _, ⟨T28, L28, k28, n28⟩, -, X28, ⟨Lc28, hQ28, l28, y28, z28⟩, st28⟩ := Jvm.LawKit.callS X27 hx (y := (⟨"com/example/chartwright/chartwright/eval/ClassScoreAddPinLaw", "on", "(ZZ)J"⟩ : MethodName)) hown (mvT hZ (ww hw 9 rfl)) (mvT hZ (ww hw 10 rfl)) (mvT hZ (ww hw 11 rfl)) (mvT hZ (ww hw 12 rfl)) (by decide) (backOf (W := 2) (rm3 l Z a0 hw [] ab (B ((gb = (0 : Int32)) ∧ (pb = (0 : Int32)))) h17 n0 Z17) hZ (ww hw 12 rfl) (ww hw 11 rfl) (by decide) (by decide)) (g := (mkF m 359 #[.val (.int p0), .val (.int nn), .val (.int ga), .val (.int pa), .val (.int gb), .val (.int pb), .val (.int gc), .val (.int pc), .val (.int aa), .val (.int ab), .val (.int ac), .val (.ref b1), .val (.long (nn.toInt64)), .second, .val (.long lc), .second, .val (.long lp), .second, .val (.long lg), .second, .unset, .unset] [(.int (B ((gb = (0 : Int32)) ∧ (pb = (0 : Int32))))), (.int ab), (.long (own_on aa (B ((ga = (0 : Int32)) ∧ (pa = (0 : Int32))))))])) rfl (by rw [hml]; rfl) (argsL := [(.int ab), (.int (B ((gb = (0 : Int32)) ∧ (pb = (0 : Int32)))))]) (rest := [(.long (own_on aa (B ((ga = (0 : Int32)) ∧ (pa = (0 : Int32))))))]) (lenOf pd__40_ZZ_41_J rfl) rfl (by show 2 * 0 + _ ≤ _; exact Nat.le_of_eq rfl) (hb hby at_359) (fun _ _ => ⟨rfl, eq27, (by decide : 1 + 0 ≤ _), (by decide : 5 + 0 ≤ _)⟩)
                                                dsimp only [Pt.U, Pt.locs, Pt.cells, Pt.slots] at X28 l28 y28 z28 st28 hQ28
                                                subst l28 y28 z28
                                                obtain ⟨rfl, N28q, eq28⟩ := hQ28
                                                have N28 := Fr.app N27 N28q
                                                refine go (u' := T28.setTop (mkF m 362 #[.val (.int p0), .val (.int nn), .val (.int ga), .val (.int pa), .val (.int gb), .val (.int pb), .val (.int gc), .val (.int pc), .val (.int aa), .val (.int ab), .val (.int ac), .val (.ref b1), .val (.long (nn.toInt64)), .second, .val (.long lc), .second, .val (.long lp), .second, .val (.long lg), .second, .unset, .unset] [(.long (own_on ab (B ((gb = (0 : Int32)) ∧ (pb = (0 : Int32)))))), (.long (own_on aa (B ((ga = (0 : Int32)) ∧ (pa = (0 : Int32))))))])) st28 ?_
                                                refine go (u' := T28.setTop (mkF m 363 #[.val (.int p0), .val (.int nn), .val (.int ga), .val (.int pa), .val (.int gb), .val (.int pb), .val (.int gc), .val (.int pc), .val (.int aa), .val (.int ab), .val (.int ac), .val (.ref b1), .val (.long (nn.toInt64)), .second, .val (.long lc), .second, .val (.long lp), .second, .val (.long lg), .second, .unset, .unset] [(.long ((own_on aa (B ((ga = (0 : Int32)) ∧ (pa = (0 : Int32))))) + (own_on ab (B ((gb = (0 : Int32)) ∧ (pb = (0 : Int32)))))))])) (fun _ ks_ => XS.ladd X28.here hx rfl (hb hby at_362) rfl ks_) ?_
                                                refine go (u' := T28.setTop (mkF m 365 #[.val (.int p0), .val (.int nn), .val (.int ga), .val (.int pa), .val (.int gb), .val (.int pb), .val (.int gc), .val (.int pc), .val (.int aa), .val (.int ab), .val (.int ac), .val (.ref b1), .val (.long (nn.toInt64)), .second, .val (.long lc), .second, .val (.long lp), .second, .val (.long lg), .second, .unset, .unset] [(.int ac), (.long ((own_on aa (B ((ga = (0 : Int32)) ∧ (pa = (0 : Int32))))) + (own_on ab (B ((gb = (0 : Int32)) ∧ (pb = (0 : Int32)))))))])) (fun _ ks_ => XS.iload X28.here hx rfl (hb hby at_363) rfl  ks_) ?_
                                                refine go (u' := T28.setTop (mkF m 367 #[.val (.int p0), .val (.int nn), .val (.int ga), .val (.int pa), .val (.int gb), .val (.int pb), .val (.int gc), .val (.int pc), .val (.int aa), .val (.int ab), .val (.int ac), .val (.ref b1), .val (.long (nn.toInt64)), .second, .val (.long lc), .second, .val (.long lp), .second, .val (.long lg), .second, .unset, .unset] [(.int gc), (.int ac), (.long ((own_on aa (B ((ga = (0 : Int32)) ∧ (pa = (0 : Int32))))) + (own_on ab (B ((gb = (0 : Int32)) ∧ (pb = (0 : Int32)))))))])) (fun _ ks_ => XS.iload X28.here hx rfl (hb hby at_365) rfl  ks_) ?_
                                                have J380_24 : ∀ v380_24 : Int32, v380_24 = (B ((gc = (0 : Int32)) ∧ (pc = (0 : Int32)))) → Go p.tables e below G (T28.setTop (mkF m 380 #[.val (.int p0), .val (.int nn), .val (.int ga), .val (.int pa), .val (.int gb), .val (.int pb), .val (.int gc), .val (.int pc), .val (.int aa), .val (.int ab), .val (.int ac), .val (.ref b1), .val (.long (nn.toInt64)), .second, .val (.long lc), .second, .val (.long lp), .second, .val (.long lg), .second, .unset, .unset] [(.int v380_24), (.int ac), (.long ((own_on aa (B ((ga = (0 : Int32)) ∧ (pa = (0 : Int32))))) + (own_on ab (B ((gb = (0 : Int32)) ∧ (pb = (0 : Int32)))))))])) := by
                                                  intro v380_24 hv380_24
                                                  subst hv380_24
                                                  obtain ⟨_, _, ⟨T29, L29, k29, n29⟩, -, X29, ⟨Lc29, hQ29, l29, y29, z29⟩, st29⟩ := Jvm.LawKit.callS X28 hx (y := (⟨"com/example/chartwright/chartwright/eval/ClassScoreAddPinLaw", "on", "(ZZ)J"⟩ : MethodName)) hown (mvT hZ (ww hw 9 rfl)) (mvT hZ (ww hw 10 rfl)) (mvT hZ (ww hw 11 rfl)) (mvT hZ (ww hw 12 rfl)) (by decide) (backOf (W := 2) (rm3 l Z a0 hw [] ac (B ((gc = (0 : Int32)) ∧ (pc = (0 : Int32)))) h17 n0 Z17) hZ (ww hw 12 rfl) (ww hw 11 rfl) (by decide) (by decide)) (g := (mkF m 380 #[.val (.int p0), .val (.int nn), .val (.int ga), .val (.int pa), .val (.int gb), .val (.int pb), .val (.int gc), .val (.int pc), .val (.int aa), .val (.int ab), .val (.int ac), .val (.ref b1), .val (.long (nn.toInt64)), .second, .val (.long lc), .second, .val (.long lp), .second, .val (.long lg), .second, .unset, .unset] [(.int (B ((gc = (0 : Int32)) ∧ (pc = (0 : Int32))))), (.int ac), (.long ((own_on aa (B ((ga = (0 : Int32)) ∧ (pa = (0 : Int32))))) + (own_on ab (B ((gb = (0 : Int32)) ∧ (pb = (0 : Int32)))))))])) rfl (by rw [hml]; rfl) (argsL := [(.int ac), (.int (B ((gc = (0 : Int32)) ∧ (pc = (0 : Int32)))))]) (rest := [(.long ((own_on aa (B ((ga = (0 : Int32)) ∧ (pa = (0 : Int32))))) + (own_on ab (B ((gb = (0 : Int32)) ∧ (pb = (0 : Int32)))))))]) (lenOf pd__40_ZZ_41_J rfl) rfl (by show 2 * 0 + _ ≤ _; exact Nat.le_of_eq rfl) (hb hby at_380) (fun _ _ => ⟨rfl, eq28, (by decide : 1 + 0 ≤ _), (by decide : 5 + 0 ≤ _)⟩)
                                                  dsimp only [Pt.U, Pt.locs, Pt.cells, Pt.slots] at X29 l29 y29 z29 st29 hQ29
                                                  subst l29 y29 z29
                                                  obtain ⟨rfl, N29q, eq29⟩ := hQ29
                                                  have N29 := Fr.app N28 N29q
                                                  refine go (u' := T29.setTop (mkF m 383 #[.val (.int p0), .val (.int nn), .val (.int ga), .val (.int pa), .val (.int gb), .val (.int pb), .val (.int gc), .val (.int pc), .val (.int aa), .val (.int ab), .val (.int ac), .val (.ref b1), .val (.long (nn.toInt64)), .second, .val (.long lc), .second, .val (.long lp), .second, .val (.long lg), .second, .unset, .unset] [(.long (own_on ac (B ((gc = (0 : Int32)) ∧ (pc = (0 : Int32)))))), (.long ((own_on aa (B ((ga = (0 : Int32)) ∧ (pa = (0 : Int32))))) + (own_on ab (B ((gb = (0 : Int32)) ∧ (pb = (0 : Int32)))))))])) st29 ?_
                                                  refine go (u' := T29.setTop (mkF m 384 #[.val (.int p0), .val (.int nn), .val (.int ga), .val (.int pa), .val (.int gb), .val (.int pb), .val (.int gc), .val (.int pc), .val (.int aa), .val (.int ab), .val (.int ac), .val (.ref b1), .val (.long (nn.toInt64)), .second, .val (.long lc), .second, .val (.long lp), .second, .val (.long lg), .second, .unset, .unset] [(.long (((own_on aa (B ((ga = (0 : Int32)) ∧ (pa = (0 : Int32))))) + (own_on ab (B ((gb = (0 : Int32)) ∧ (pb = (0 : Int32)))))) + (own_on ac (B ((gc = (0 : Int32)) ∧ (pc = (0 : Int32)))))))])) (fun _ ks_ => XS.ladd X29.here hx rfl (hb hby at_383) rfl ks_) ?_
                                                  refine go (u' := T29.setTop (mkF m 386 #[.val (.int p0), .val (.int nn), .val (.int ga), .val (.int pa), .val (.int gb), .val (.int pb), .val (.int gc), .val (.int pc), .val (.int aa), .val (.int ab), .val (.int ac), .val (.ref b1), .val (.long (nn.toInt64)), .second, .val (.long lc), .second, .val (.long lp), .second, .val (.long lg), .second, .val (.long (((own_on aa (B ((ga = (0 : Int32)) ∧ (pa = (0 : Int32))))) + (own_on ab (B ((gb = (0 : Int32)) ∧ (pb = (0 : Int32)))))) + (own_on ac (B ((gc = (0 : Int32)) ∧ (pc = (0 : Int32))))))), .second] [])) (fun _ ks_ => XS.lstore X29.here hx rfl (hb hby at_384) rfl  (l' := #[.val (.int p0), .val (.int nn), .val (.int ga), .val (.int pa), .val (.int gb), .val (.int pb), .val (.int gc), .val (.int pc), .val (.int aa), .val (.int ab), .val (.int ac), .val (.ref b1), .val (.long (nn.toInt64)), .second, .val (.long lc), .second, .val (.long lp), .second, .val (.long lg), .second, .val (.long (((own_on aa (B ((ga = (0 : Int32)) ∧ (pa = (0 : Int32))))) + (own_on ab (B ((gb = (0 : Int32)) ∧ (pb = (0 : Int32)))))) + (own_on ac (B ((gc = (0 : Int32)) ∧ (pc = (0 : Int32))))))), .second]) rfl ks_) ?_
                                                  obtain ⟨lo, hlo⟩ : ∃ z, z = (((own_on aa (B ((ga = (0 : Int32)) ∧ (pa = (0 : Int32))))) + (own_on ab (B ((gb = (0 : Int32)) ∧ (pb = (0 : Int32)))))) + (own_on ac (B ((gc = (0 : Int32)) ∧ (pc = (0 : Int32)))))) := ⟨_, rfl⟩
                                                  rw [← hlo]
                                                  have e_c : ct = lc := by rw [h_ct, hlc, own_onX, own_onX, own_onX, Int64.zero_add]
                                                  have e_po : po = lp := by rw [h_po, hlp, own_onX, own_onX, own_onX, Int64.zero_add]
                                                  have e_gg : gg = lg := by rw [h_gg, hlg, own_onX, own_onX, own_onX, Int64.zero_add]
                                                  have e_co : co = lo := by rw [h_co, hlo, own_onX, own_onX, own_onX, Int64.zero_add]
                                                  have e_w : wd = nn.toInt64 := by rw [h_wd]; exact own_words p0 nn aa ab ac hnn haa hab hac
                                                  refine go (u' := T29.setTop (mkF m 388 #[.val (.int p0), .val (.int nn), .val (.int ga), .val (.int pa), .val (.int gb), .val (.int pb), .val (.int gc), .val (.int pc), .val (.int aa), .val (.int ab), .val (.int ac), .val (.ref b1), .val (.long (nn.toInt64)), .second, .val (.long lc), .second, .val (.long lp), .second, .val (.long lg), .second, .val (.long lo), .second] [(.ref b1)])) (fun _ ks_ => XS.aload X29.here hx rfl (hb hby at_386) rfl rfl ks_) ?_
                                                  obtain ⟨cq30, kq30, q30a, q30b, q30c⟩ := isOf hZ eq29 F17_0
                                                  obtain ⟨_, _, ⟨T30, L30, k30, n30⟩, -, X30, ⟨Lc30, hQ30, l30, y30, z30⟩, st30⟩ := X29.virtualBack hx (y := (⟨"com/example/chartwright/chartwright/eval/ClassScore", "predictedOut", "()J"⟩ : MethodName)) (z := (⟨"com/example/chartwright/chartwright/eval/ClassScore", "predictedOut", "()J"⟩ : MethodName)) hown (mvT hZ (ww hw 13 rfl)) (mvT hZ (ww hw 14 rfl)) (notFace_of_selects (args := #[]) (mvT hZ (ww hw 16 rfl))) (mvT hZ (ww hw 16 rfl)) (mvT hZ (ww hw 15 rfl)) (by decide) (backOf (W := 0) (rm4 l Z a0 hw [] b1 po h17 n0 Z17 F17_1) hZ (ww hw 17 rfl) (ww hw 2 rfl) (by decide) (by decide)) q30a q30c (g := (mkF m 388 #[.val (.int p0), .val (.int nn), .val (.int ga), .val (.int pa), .val (.int gb), .val (.int pb), .val (.int gc), .val (.int pc), .val (.int aa), .val (.int ab), .val (.int ac), .val (.ref b1), .val (.long (nn.toInt64)), .second, .val (.long lc), .second, .val (.long lp), .second, .val (.long lg), .second, .val (.long lo), .second] [(.ref b1)])) rfl (by rw [hml]; rfl) (Steps.refl _) (argsL := []) (rest := []) (lenOf pd__40__41_J rfl) rfl (by show 2 * 0 + _ ≤ _; exact Nat.le_of_eq rfl) (hb hby at_388) (fun _ _ => ⟨rfl, eq29, (by decide : 1 + 0 ≤ _), (by decide : 5 + 0 ≤ _)⟩)
                                                  dsimp only [Pt.U, Pt.locs, Pt.cells, Pt.slots] at X30 l30 y30 z30 st30 hQ30
                                                  subst l30 y30 z30
                                                  obtain ⟨rfl, N30q, eq30⟩ := hQ30
                                                  have N30 := Fr.app N29 N30q
                                                  refine goT (u' := T30.setTop (mkF m 391 #[.val (.int p0), .val (.int nn), .val (.int ga), .val (.int pa), .val (.int gb), .val (.int pb), .val (.int gc), .val (.int pc), .val (.int aa), .val (.int ab), .val (.int ac), .val (.ref b1), .val (.long (nn.toInt64)), .second, .val (.long lc), .second, .val (.long lp), .second, .val (.long lg), .second, .val (.long lo), .second] [(.long po)])) st30 ?_
                                                  refine go (u' := T30.setTop (mkF m 393 #[.val (.int p0), .val (.int nn), .val (.int ga), .val (.int pa), .val (.int gb), .val (.int pb), .val (.int gc), .val (.int pc), .val (.int aa), .val (.int ab), .val (.int ac), .val (.ref b1), .val (.long (nn.toInt64)), .second, .val (.long lc), .second, .val (.long lp), .second, .val (.long lg), .second, .val (.long lo), .second] [(.long lp), (.long po)])) (fun _ ks_ => XS.lload X30.here hx rfl (hb hby at_391) rfl  ks_) ?_
                                                  refine go (u' := T30.setTop (mkF m 394 #[.val (.int p0), .val (.int nn), .val (.int ga), .val (.int pa), .val (.int gb), .val (.int pb), .val (.int gc), .val (.int pc), .val (.int aa), .val (.int ab), .val (.int ac), .val (.ref b1), .val (.long (nn.toInt64)), .second, .val (.long lc), .second, .val (.long lp), .second, .val (.long lg), .second, .val (.long lo), .second] [(.int (lcmpW po lp))])) (fun _ ks_ => XS.lcmp X30.here hx rfl (hb hby at_393) rfl ks_) ?_
                                                  refine go (u' := T30.setTop (mkF m 397 #[.val (.int p0), .val (.int nn), .val (.int ga), .val (.int pa), .val (.int gb), .val (.int pb), .val (.int gc), .val (.int pc), .val (.int aa), .val (.int ab), .val (.int ac), .val (.ref b1), .val (.long (nn.toInt64)), .second, .val (.long lc), .second, .val (.long lp), .second, .val (.long lg), .second, .val (.long lo), .second] [])) (fun _ ks_ => XS.ifNo X30.here hx rfl (hb hby at_394) rfl (lTe e_po).2 ks_) ?_
                                                  refine go (u' := T30.setTop (mkF m 399 #[.val (.int p0), .val (.int nn), .val (.int ga), .val (.int pa), .val (.int gb), .val (.int pb), .val (.int gc), .val (.int pc), .val (.int aa), .val (.int ab), .val (.int ac), .val (.ref b1), .val (.long (nn.toInt64)), .second, .val (.long lc), .second, .val (.long lp), .second, .val (.long lg), .second, .val (.long lo), .second] [(.ref b1)])) (fun _ ks_ => XS.aload X30.here hx rfl (hb hby at_397) rfl rfl ks_) ?_
                                                  obtain ⟨cq31, kq31, q31a, q31b, q31c⟩ := isOf hZ eq30 F17_0
                                                  obtain ⟨_, _, ⟨T31, L31, k31, n31⟩, -, X31, ⟨Lc31, hQ31, l31, y31, z31⟩, st31⟩ := X30.virtualBack hx (y := (⟨"com/example/chartwright/chartwright/eval/ClassScore", "accuracy", "()D"⟩ : MethodName)) (z := (⟨"com/example/chartwright/chartwright/eval/ClassScore", "accuracy", "()D"⟩ : MethodName)) hown (mvT hZ (ww hw 20 rfl)) (mvT hZ (ww hw 21 rfl)) (notFace_of_selects (args := #[]) (mvT hZ (ww hw 23 rfl))) (mvT hZ (ww hw 23 rfl)) (mvT hZ (ww hw 22 rfl)) (by decide) (backOf (W := 0) (rm5 l Z a0 hw [] b1 ct wd h17 n0 Z17 F17_2 F17_3) hZ (ww hw 24 rfl) (ww hw 2 rfl) (by decide) (by decide)) q31a q31c (g := (mkF m 399 #[.val (.int p0), .val (.int nn), .val (.int ga), .val (.int pa), .val (.int gb), .val (.int pb), .val (.int gc), .val (.int pc), .val (.int aa), .val (.int ab), .val (.int ac), .val (.ref b1), .val (.long (nn.toInt64)), .second, .val (.long lc), .second, .val (.long lp), .second, .val (.long lg), .second, .val (.long lo), .second] [(.ref b1)])) rfl (by rw [hml]; rfl) (Steps.refl _) (argsL := []) (rest := []) (lenOf pd__40__41_D rfl) rfl (by show 2 * 0 + _ ≤ _; exact Nat.le_of_eq rfl) (hb hby at_399) (fun _ _ => ⟨rfl, eq30, (by decide : 1 + 0 ≤ _), (by decide : 5 + 0 ≤ _)⟩)
                                                  dsimp only [Pt.U, Pt.locs, Pt.cells, Pt.slots] at X31 l31 y31 z31 st31 hQ31
                                                  subst l31 y31 z31
                                                  obtain ⟨rfl, N31q, eq31⟩ := hQ31
                                                  have N31 := Fr.app N30 N31q
                                                  refine goT (u' := T31.setTop (mkF m 402 #[.val (.int p0), .val (.int nn), .val (.int ga), .val (.int pa), .val (.int gb), .val (.int pb), .val (.int gc), .val (.int pc), .val (.int aa), .val (.int ab), .val (.int ac), .val (.ref b1), .val (.long (nn.toInt64)), .second, .val (.long lc), .second, .val (.long lp), .second, .val (.long lg), .second, .val (.long lo), .second] [(.double (own_pct ct wd))])) st31 ?_
                                                  refine go (u' := T31.setTop (mkF m 404 #[.val (.int p0), .val (.int nn), .val (.int ga), .val (.int pa), .val (.int gb), .val (.int pb), .val (.int gc), .val (.int pc), .val (.int aa), .val (.int ab), .val (.int ac), .val (.ref b1), .val (.long (nn.toInt64)), .second, .val (.long lc), .second, .val (.long lp), .second, .val (.long lg), .second, .val (.long lo), .second] [(.long lc), (.double (own_pct ct wd))])) (fun _ ks_ => XS.lload X31.here hx rfl (hb hby at_402) rfl  ks_) ?_
                                                  refine go (u' := T31.setTop (mkF m 406 #[.val (.int p0), .val (.int nn), .val (.int ga), .val (.int pa), .val (.int gb), .val (.int pb), .val (.int gc), .val (.int pc), .val (.int aa), .val (.int ab), .val (.int ac), .val (.ref b1), .val (.long (nn.toInt64)), .second, .val (.long lc), .second, .val (.long lp), .second, .val (.long lg), .second, .val (.long lo), .second] [(.long (nn.toInt64)), (.long lc), (.double (own_pct ct wd))])) (fun _ ks_ => XS.lload X31.here hx rfl (hb hby at_404) rfl  ks_) ?_
                                                  obtain ⟨_, _, ⟨T32, L32, k32, n32⟩, -, X32, ⟨Lc32, hQ32, l32, y32, z32⟩, st32⟩ := Jvm.LawKit.callS X31 hx (y := (⟨"com/example/chartwright/chartwright/eval/ClassScoreAddPinLaw", "pct", "(JJ)D"⟩ : MethodName)) hown (mvT hZ (ww hw 33 rfl)) (mvT hZ (ww hw 34 rfl)) (mvT hZ (ww hw 11 rfl)) (mvT hZ (ww hw 35 rfl)) (by decide) (backOf (W := 2) (rm7 l Z a0 hw [] lc (nn.toInt64) h17 n0 Z17) hZ (ww hw 35 rfl) (ww hw 11 rfl) (by decide) (by decide)) (g := (mkF m 406 #[.val (.int p0), .val (.int nn), .val (.int ga), .val (.int pa), .val (.int gb), .val (.int pb), .val (.int gc), .val (.int pc), .val (.int aa), .val (.int ab), .val (.int ac), .val (.ref b1), .val (.long (nn.toInt64)), .second, .val (.long lc), .second, .val (.long lp), .second, .val (.long lg), .second, .val (.long lo), .second] [(.long (nn.toInt64)), (.long lc), (.double (own_pct ct wd))])) rfl (by rw [hml]; rfl) (argsL := [(.long lc), (.long (nn.toInt64))]) (rest := [(.double (own_pct ct wd))]) (lenOf pd__40_JJ_41_D rfl) rfl (by show 2 * 0 + _ ≤ _; exact Nat.le_of_eq rfl) (hb hby at_406) (fun _ _ => ⟨rfl, eq31, (by decide : 1 + 0 ≤ _), (by decide : 5 + 0 ≤ _)⟩)
                                                  dsimp only [Pt.U, Pt.locs, Pt.cells, Pt.slots] at X32 l32 y32 z32 st32 hQ32
                                                  subst l32 y32 z32
                                                  obtain ⟨rfl, N32q, eq32⟩ := hQ32
                                                  have N32 := Fr.app N31 N32q
                                                  refine go (u' := T32.setTop (mkF m 409 #[.val (.int p0), .val (.int nn), .val (.int ga), .val (.int pa), .val (.int gb), .val (.int pb), .val (.int gc), .val (.int pc), .val (.int aa), .val (.int ab), .val (.int ac), .val (.ref b1), .val (.long (nn.toInt64)), .second, .val (.long lc), .second, .val (.long lp), .second, .val (.long lg), .second, .val (.long lo), .second] [(.double (own_pct lc (nn.toInt64))), (.double (own_pct ct wd))])) st32 ?_
                                                  refine go (u' := T32.setTop (mkF m 410 #[.val (.int p0), .val (.int nn), .val (.int ga), .val (.int pa), .val (.int gb), .val (.int pb), .val (.int gc), .val (.int pc), .val (.int aa), .val (.int ab), .val (.int ac), .val (.ref b1), .val (.long (nn.toInt64)), .second, .val (.long lc), .second, .val (.long lp), .second, .val (.long lg), .second, .val (.long lo), .second] [(.int (cmpValue (FP.dcmp (own_pct ct wd) (own_pct lc (nn.toInt64))) .l))])) (fun _ ks_ => own_dcmp X32.here hx rfl (hb hby at_409) rfl ks_) ?_
                                                  refine go (u' := T32.setTop (mkF m 413 #[.val (.int p0), .val (.int nn), .val (.int ga), .val (.int pa), .val (.int gb), .val (.int pb), .val (.int gc), .val (.int pc), .val (.int aa), .val (.int ab), .val (.int ac), .val (.ref b1), .val (.long (nn.toInt64)), .second, .val (.long lc), .second, .val (.long lp), .second, .val (.long lg), .second, .val (.long lo), .second] [])) (fun _ ks_ => XS.ifNo X32.here hx rfl (hb hby at_410) rfl ((if0 _ _).trans (teq (show (cmpValue (FP.dcmp (own_pct ct wd) (own_pct lc (nn.toInt64))) .l) = (0 : Int32) from (by rw [e_c, e_w]; exact own_same _ _))).2) ks_) ?_
                                                  refine go (u' := T32.setTop (mkF m 415 #[.val (.int p0), .val (.int nn), .val (.int ga), .val (.int pa), .val (.int gb), .val (.int pb), .val (.int gc), .val (.int pc), .val (.int aa), .val (.int ab), .val (.int ac), .val (.ref b1), .val (.long (nn.toInt64)), .second, .val (.long lc), .second, .val (.long lp), .second, .val (.long lg), .second, .val (.long lo), .second] [(.ref b1)])) (fun _ ks_ => XS.aload X32.here hx rfl (hb hby at_413) rfl rfl ks_) ?_
                                                  obtain ⟨cq33, kq33, q33a, q33b, q33c⟩ := isOf hZ eq32 F17_0
                                                  obtain ⟨_, _, ⟨T33, L33, k33, n33⟩, -, X33, ⟨Lc33, hQ33, l33, y33, z33⟩, st33⟩ := X32.virtualBack hx (y := (⟨"com/example/chartwright/chartwright/eval/ClassScore", "precision", "()D"⟩ : MethodName)) (z := (⟨"com/example/chartwright/chartwright/eval/ClassScore", "precision", "()D"⟩ : MethodName)) hown (mvT hZ (ww hw 36 rfl)) (mvT hZ (ww hw 37 rfl)) (notFace_of_selects (args := #[]) (mvT hZ (ww hw 39 rfl))) (mvT hZ (ww hw 39 rfl)) (mvT hZ (ww hw 38 rfl)) (by decide) (backOf (W := 0) (rm8 l Z a0 hw [] b1 co po h17 n0 Z17 F17_4 F17_1) hZ (ww hw 40 rfl) (ww hw 2 rfl) (by decide) (by decide)) q33a q33c (g := (mkF m 415 #[.val (.int p0), .val (.int nn), .val (.int ga), .val (.int pa), .val (.int gb), .val (.int pb), .val (.int gc), .val (.int pc), .val (.int aa), .val (.int ab), .val (.int ac), .val (.ref b1), .val (.long (nn.toInt64)), .second, .val (.long lc), .second, .val (.long lp), .second, .val (.long lg), .second, .val (.long lo), .second] [(.ref b1)])) rfl (by rw [hml]; rfl) (Steps.refl _) (argsL := []) (rest := []) (lenOf pd__40__41_D rfl) rfl (by show 2 * 0 + _ ≤ _; exact Nat.le_of_eq rfl) (hb hby at_415) (fun _ _ => ⟨rfl, eq32, (by decide : 1 + 0 ≤ _), (by decide : 5 + 0 ≤ _)⟩)
                                                  dsimp only [Pt.U, Pt.locs, Pt.cells, Pt.slots] at X33 l33 y33 z33 st33 hQ33
                                                  subst l33 y33 z33
                                                  obtain ⟨rfl, N33q, eq33⟩ := hQ33
                                                  have N33 := Fr.app N32 N33q
                                                  refine goT (u' := T33.setTop (mkF m 418 #[.val (.int p0), .val (.int nn), .val (.int ga), .val (.int pa), .val (.int gb), .val (.int pb), .val (.int gc), .val (.int pc), .val (.int aa), .val (.int ab), .val (.int ac), .val (.ref b1), .val (.long (nn.toInt64)), .second, .val (.long lc), .second, .val (.long lp), .second, .val (.long lg), .second, .val (.long lo), .second] [(.double (own_pct co po))])) st33 ?_
                                                  refine go (u' := T33.setTop (mkF m 420 #[.val (.int p0), .val (.int nn), .val (.int ga), .val (.int pa), .val (.int gb), .val (.int pb), .val (.int gc), .val (.int pc), .val (.int aa), .val (.int ab), .val (.int ac), .val (.ref b1), .val (.long (nn.toInt64)), .second, .val (.long lc), .second, .val (.long lp), .second, .val (.long lg), .second, .val (.long lo), .second] [(.long lo), (.double (own_pct co po))])) (fun _ ks_ => XS.lload X33.here hx rfl (hb hby at_418) rfl  ks_) ?_
                                                  refine go (u' := T33.setTop (mkF m 422 #[.val (.int p0), .val (.int nn), .val (.int ga), .val (.int pa), .val (.int gb), .val (.int pb), .val (.int gc), .val (.int pc), .val (.int aa), .val (.int ab), .val (.int ac), .val (.ref b1), .val (.long (nn.toInt64)), .second, .val (.long lc), .second, .val (.long lp), .second, .val (.long lg), .second, .val (.long lo), .second] [(.long lp), (.long lo), (.double (own_pct co po))])) (fun _ ks_ => XS.lload X33.here hx rfl (hb hby at_420) rfl  ks_) ?_
                                                  obtain ⟨_, _, ⟨T34, L34, k34, n34⟩, -, X34, ⟨Lc34, hQ34, l34, y34, z34⟩, st34⟩ := Jvm.LawKit.callS X33 hx (y := (⟨"com/example/chartwright/chartwright/eval/ClassScoreAddPinLaw", "pct", "(JJ)D"⟩ : MethodName)) hown (mvT hZ (ww hw 33 rfl)) (mvT hZ (ww hw 34 rfl)) (mvT hZ (ww hw 11 rfl)) (mvT hZ (ww hw 35 rfl)) (by decide) (backOf (W := 2) (rm7 l Z a0 hw [] lo lp h17 n0 Z17) hZ (ww hw 35 rfl) (ww hw 11 rfl) (by decide) (by decide)) (g := (mkF m 422 #[.val (.int p0), .val (.int nn), .val (.int ga), .val (.int pa), .val (.int gb), .val (.int pb), .val (.int gc), .val (.int pc), .val (.int aa), .val (.int ab), .val (.int ac), .val (.ref b1), .val (.long (nn.toInt64)), .second, .val (.long lc), .second, .val (.long lp), .second, .val (.long lg), .second, .val (.long lo), .second] [(.long lp), (.long lo), (.double (own_pct co po))])) rfl (by rw [hml]; rfl) (argsL := [(.long lo), (.long lp)]) (rest := [(.double (own_pct co po))]) (lenOf pd__40_JJ_41_D rfl) rfl (by show 2 * 0 + _ ≤ _; exact Nat.le_of_eq rfl) (hb hby at_422) (fun _ _ => ⟨rfl, eq33, (by decide : 1 + 0 ≤ _), (by decide : 5 + 0 ≤ _)⟩)
                                                  dsimp only [Pt.U, Pt.locs, Pt.cells, Pt.slots] at X34 l34 y34 z34 st34 hQ34
                                                  subst l34 y34 z34
                                                  obtain ⟨rfl, N34q, eq34⟩ := hQ34
                                                  have N34 := Fr.app N33 N34q
                                                  refine go (u' := T34.setTop (mkF m 425 #[.val (.int p0), .val (.int nn), .val (.int ga), .val (.int pa), .val (.int gb), .val (.int pb), .val (.int gc), .val (.int pc), .val (.int aa), .val (.int ab), .val (.int ac), .val (.ref b1), .val (.long (nn.toInt64)), .second, .val (.long lc), .second, .val (.long lp), .second, .val (.long lg), .second, .val (.long lo), .second] [(.double (own_pct lo lp)), (.double (own_pct co po))])) st34 ?_
                                                  refine go (u' := T34.setTop (mkF m 426 #[.val (.int p0), .val (.int nn), .val (.int ga), .val (.int pa), .val (.int gb), .val (.int pb), .val (.int gc), .val (.int pc), .val (.int aa), .val (.int ab), .val (.int ac), .val (.ref b1), .val (.long (nn.toInt64)), .second, .val (.long lc), .second, .val (.long lp), .second, .val (.long lg), .second, .val (.long lo), .second] [(.int (cmpValue (FP.dcmp (own_pct co po) (own_pct lo lp)) .l))])) (fun _ ks_ => own_dcmp X34.here hx rfl (hb hby at_425) rfl ks_) ?_
                                                  refine go (u' := T34.setTop (mkF m 429 #[.val (.int p0), .val (.int nn), .val (.int ga), .val (.int pa), .val (.int gb), .val (.int pb), .val (.int gc), .val (.int pc), .val (.int aa), .val (.int ab), .val (.int ac), .val (.ref b1), .val (.long (nn.toInt64)), .second, .val (.long lc), .second, .val (.long lp), .second, .val (.long lg), .second, .val (.long lo), .second] [])) (fun _ ks_ => XS.ifNo X34.here hx rfl (hb hby at_426) rfl ((if0 _ _).trans (teq (show (cmpValue (FP.dcmp (own_pct co po) (own_pct lo lp)) .l) = (0 : Int32) from (by rw [e_co, e_po]; exact own_same _ _))).2) ks_) ?_
                                                  refine go (u' := T34.setTop (mkF m 431 #[.val (.int p0), .val (.int nn), .val (.int ga), .val (.int pa), .val (.int gb), .val (.int pb), .val (.int gc), .val (.int pc), .val (.int aa), .val (.int ab), .val (.int ac), .val (.ref b1), .val (.long (nn.toInt64)), .second, .val (.long lc), .second, .val (.long lp), .second, .val (.long lg), .second, .val (.long lo), .second] [(.ref b1)])) (fun _ ks_ => XS.aload X34.here hx rfl (hb hby at_429) rfl rfl ks_) ?_
                                                  obtain ⟨cq35, kq35, q35a, q35b, q35c⟩ := isOf hZ eq34 F17_0
                                                  obtain ⟨_, _, ⟨T35, L35, k35, n35⟩, -, X35, ⟨Lc35, hQ35, l35, y35, z35⟩, st35⟩ := X34.virtualBack hx (y := (⟨"com/example/chartwright/chartwright/eval/ClassScore", "recall", "()D"⟩ : MethodName)) (z := (⟨"com/example/chartwright/chartwright/eval/ClassScore", "recall", "()D"⟩ : MethodName)) hown (mvT hZ (ww hw 43 rfl)) (mvT hZ (ww hw 44 rfl)) (notFace_of_selects (args := #[]) (mvT hZ (ww hw 46 rfl))) (mvT hZ (ww hw 46 rfl)) (mvT hZ (ww hw 45 rfl)) (by decide) (backOf (W := 0) (rm9 l Z a0 hw [] b1 co gg h17 n0 Z17 F17_4 F17_5) hZ (ww hw 47 rfl) (ww hw 2 rfl) (by decide) (by decide)) q35a q35c (g := (mkF m 431 #[.val (.int p0), .val (.int nn), .val (.int ga), .val (.int pa), .val (.int gb), .val (.int pb), .val (.int gc), .val (.int pc), .val (.int aa), .val (.int ab), .val (.int ac), .val (.ref b1), .val (.long (nn.toInt64)), .second, .val (.long lc), .second, .val (.long lp), .second, .val (.long lg), .second, .val (.long lo), .second] [(.ref b1)])) rfl (by rw [hml]; rfl) (Steps.refl _) (argsL := []) (rest := []) (lenOf pd__40__41_D rfl) rfl (by show 2 * 0 + _ ≤ _; exact Nat.le_of_eq rfl) (hb hby at_431) (fun _ _ => ⟨rfl, eq34, (by decide : 1 + 0 ≤ _), (by decide : 5 + 0 ≤ _)⟩)
                                                  dsimp only [Pt.U, Pt.locs, Pt.cells, Pt.slots] at X35 l35 y35 z35 st35 hQ35
                                                  subst l35 y35 z35
                                                  obtain ⟨rfl, N35q, eq35⟩ := hQ35
                                                  have N35 := Fr.app N34 N35q
                                                  refine goT (u' := T35.setTop (mkF m 434 #[.val (.int p0), .val (.int nn), .val (.int ga), .val (.int pa), .val (.int gb), .val (.int pb), .val (.int gc), .val (.int pc), .val (.int aa), .val (.int ab), .val (.int ac), .val (.ref b1), .val (.long (nn.toInt64)), .second, .val (.long lc), .second, .val (.long lp), .second, .val (.long lg), .second, .val (.long lo), .second] [(.double (own_pct co gg))])) st35 ?_
                                                  refine go (u' := T35.setTop (mkF m 436 #[.val (.int p0), .val (.int nn), .val (.int ga), .val (.int pa), .val (.int gb), .val (.int pb), .val (.int gc), .val (.int pc), .val (.int aa), .val (.int ab), .val (.int ac), .val (.ref b1), .val (.long (nn.toInt64)), .second, .val (.long lc), .second, .val (.long lp), .second, .val (.long lg), .second, .val (.long lo), .second] [(.long lo), (.double (own_pct co gg))])) (fun _ ks_ => XS.lload X35.here hx rfl (hb hby at_434) rfl  ks_) ?_
                                                  refine go (u' := T35.setTop (mkF m 438 #[.val (.int p0), .val (.int nn), .val (.int ga), .val (.int pa), .val (.int gb), .val (.int pb), .val (.int gc), .val (.int pc), .val (.int aa), .val (.int ab), .val (.int ac), .val (.ref b1), .val (.long (nn.toInt64)), .second, .val (.long lc), .second, .val (.long lp), .second, .val (.long lg), .second, .val (.long lo), .second] [(.long lg), (.long lo), (.double (own_pct co gg))])) (fun _ ks_ => XS.lload X35.here hx rfl (hb hby at_436) rfl  ks_) ?_
                                                  obtain ⟨_, _, ⟨T36, L36, k36, n36⟩, -, X36, ⟨Lc36, hQ36, l36, y36, z36⟩, st36⟩ := Jvm.LawKit.callS X35 hx (y := (⟨"com/example/chartwright/chartwright/eval/ClassScoreAddPinLaw", "pct", "(JJ)D"⟩ : MethodName)) hown (mvT hZ (ww hw 33 rfl)) (mvT hZ (ww hw 34 rfl)) (mvT hZ (ww hw 11 rfl)) (mvT hZ (ww hw 35 rfl)) (by decide) (backOf (W := 2) (rm7 l Z a0 hw [] lo lg h17 n0 Z17) hZ (ww hw 35 rfl) (ww hw 11 rfl) (by decide) (by decide)) (g := (mkF m 438 #[.val (.int p0), .val (.int nn), .val (.int ga), .val (.int pa), .val (.int gb), .val (.int pb), .val (.int gc), .val (.int pc), .val (.int aa), .val (.int ab), .val (.int ac), .val (.ref b1), .val (.long (nn.toInt64)), .second, .val (.long lc), .second, .val (.long lp), .second, .val (.long lg), .second, .val (.long lo), .second] [(.long lg), (.long lo), (.double (own_pct co gg))])) rfl (by rw [hml]; rfl) (argsL := [(.long lo), (.long lg)]) (rest := [(.double (own_pct co gg))]) (lenOf pd__40_JJ_41_D rfl) rfl (by show 2 * 0 + _ ≤ _; exact Nat.le_of_eq rfl) (hb hby at_438) (fun _ _ => ⟨rfl, eq35, (by decide : 1 + 0 ≤ _), (by decide : 5 + 0 ≤ _)⟩)
                                                  dsimp only [Pt.U, Pt.locs, Pt.cells, Pt.slots] at X36 l36 y36 z36 st36 hQ36
                                                  subst l36 y36 z36
                                                  obtain ⟨rfl, N36q, eq36⟩ := hQ36
                                                  have N36 := Fr.app N35 N36q
                                                  refine go (u' := T36.setTop (mkF m 441 #[.val (.int p0), .val (.int nn), .val (.int ga), .val (.int pa), .val (.int gb), .val (.int pb), .val (.int gc), .val (.int pc), .val (.int aa), .val (.int ab), .val (.int ac), .val (.ref b1), .val (.long (nn.toInt64)), .second, .val (.long lc), .second, .val (.long lp), .second, .val (.long lg), .second, .val (.long lo), .second] [(.double (own_pct lo lg)), (.double (own_pct co gg))])) st36 ?_
                                                  refine go (u' := T36.setTop (mkF m 442 #[.val (.int p0), .val (.int nn), .val (.int ga), .val (.int pa), .val (.int gb), .val (.int pb), .val (.int gc), .val (.int pc), .val (.int aa), .val (.int ab), .val (.int ac), .val (.ref b1), .val (.long (nn.toInt64)), .second, .val (.long lc), .second, .val (.long lp), .second, .val (.long lg), .second, .val (.long lo), .second] [(.int (cmpValue (FP.dcmp (own_pct co gg) (own_pct lo lg)) .l))])) (fun _ ks_ => own_dcmp X36.here hx rfl (hb hby at_441) rfl ks_) ?_
                                                  refine go (u' := T36.setTop (mkF m 445 #[.val (.int p0), .val (.int nn), .val (.int ga), .val (.int pa), .val (.int gb), .val (.int pb), .val (.int gc), .val (.int pc), .val (.int aa), .val (.int ab), .val (.int ac), .val (.ref b1), .val (.long (nn.toInt64)), .second, .val (.long lc), .second, .val (.long lp), .second, .val (.long lg), .second, .val (.long lo), .second] [])) (fun _ ks_ => XS.ifNo X36.here hx rfl (hb hby at_442) rfl ((if0 _ _).trans (teq (show (cmpValue (FP.dcmp (own_pct co gg) (own_pct lo lg)) .l) = (0 : Int32) from (by rw [e_co, e_gg]; exact own_same _ _))).2) ks_) ?_
                                                  refine go (u' := T36.setTop (mkF m 446 #[.val (.int p0), .val (.int nn), .val (.int ga), .val (.int pa), .val (.int gb), .val (.int pb), .val (.int gc), .val (.int pc), .val (.int aa), .val (.int ab), .val (.int ac), .val (.ref b1), .val (.long (nn.toInt64)), .second, .val (.long lc), .second, .val (.long lp), .second, .val (.long lg), .second, .val (.long lo), .second] [(.int (1 : Int32))])) (fun _ ks_ => XS.iconst X36.here hx rfl (hb hby at_445) ks_) ?_
                                                  refine go (u' := T36.setTop (mkF m 450 #[.val (.int p0), .val (.int nn), .val (.int ga), .val (.int pa), .val (.int gb), .val (.int pb), .val (.int gc), .val (.int pc), .val (.int aa), .val (.int ab), .val (.int ac), .val (.ref b1), .val (.long (nn.toInt64)), .second, .val (.long lc), .second, .val (.long lp), .second, .val (.long lg), .second, .val (.long lo), .second] [(.int (1 : Int32))])) (fun _ ks_ => XS.goto X36.here hx rfl (pc0 := 446) (pc' := 450) rfl (hb hby at_446) (by decide) (by decide) ks_) ?_
                                                  rw [hG]
                                                  refine gN X36 hx hlk (t := .boolean) hret (by simp) rfl (hb hby at_450) ?_ (Nat.le_of_ble_eq_true rfl) (Nat.le_of_ble_eq_true rfl)
                                                  show Q_rm0 Z p0 h0 n0 (some (.int (1 : Int32))) T36.heap _
                                                  rw [eq36]
                                                  exact ⟨rfl, N36⟩
                                                by_cases c367_1 : gc = (0 : Int32)
                                                ·
                                                  refine go (u' := T28.setTop (mkF m 370 #[.val (.int p0), .val (.int nn), .val (.int ga), .val (.int pa), .val (.int gb), .val (.int pb), .val (.int gc), .val (.int pc), .val (.int aa), .val (.int ab), .val (.int ac), .val (.ref b1), .val (.long (nn.toInt64)), .second, .val (.long lc), .second, .val (.long lp), .second, .val (.long lg), .second, .unset, .unset] [(.int ac), (.long ((own_on aa (B ((ga = (0 : Int32)) ∧ (pa = (0 : Int32))))) + (own_on ab (B ((gb = (0 : Int32)) ∧ (pb = (0 : Int32)))))))])) (fun _ ks_ => XS.ifNo X28.here hx rfl (hb hby at_367) rfl ((if0 _ _).trans (teq c367_1).2) ks_) ?_
                                                  refine go (u' := T28.setTop (mkF m 372 #[.val (.int p0), .val (.int nn), .val (.int ga), .val (.int pa), .val (.int gb), .val (.int pb), .val (.int gc), .val (.int pc), .val (.int aa), .val (.int ab), .val (.int ac), .val (.ref b1), .val (.long (nn.toInt64)), .second, .val (.long lc), .second, .val (.long lp), .second, .val (.long lg), .second, .unset, .unset] [(.int pc), (.int ac), (.long ((own_on aa (B ((ga = (0 : Int32)) ∧ (pa = (0 : Int32))))) + (own_on ab (B ((gb = (0 : Int32)) ∧ (pb = (0 : Int32)))))))])) (fun _ ks_ => XS.iload X28.here hx rfl (hb hby at_370) rfl  ks_) ?_
                                                  by_cases c372_2 : pc = (0 : Int32)
                                                  ·
                                                    refine go (u' := T28.setTop (mkF m 375 #[.val (.int p0), .val (.int nn), .val (.int ga), .val (.int pa), .val (.int gb), .val (.int pb), .val (.int gc), .val (.int pc), .val (.int aa), .val (.int ab), .val (.int ac), .val (.ref b1), .val (.long (nn.toInt64)), .second, .val (.long lc), .second, .val (.long lp), .second, .val (.long lg), .second, .unset, .unset] [(.int ac), (.long ((own_on aa (B ((ga = (0 : Int32)) ∧ (pa = (0 : Int32))))) + (own_on ab (B ((gb = (0 : Int32)) ∧ (pb = (0 : Int32)))))))])) (fun _ ks_ => XS.ifNo X28.here hx rfl (hb hby at_372) rfl ((if0 _ _).trans (teq c372_2).2) ks_) ?_
                                                    refine go (u' := T28.setTop (mkF m 376 #[.val (.int p0), .val (.int nn), .val (.int ga), .val (.int pa), .val (.int gb), .val (.int pb), .val (.int gc), .val (.int pc), .val (.int aa), .val (.int ab), .val (.int ac), .val (.ref b1), .val (.long (nn.toInt64)), .second, .val (.long lc), .second, .val (.long lp), .second, .val (.long lg), .second, .unset, .unset] [(.int (1 : Int32)), (.int ac), (.long ((own_on aa (B ((ga = (0 : Int32)) ∧ (pa = (0 : Int32))))) + (own_on ab (B ((gb = (0 : Int32)) ∧ (pb = (0 : Int32)))))))])) (fun _ ks_ => XS.iconst X28.here hx rfl (hb hby at_375) ks_) ?_
                                                    refine go (u' := T28.setTop (mkF m 380 #[.val (.int p0), .val (.int nn), .val (.int ga), .val (.int pa), .val (.int gb), .val (.int pb), .val (.int gc), .val (.int pc), .val (.int aa), .val (.int ab), .val (.int ac), .val (.ref b1), .val (.long (nn.toInt64)), .second, .val (.long lc), .second, .val (.long lp), .second, .val (.long lg), .second, .unset, .unset] [(.int (1 : Int32)), (.int ac), (.long ((own_on aa (B ((ga = (0 : Int32)) ∧ (pa = (0 : Int32))))) + (own_on ab (B ((gb = (0 : Int32)) ∧ (pb = (0 : Int32)))))))])) (fun _ ks_ => XS.goto X28.here hx rfl (pc0 := 376) (pc' := 380) rfl (hb hby at_376) (by decide) (by decide) ks_) ?_
                                                    exact J380_24 _ (B1 ⟨c367_1, c372_2⟩)
                                                  ·
                                                    refine go (u' := T28.setTop (mkF m 379 #[.val (.int p0), .val (.int nn), .val (.int ga), .val (.int pa), .val (.int gb), .val (.int pb), .val (.int gc), .val (.int pc), .val (.int aa), .val (.int ab), .val (.int ac), .val (.ref b1), .val (.long (nn.toInt64)), .second, .val (.long lc), .second, .val (.long lp), .second, .val (.long lg), .second, .unset, .unset] [(.int ac), (.long ((own_on aa (B ((ga = (0 : Int32)) ∧ (pa = (0 : Int32))))) + (own_on ab (B ((gb = (0 : Int32)) ∧ (pb = (0 : Int32)))))))])) (fun _ ks_ => XS.ifYes X28.here hx rfl (pc0 := 372) (pc' := 379) rfl (hb hby at_372) rfl ((if0 _ _).trans (feq c372_2).2) (by decide) (by decide) ks_) ?_
                                                    refine go (u' := T28.setTop (mkF m 380 #[.val (.int p0), .val (.int nn), .val (.int ga), .val (.int pa), .val (.int gb), .val (.int pb), .val (.int gc), .val (.int pc), .val (.int aa), .val (.int ab), .val (.int ac), .val (.ref b1), .val (.long (nn.toInt64)), .second, .val (.long lc), .second, .val (.long lp), .second, .val (.long lg), .second, .unset, .unset] [(.int (0 : Int32)), (.int ac), (.long ((own_on aa (B ((ga = (0 : Int32)) ∧ (pa = (0 : Int32))))) + (own_on ab (B ((gb = (0 : Int32)) ∧ (pb = (0 : Int32)))))))])) (fun _ ks_ => XS.iconst X28.here hx rfl (hb hby at_379) ks_) ?_
                                                    exact J380_24 _ (B0 (fun q => c372_2 q.2))
                                                ·
                                                  refine go (u' := T28.setTop (mkF m 379 #[.val (.int p0), .val (.int nn), .val (.int ga), .val (.int pa), .val (.int gb), .val (.int pb), .val (.int gc), .val (.int pc), .val (.int aa), .val (.int ab), .val (.int ac), .val (.ref b1), .val (.long (nn.toInt64)), .second, .val (.long lc), .second, .val (.long lp), .second, .val (.long lg), .second, .unset, .unset] [(.int ac), (.long ((own_on aa (B ((ga = (0 : Int32)) ∧ (pa = (0 : Int32))))) + (own_on ab (B ((gb = (0 : Int32)) ∧ (pb = (0 : Int32)))))))])) (fun _ ks_ => XS.ifYes X28.here hx rfl (pc0 := 367) (pc' := 379) rfl (hb hby at_367) rfl ((if0 _ _).trans (feq c367_1).2) (by decide) (by decide) ks_) ?_
                                                  refine go (u' := T28.setTop (mkF m 380 #[.val (.int p0), .val (.int nn), .val (.int ga), .val (.int pa), .val (.int gb), .val (.int pb), .val (.int gc), .val (.int pc), .val (.int aa), .val (.int ab), .val (.int ac), .val (.ref b1), .val (.long (nn.toInt64)), .second, .val (.long lc), .second, .val (.long lp), .second, .val (.long lg), .second, .unset, .unset] [(.int (0 : Int32)), (.int ac), (.long ((own_on aa (B ((ga = (0 : Int32)) ∧ (pa = (0 : Int32))))) + (own_on ab (B ((gb = (0 : Int32)) ∧ (pb = (0 : Int32)))))))])) (fun _ ks_ => XS.iconst X28.here hx rfl (hb hby at_379) ks_) ?_
                                                  exact J380_24 _ (B0 (fun q => c367_1 q.1))
                                              by_cases c346_3 : gb = (0 : Int32)
                                              ·
                                                refine go (u' := T27.setTop (mkF m 349 #[.val (.int p0), .val (.int nn), .val (.int ga), .val (.int pa), .val (.int gb), .val (.int pb), .val (.int gc), .val (.int pc), .val (.int aa), .val (.int ab), .val (.int ac), .val (.ref b1), .val (.long (nn.toInt64)), .second, .val (.long lc), .second, .val (.long lp), .second, .val (.long lg), .second, .unset, .unset] [(.int ab), (.long (own_on aa (B ((ga = (0 : Int32)) ∧ (pa = (0 : Int32))))))])) (fun _ ks_ => XS.ifNo X27.here hx rfl (hb hby at_346) rfl ((if0 _ _).trans (teq c346_3).2) ks_) ?_
                                                refine go (u' := T27.setTop (mkF m 351 #[.val (.int p0), .val (.int nn), .val (.int ga), .val (.int pa), .val (.int gb), .val (.int pb), .val (.int gc), .val (.int pc), .val (.int aa), .val (.int ab), .val (.int ac), .val (.ref b1), .val (.long (nn.toInt64)), .second, .val (.long lc), .second, .val (.long lp), .second, .val (.long lg), .second, .unset, .unset] [(.int pb), (.int ab), (.long (own_on aa (B ((ga = (0 : Int32)) ∧ (pa = (0 : Int32))))))])) (fun _ ks_ => XS.iload X27.here hx rfl (hb hby at_349) rfl  ks_) ?_
                                                by_cases c351_4 : pb = (0 : Int32)
                                                ·
                                                  refine go (u' := T27.setTop (mkF m 354 #[.val (.int p0), .val (.int nn), .val (.int ga), .val (.int pa), .val (.int gb), .val (.int pb), .val (.int gc), .val (.int pc), .val (.int aa), .val (.int ab), .val (.int ac), .val (.ref b1), .val (.long (nn.toInt64)), .second, .val (.long lc), .second, .val (.long lp), .second, .val (.long lg), .second, .unset, .unset] [(.int ab), (.long (own_on aa (B ((ga = (0 : Int32)) ∧ (pa = (0 : Int32))))))])) (fun _ ks_ => XS.ifNo X27.here hx rfl (hb hby at_351) rfl ((if0 _ _).trans (teq c351_4).2) ks_) ?_
                                                  refine go (u' := T27.setTop (mkF m 355 #[.val (.int p0), .val (.int nn), .val (.int ga), .val (.int pa), .val (.int gb), .val (.int pb), .val (.int gc), .val (.int pc), .val (.int aa), .val (.int ab), .val (.int ac), .val (.ref b1), .val (.long (nn.toInt64)), .second, .val (.long lc), .second, .val (.long lp), .second, .val (.long lg), .second, .unset, .unset] [(.int (1 : Int32)), (.int ab), (.long (own_on aa (B ((ga = (0 : Int32)) ∧ (pa = (0 : Int32))))))])) (fun _ ks_ => XS.iconst X27.here hx rfl (hb hby at_354) ks_) ?_
                                                  refine go (u' := T27.setTop (mkF m 359 #[.val (.int p0), .val (.int nn), .val (.int ga), .val (.int pa), .val (.int gb), .val (.int pb), .val (.int gc), .val (.int pc), .val (.int aa), .val (.int ab), .val (.int ac), .val (.ref b1), .val (.long (nn.toInt64)), .second, .val (.long lc), .second, .val (.long lp), .second, .val (.long lg), .second, .unset, .unset] [(.int (1 : Int32)), (.int ab), (.long (own_on aa (B ((ga = (0 : Int32)) ∧ (pa = (0 : Int32))))))])) (fun _ ks_ => XS.goto X27.here hx rfl (pc0 := 355) (pc' := 359) rfl (hb hby at_355) (by decide) (by decide) ks_) ?_
                                                  exact J359_23 _ (B1 ⟨c346_3, c351_4⟩)
                                                ·
                                                  refine go (u' := T27.setTop (mkF m 358 #[.val (.int p0), .val (.int nn), .val (.int ga), .val (.int pa), .val (.int gb), .val (.int pb), .val (.int gc), .val (.int pc), .val (.int aa), .val (.int ab), .val (.int ac), .val (.ref b1), .val (.long (nn.toInt64)), .second, .val (.long lc), .second, .val (.long lp), .second, .val (.long lg), .second, .unset, .unset] [(.int ab), (.long (own_on aa (B ((ga = (0 : Int32)) ∧ (pa = (0 : Int32))))))])) (fun _ ks_ => XS.ifYes X27.here hx rfl (pc0 := 351) (pc' := 358) rfl (hb hby at_351) rfl ((if0 _ _).trans (feq c351_4).2) (by decide) (by decide) ks_) ?_
                                                  refine go (u' := T27.setTop (mkF m 359 #[.val (.int p0), .val (.int nn), .val (.int ga), .val (.int pa), .val (.int gb), .val (.int pb), .val (.int gc), .val (.int pc), .val (.int aa), .val (.int ab), .val (.int ac), .val (.ref b1), .val (.long (nn.toInt64)), .second, .val (.long lc), .second, .val (.long lp), .second, .val (.long lg), .second, .unset, .unset] [(.int (0 : Int32)), (.int ab), (.long (own_on aa (B ((ga = (0 : Int32)) ∧ (pa = (0 : Int32))))))])) (fun _ ks_ => XS.iconst X27.here hx rfl (hb hby at_358) ks_) ?_
                                                  exact J359_23 _ (B0 (fun q => c351_4 q.2))
                                              ·
                                                refine go (u' := T27.setTop (mkF m 358 #[.val (.int p0), .val (.int nn), .val (.int ga), .val (.int pa), .val (.int gb), .val (.int pb), .val (.int gc), .val (.int pc), .val (.int aa), .val (.int ab), .val (.int ac), .val (.ref b1), .val (.long (nn.toInt64)), .second, .val (.long lc), .second, .val (.long lp), .second, .val (.long lg), .second, .unset, .unset] [(.int ab), (.long (own_on aa (B ((ga = (0 : Int32)) ∧ (pa = (0 : Int32))))))])) (fun _ ks_ => XS.ifYes X27.here hx rfl (pc0 := 346) (pc' := 358) rfl (hb hby at_346) rfl ((if0 _ _).trans (feq c346_3).2) (by decide) (by decide) ks_) ?_
                                                refine go (u' := T27.setTop (mkF m 359 #[.val (.int p0), .val (.int nn), .val (.int ga), .val (.int pa), .val (.int gb), .val (.int pb), .val (.int gc), .val (.int pc), .val (.int aa), .val (.int ab), .val (.int ac), .val (.ref b1), .val (.long (nn.toInt64)), .second, .val (.long lc), .second, .val (.long lp), .second, .val (.long lg), .second, .unset, .unset] [(.int (0 : Int32)), (.int ab), (.long (own_on aa (B ((ga = (0 : Int32)) ∧ (pa = (0 : Int32))))))])) (fun _ ks_ => XS.iconst X27.here hx rfl (hb hby at_358) ks_) ?_
                                                exact J359_23 _ (B0 (fun q => c346_3 q.1))
                                            by_cases c327_5 : ga = (0 : Int32)
                                            ·
                                              refine go (u' := T26.setTop (mkF m 330 #[.val (.int p0), .val (.int nn), .val (.int ga), .val (.int pa), .val (.int gb), .val (.int pb), .val (.int gc), .val (.int pc), .val (.int aa), .val (.int ab), .val (.int ac), .val (.ref b1), .val (.long (nn.toInt64)), .second, .val (.long lc), .second, .val (.long lp), .second, .val (.long lg), .second, .unset, .unset] [(.int aa)])) (fun _ ks_ => XS.ifNo X26.here hx rfl (hb hby at_327) rfl ((if0 _ _).trans (teq c327_5).2) ks_) ?_
                                              refine go (u' := T26.setTop (mkF m 331 #[.val (.int p0), .val (.int nn), .val (.int ga), .val (.int pa), .val (.int gb), .val (.int pb), .val (.int gc), .val (.int pc), .val (.int aa), .val (.int ab), .val (.int ac), .val (.ref b1), .val (.long (nn.toInt64)), .second, .val (.long lc), .second, .val (.long lp), .second, .val (.long lg), .second, .unset, .unset] [(.int pa), (.int aa)])) (fun _ ks_ => XS.iloadN X26.here hx rfl (hb hby at_330) rfl  ks_) ?_
                                              by_cases c331_6 : pa = (0 : Int32)
                                              ·
                                                refine go (u' := T26.setTop (mkF m 334 #[.val (.int p0), .val (.int nn), .val (.int ga), .val (.int pa), .val (.int gb), .val (.int pb), .val (.int gc), .val (.int pc), .val (.int aa), .val (.int ab), .val (.int ac), .val (.ref b1), .val (.long (nn.toInt64)), .second, .val (.long lc), .second, .val (.long lp), .second, .val (.long lg), .second, .unset, .unset] [(.int aa)])) (fun _ ks_ => XS.ifNo X26.here hx rfl (hb hby at_331) rfl ((if0 _ _).trans (teq c331_6).2) ks_) ?_
                                                refine go (u' := T26.setTop (mkF m 335 #[.val (.int p0), .val (.int nn), .val (.int ga), .val (.int pa), .val (.int gb), .val (.int pb), .val (.int gc), .val (.int pc), .val (.int aa), .val (.int ab), .val (.int ac), .val (.ref b1), .val (.long (nn.toInt64)), .second, .val (.long lc), .second, .val (.long lp), .second, .val (.long lg), .second, .unset, .unset] [(.int (1 : Int32)), (.int aa)])) (fun _ ks_ => XS.iconst X26.here hx rfl (hb hby at_334) ks_) ?_
                                                refine go (u' := T26.setTop (mkF m 339 #[.val (.int p0), .val (.int nn), .val (.int ga), .val (.int pa), .val (.int gb), .val (.int pb), .val (.int gc), .val (.int pc), .val (.int aa), .val (.int ab), .val (.int ac), .val (.ref b1), .val (.long (nn.toInt64)), .second, .val (.long lc), .second, .val (.long lp), .second, .val (.long lg), .second, .unset, .unset] [(.int (1 : Int32)), (.int aa)])) (fun _ ks_ => XS.goto X26.here hx rfl (pc0 := 335) (pc' := 339) rfl (hb hby at_335) (by decide) (by decide) ks_) ?_
                                                exact J339_22 _ (B1 ⟨c327_5, c331_6⟩)
                                              ·
                                                refine go (u' := T26.setTop (mkF m 338 #[.val (.int p0), .val (.int nn), .val (.int ga), .val (.int pa), .val (.int gb), .val (.int pb), .val (.int gc), .val (.int pc), .val (.int aa), .val (.int ab), .val (.int ac), .val (.ref b1), .val (.long (nn.toInt64)), .second, .val (.long lc), .second, .val (.long lp), .second, .val (.long lg), .second, .unset, .unset] [(.int aa)])) (fun _ ks_ => XS.ifYes X26.here hx rfl (pc0 := 331) (pc' := 338) rfl (hb hby at_331) rfl ((if0 _ _).trans (feq c331_6).2) (by decide) (by decide) ks_) ?_
                                                refine go (u' := T26.setTop (mkF m 339 #[.val (.int p0), .val (.int nn), .val (.int ga), .val (.int pa), .val (.int gb), .val (.int pb), .val (.int gc), .val (.int pc), .val (.int aa), .val (.int ab), .val (.int ac), .val (.ref b1), .val (.long (nn.toInt64)), .second, .val (.long lc), .second, .val (.long lp), .second, .val (.long lg), .second, .unset, .unset] [(.int (0 : Int32)), (.int aa)])) (fun _ ks_ => XS.iconst X26.here hx rfl (hb hby at_338) ks_) ?_
                                                exact J339_22 _ (B0 (fun q => c331_6 q.2))
                                            ·
                                              refine go (u' := T26.setTop (mkF m 338 #[.val (.int p0), .val (.int nn), .val (.int ga), .val (.int pa), .val (.int gb), .val (.int pb), .val (.int gc), .val (.int pc), .val (.int aa), .val (.int ab), .val (.int ac), .val (.ref b1), .val (.long (nn.toInt64)), .second, .val (.long lc), .second, .val (.long lp), .second, .val (.long lg), .second, .unset, .unset] [(.int aa)])) (fun _ ks_ => XS.ifYes X26.here hx rfl (pc0 := 327) (pc' := 338) rfl (hb hby at_327) rfl ((if0 _ _).trans (feq c327_5).2) (by decide) (by decide) ks_) ?_
                                              refine go (u' := T26.setTop (mkF m 339 #[.val (.int p0), .val (.int nn), .val (.int ga), .val (.int pa), .val (.int gb), .val (.int pb), .val (.int gc), .val (.int pc), .val (.int aa), .val (.int ab), .val (.int ac), .val (.ref b1), .val (.long (nn.toInt64)), .second, .val (.long lc), .second, .val (.long lp), .second, .val (.long lg), .second, .unset, .unset] [(.int (0 : Int32)), (.int aa)])) (fun _ ks_ => XS.iconst X26.here hx rfl (hb hby at_338) ks_) ?_
                                              exact J339_22 _ (B0 (fun q => c327_5 q.1))
                                          by_cases c310_7 : gc = (0 : Int32)
                                          ·
                                            refine go (u' := T25.setTop (mkF m 313 #[.val (.int p0), .val (.int nn), .val (.int ga), .val (.int pa), .val (.int gb), .val (.int pb), .val (.int gc), .val (.int pc), .val (.int aa), .val (.int ab), .val (.int ac), .val (.ref b1), .val (.long (nn.toInt64)), .second, .val (.long lc), .second, .val (.long lp), .second, .unset, .unset, .unset, .unset] [(.int ac), (.long ((own_on aa (B (ga = (0 : Int32)))) + (own_on ab (B (gb = (0 : Int32))))))])) (fun _ ks_ => XS.ifNo X25.here hx rfl (hb hby at_310) rfl ((if0 _ _).trans (teq c310_7).2) ks_) ?_
                                            refine go (u' := T25.setTop (mkF m 314 #[.val (.int p0), .val (.int nn), .val (.int ga), .val (.int pa), .val (.int gb), .val (.int pb), .val (.int gc), .val (.int pc), .val (.int aa), .val (.int ab), .val (.int ac), .val (.ref b1), .val (.long (nn.toInt64)), .second, .val (.long lc), .second, .val (.long lp), .second, .unset, .unset, .unset, .unset] [(.int (1 : Int32)), (.int ac), (.long ((own_on aa (B (ga = (0 : Int32)))) + (own_on ab (B (gb = (0 : Int32))))))])) (fun _ ks_ => XS.iconst X25.here hx rfl (hb hby at_313) ks_) ?_
                                            refine go (u' := T25.setTop (mkF m 318 #[.val (.int p0), .val (.int nn), .val (.int ga), .val (.int pa), .val (.int gb), .val (.int pb), .val (.int gc), .val (.int pc), .val (.int aa), .val (.int ab), .val (.int ac), .val (.ref b1), .val (.long (nn.toInt64)), .second, .val (.long lc), .second, .val (.long lp), .second, .unset, .unset, .unset, .unset] [(.int (1 : Int32)), (.int ac), (.long ((own_on aa (B (ga = (0 : Int32)))) + (own_on ab (B (gb = (0 : Int32))))))])) (fun _ ks_ => XS.goto X25.here hx rfl (pc0 := 314) (pc' := 318) rfl (hb hby at_314) (by decide) (by decide) ks_) ?_
                                            exact J318_21 _ (B1 c310_7)
                                          ·
                                            refine go (u' := T25.setTop (mkF m 317 #[.val (.int p0), .val (.int nn), .val (.int ga), .val (.int pa), .val (.int gb), .val (.int pb), .val (.int gc), .val (.int pc), .val (.int aa), .val (.int ab), .val (.int ac), .val (.ref b1), .val (.long (nn.toInt64)), .second, .val (.long lc), .second, .val (.long lp), .second, .unset, .unset, .unset, .unset] [(.int ac), (.long ((own_on aa (B (ga = (0 : Int32)))) + (own_on ab (B (gb = (0 : Int32))))))])) (fun _ ks_ => XS.ifYes X25.here hx rfl (pc0 := 310) (pc' := 317) rfl (hb hby at_310) rfl ((if0 _ _).trans (feq c310_7).2) (by decide) (by decide) ks_) ?_
                                            refine go (u' := T25.setTop (mkF m 318 #[.val (.int p0), .val (.int nn), .val (.int ga), .val (.int pa), .val (.int gb), .val (.int pb), .val (.int gc), .val (.int pc), .val (.int aa), .val (.int ab), .val (.int ac), .val (.ref b1), .val (.long (nn.toInt64)), .second, .val (.long lc), .second, .val (.long lp), .second, .unset, .unset, .unset, .unset] [(.int (0 : Int32)), (.int ac), (.long ((own_on aa (B (ga = (0 : Int32)))) + (own_on ab (B (gb = (0 : Int32))))))])) (fun _ ks_ => XS.iconst X25.here hx rfl (hb hby at_317) ks_) ?_
                                            exact J318_21 _ (B0 c310_7)
                                        by_cases c294_8 : gb = (0 : Int32)
                                        ·
                                          refine go (u' := T24.setTop (mkF m 297 #[.val (.int p0), .val (.int nn), .val (.int ga), .val (.int pa), .val (.int gb), .val (.int pb), .val (.int gc), .val (.int pc), .val (.int aa), .val (.int ab), .val (.int ac), .val (.ref b1), .val (.long (nn.toInt64)), .second, .val (.long lc), .second, .val (.long lp), .second, .unset, .unset, .unset, .unset] [(.int ab), (.long (own_on aa (B (ga = (0 : Int32)))))])) (fun _ ks_ => XS.ifNo X24.here hx rfl (hb hby at_294) rfl ((if0 _ _).trans (teq c294_8).2) ks_) ?_
                                          refine go (u' := T24.setTop (mkF m 298 #[.val (.int p0), .val (.int nn), .val (.int ga), .val (.int pa), .val (.int gb), .val (.int pb), .val (.int gc), .val (.int pc), .val (.int aa), .val (.int ab), .val (.int ac), .val (.ref b1), .val (.long (nn.toInt64)), .second, .val (.long lc), .second, .val (.long lp), .second, .unset, .unset, .unset, .unset] [(.int (1 : Int32)), (.int ab), (.long (own_on aa (B (ga = (0 : Int32)))))])) (fun _ ks_ => XS.iconst X24.here hx rfl (hb hby at_297) ks_) ?_
                                          refine go (u' := T24.setTop (mkF m 302 #[.val (.int p0), .val (.int nn), .val (.int ga), .val (.int pa), .val (.int gb), .val (.int pb), .val (.int gc), .val (.int pc), .val (.int aa), .val (.int ab), .val (.int ac), .val (.ref b1), .val (.long (nn.toInt64)), .second, .val (.long lc), .second, .val (.long lp), .second, .unset, .unset, .unset, .unset] [(.int (1 : Int32)), (.int ab), (.long (own_on aa (B (ga = (0 : Int32)))))])) (fun _ ks_ => XS.goto X24.here hx rfl (pc0 := 298) (pc' := 302) rfl (hb hby at_298) (by decide) (by decide) ks_) ?_
                                          exact J302_20 _ (B1 c294_8)
                                        ·
                                          refine go (u' := T24.setTop (mkF m 301 #[.val (.int p0), .val (.int nn), .val (.int ga), .val (.int pa), .val (.int gb), .val (.int pb), .val (.int gc), .val (.int pc), .val (.int aa), .val (.int ab), .val (.int ac), .val (.ref b1), .val (.long (nn.toInt64)), .second, .val (.long lc), .second, .val (.long lp), .second, .unset, .unset, .unset, .unset] [(.int ab), (.long (own_on aa (B (ga = (0 : Int32)))))])) (fun _ ks_ => XS.ifYes X24.here hx rfl (pc0 := 294) (pc' := 301) rfl (hb hby at_294) rfl ((if0 _ _).trans (feq c294_8).2) (by decide) (by decide) ks_) ?_
                                          refine go (u' := T24.setTop (mkF m 302 #[.val (.int p0), .val (.int nn), .val (.int ga), .val (.int pa), .val (.int gb), .val (.int pb), .val (.int gc), .val (.int pc), .val (.int aa), .val (.int ab), .val (.int ac), .val (.ref b1), .val (.long (nn.toInt64)), .second, .val (.long lc), .second, .val (.long lp), .second, .unset, .unset, .unset, .unset] [(.int (0 : Int32)), (.int ab), (.long (own_on aa (B (ga = (0 : Int32)))))])) (fun _ ks_ => XS.iconst X24.here hx rfl (hb hby at_301) ks_) ?_
                                          exact J302_20 _ (B0 c294_8)
                                      by_cases c279_9 : ga = (0 : Int32)
                                      ·
                                        refine go (u' := T23.setTop (mkF m 282 #[.val (.int p0), .val (.int nn), .val (.int ga), .val (.int pa), .val (.int gb), .val (.int pb), .val (.int gc), .val (.int pc), .val (.int aa), .val (.int ab), .val (.int ac), .val (.ref b1), .val (.long (nn.toInt64)), .second, .val (.long lc), .second, .val (.long lp), .second, .unset, .unset, .unset, .unset] [(.int aa)])) (fun _ ks_ => XS.ifNo X23.here hx rfl (hb hby at_279) rfl ((if0 _ _).trans (teq c279_9).2) ks_) ?_
                                        refine go (u' := T23.setTop (mkF m 283 #[.val (.int p0), .val (.int nn), .val (.int ga), .val (.int pa), .val (.int gb), .val (.int pb), .val (.int gc), .val (.int pc), .val (.int aa), .val (.int ab), .val (.int ac), .val (.ref b1), .val (.long (nn.toInt64)), .second, .val (.long lc), .second, .val (.long lp), .second, .unset, .unset, .unset, .unset] [(.int (1 : Int32)), (.int aa)])) (fun _ ks_ => XS.iconst X23.here hx rfl (hb hby at_282) ks_) ?_
                                        refine go (u' := T23.setTop (mkF m 287 #[.val (.int p0), .val (.int nn), .val (.int ga), .val (.int pa), .val (.int gb), .val (.int pb), .val (.int gc), .val (.int pc), .val (.int aa), .val (.int ab), .val (.int ac), .val (.ref b1), .val (.long (nn.toInt64)), .second, .val (.long lc), .second, .val (.long lp), .second, .unset, .unset, .unset, .unset] [(.int (1 : Int32)), (.int aa)])) (fun _ ks_ => XS.goto X23.here hx rfl (pc0 := 283) (pc' := 287) rfl (hb hby at_283) (by decide) (by decide) ks_) ?_
                                        exact J287_19 _ (B1 c279_9)
                                      ·
                                        refine go (u' := T23.setTop (mkF m 286 #[.val (.int p0), .val (.int nn), .val (.int ga), .val (.int pa), .val (.int gb), .val (.int pb), .val (.int gc), .val (.int pc), .val (.int aa), .val (.int ab), .val (.int ac), .val (.ref b1), .val (.long (nn.toInt64)), .second, .val (.long lc), .second, .val (.long lp), .second, .unset, .unset, .unset, .unset] [(.int aa)])) (fun _ ks_ => XS.ifYes X23.here hx rfl (pc0 := 279) (pc' := 286) rfl (hb hby at_279) rfl ((if0 _ _).trans (feq c279_9).2) (by decide) (by decide) ks_) ?_
                                        refine go (u' := T23.setTop (mkF m 287 #[.val (.int p0), .val (.int nn), .val (.int ga), .val (.int pa), .val (.int gb), .val (.int pb), .val (.int gc), .val (.int pc), .val (.int aa), .val (.int ab), .val (.int ac), .val (.ref b1), .val (.long (nn.toInt64)), .second, .val (.long lc), .second, .val (.long lp), .second, .unset, .unset, .unset, .unset] [(.int (0 : Int32)), (.int aa)])) (fun _ ks_ => XS.iconst X23.here hx rfl (hb hby at_286) ks_) ?_
                                        exact J287_19 _ (B0 c279_9)
                                    by_cases c262_10 : pc = (0 : Int32)
                                    ·
                                      refine go (u' := T22.setTop (mkF m 265 #[.val (.int p0), .val (.int nn), .val (.int ga), .val (.int pa), .val (.int gb), .val (.int pb), .val (.int gc), .val (.int pc), .val (.int aa), .val (.int ab), .val (.int ac), .val (.ref b1), .val (.long (nn.toInt64)), .second, .val (.long lc), .second, .unset, .unset, .unset, .unset, .unset, .unset] [(.int ac), (.long ((own_on aa (B (pa = (0 : Int32)))) + (own_on ab (B (pb = (0 : Int32))))))])) (fun _ ks_ => XS.ifNo X22.here hx rfl (hb hby at_262) rfl ((if0 _ _).trans (teq c262_10).2) ks_) ?_
                                      refine go (u' := T22.setTop (mkF m 266 #[.val (.int p0), .val (.int nn), .val (.int ga), .val (.int pa), .val (.int gb), .val (.int pb), .val (.int gc), .val (.int pc), .val (.int aa), .val (.int ab), .val (.int ac), .val (.ref b1), .val (.long (nn.toInt64)), .second, .val (.long lc), .second, .unset, .unset, .unset, .unset, .unset, .unset] [(.int (1 : Int32)), (.int ac), (.long ((own_on aa (B (pa = (0 : Int32)))) + (own_on ab (B (pb = (0 : Int32))))))])) (fun _ ks_ => XS.iconst X22.here hx rfl (hb hby at_265) ks_) ?_
                                      refine go (u' := T22.setTop (mkF m 270 #[.val (.int p0), .val (.int nn), .val (.int ga), .val (.int pa), .val (.int gb), .val (.int pb), .val (.int gc), .val (.int pc), .val (.int aa), .val (.int ab), .val (.int ac), .val (.ref b1), .val (.long (nn.toInt64)), .second, .val (.long lc), .second, .unset, .unset, .unset, .unset, .unset, .unset] [(.int (1 : Int32)), (.int ac), (.long ((own_on aa (B (pa = (0 : Int32)))) + (own_on ab (B (pb = (0 : Int32))))))])) (fun _ ks_ => XS.goto X22.here hx rfl (pc0 := 266) (pc' := 270) rfl (hb hby at_266) (by decide) (by decide) ks_) ?_
                                      exact J270_18 _ (B1 c262_10)
                                    ·
                                      refine go (u' := T22.setTop (mkF m 269 #[.val (.int p0), .val (.int nn), .val (.int ga), .val (.int pa), .val (.int gb), .val (.int pb), .val (.int gc), .val (.int pc), .val (.int aa), .val (.int ab), .val (.int ac), .val (.ref b1), .val (.long (nn.toInt64)), .second, .val (.long lc), .second, .unset, .unset, .unset, .unset, .unset, .unset] [(.int ac), (.long ((own_on aa (B (pa = (0 : Int32)))) + (own_on ab (B (pb = (0 : Int32))))))])) (fun _ ks_ => XS.ifYes X22.here hx rfl (pc0 := 262) (pc' := 269) rfl (hb hby at_262) rfl ((if0 _ _).trans (feq c262_10).2) (by decide) (by decide) ks_) ?_
                                      refine go (u' := T22.setTop (mkF m 270 #[.val (.int p0), .val (.int nn), .val (.int ga), .val (.int pa), .val (.int gb), .val (.int pb), .val (.int gc), .val (.int pc), .val (.int aa), .val (.int ab), .val (.int ac), .val (.ref b1), .val (.long (nn.toInt64)), .second, .val (.long lc), .second, .unset, .unset, .unset, .unset, .unset, .unset] [(.int (0 : Int32)), (.int ac), (.long ((own_on aa (B (pa = (0 : Int32)))) + (own_on ab (B (pb = (0 : Int32))))))])) (fun _ ks_ => XS.iconst X22.here hx rfl (hb hby at_269) ks_) ?_
                                      exact J270_18 _ (B0 c262_10)
                                  by_cases c246_11 : pb = (0 : Int32)
                                  ·
                                    refine go (u' := T21.setTop (mkF m 249 #[.val (.int p0), .val (.int nn), .val (.int ga), .val (.int pa), .val (.int gb), .val (.int pb), .val (.int gc), .val (.int pc), .val (.int aa), .val (.int ab), .val (.int ac), .val (.ref b1), .val (.long (nn.toInt64)), .second, .val (.long lc), .second, .unset, .unset, .unset, .unset, .unset, .unset] [(.int ab), (.long (own_on aa (B (pa = (0 : Int32)))))])) (fun _ ks_ => XS.ifNo X21.here hx rfl (hb hby at_246) rfl ((if0 _ _).trans (teq c246_11).2) ks_) ?_
                                    refine go (u' := T21.setTop (mkF m 250 #[.val (.int p0), .val (.int nn), .val (.int ga), .val (.int pa), .val (.int gb), .val (.int pb), .val (.int gc), .val (.int pc), .val (.int aa), .val (.int ab), .val (.int ac), .val (.ref b1), .val (.long (nn.toInt64)), .second, .val (.long lc), .second, .unset, .unset, .unset, .unset, .unset, .unset] [(.int (1 : Int32)), (.int ab), (.long (own_on aa (B (pa = (0 : Int32)))))])) (fun _ ks_ => XS.iconst X21.here hx rfl (hb hby at_249) ks_) ?_
                                    refine go (u' := T21.setTop (mkF m 254 #[.val (.int p0), .val (.int nn), .val (.int ga), .val (.int pa), .val (.int gb), .val (.int pb), .val (.int gc), .val (.int pc), .val (.int aa), .val (.int ab), .val (.int ac), .val (.ref b1), .val (.long (nn.toInt64)), .second, .val (.long lc), .second, .unset, .unset, .unset, .unset, .unset, .unset] [(.int (1 : Int32)), (.int ab), (.long (own_on aa (B (pa = (0 : Int32)))))])) (fun _ ks_ => XS.goto X21.here hx rfl (pc0 := 250) (pc' := 254) rfl (hb hby at_250) (by decide) (by decide) ks_) ?_
                                    exact J254_17 _ (B1 c246_11)
                                  ·
                                    refine go (u' := T21.setTop (mkF m 253 #[.val (.int p0), .val (.int nn), .val (.int ga), .val (.int pa), .val (.int gb), .val (.int pb), .val (.int gc), .val (.int pc), .val (.int aa), .val (.int ab), .val (.int ac), .val (.ref b1), .val (.long (nn.toInt64)), .second, .val (.long lc), .second, .unset, .unset, .unset, .unset, .unset, .unset] [(.int ab), (.long (own_on aa (B (pa = (0 : Int32)))))])) (fun _ ks_ => XS.ifYes X21.here hx rfl (pc0 := 246) (pc' := 253) rfl (hb hby at_246) rfl ((if0 _ _).trans (feq c246_11).2) (by decide) (by decide) ks_) ?_
                                    refine go (u' := T21.setTop (mkF m 254 #[.val (.int p0), .val (.int nn), .val (.int ga), .val (.int pa), .val (.int gb), .val (.int pb), .val (.int gc), .val (.int pc), .val (.int aa), .val (.int ab), .val (.int ac), .val (.ref b1), .val (.long (nn.toInt64)), .second, .val (.long lc), .second, .unset, .unset, .unset, .unset, .unset, .unset] [(.int (0 : Int32)), (.int ab), (.long (own_on aa (B (pa = (0 : Int32)))))])) (fun _ ks_ => XS.iconst X21.here hx rfl (hb hby at_253) ks_) ?_
                                    exact J254_17 _ (B0 c246_11)
                                by_cases c231_12 : pa = (0 : Int32)
                                ·
                                  refine go (u' := T20.setTop (mkF m 234 #[.val (.int p0), .val (.int nn), .val (.int ga), .val (.int pa), .val (.int gb), .val (.int pb), .val (.int gc), .val (.int pc), .val (.int aa), .val (.int ab), .val (.int ac), .val (.ref b1), .val (.long (nn.toInt64)), .second, .val (.long lc), .second, .unset, .unset, .unset, .unset, .unset, .unset] [(.int aa)])) (fun _ ks_ => XS.ifNo X20.here hx rfl (hb hby at_231) rfl ((if0 _ _).trans (teq c231_12).2) ks_) ?_
                                  refine go (u' := T20.setTop (mkF m 235 #[.val (.int p0), .val (.int nn), .val (.int ga), .val (.int pa), .val (.int gb), .val (.int pb), .val (.int gc), .val (.int pc), .val (.int aa), .val (.int ab), .val (.int ac), .val (.ref b1), .val (.long (nn.toInt64)), .second, .val (.long lc), .second, .unset, .unset, .unset, .unset, .unset, .unset] [(.int (1 : Int32)), (.int aa)])) (fun _ ks_ => XS.iconst X20.here hx rfl (hb hby at_234) ks_) ?_
                                  refine go (u' := T20.setTop (mkF m 239 #[.val (.int p0), .val (.int nn), .val (.int ga), .val (.int pa), .val (.int gb), .val (.int pb), .val (.int gc), .val (.int pc), .val (.int aa), .val (.int ab), .val (.int ac), .val (.ref b1), .val (.long (nn.toInt64)), .second, .val (.long lc), .second, .unset, .unset, .unset, .unset, .unset, .unset] [(.int (1 : Int32)), (.int aa)])) (fun _ ks_ => XS.goto X20.here hx rfl (pc0 := 235) (pc' := 239) rfl (hb hby at_235) (by decide) (by decide) ks_) ?_
                                  exact J239_16 _ (B1 c231_12)
                                ·
                                  refine go (u' := T20.setTop (mkF m 238 #[.val (.int p0), .val (.int nn), .val (.int ga), .val (.int pa), .val (.int gb), .val (.int pb), .val (.int gc), .val (.int pc), .val (.int aa), .val (.int ab), .val (.int ac), .val (.ref b1), .val (.long (nn.toInt64)), .second, .val (.long lc), .second, .unset, .unset, .unset, .unset, .unset, .unset] [(.int aa)])) (fun _ ks_ => XS.ifYes X20.here hx rfl (pc0 := 231) (pc' := 238) rfl (hb hby at_231) rfl ((if0 _ _).trans (feq c231_12).2) (by decide) (by decide) ks_) ?_
                                  refine go (u' := T20.setTop (mkF m 239 #[.val (.int p0), .val (.int nn), .val (.int ga), .val (.int pa), .val (.int gb), .val (.int pb), .val (.int gc), .val (.int pc), .val (.int aa), .val (.int ab), .val (.int ac), .val (.ref b1), .val (.long (nn.toInt64)), .second, .val (.long lc), .second, .unset, .unset, .unset, .unset, .unset, .unset] [(.int (0 : Int32)), (.int aa)])) (fun _ ks_ => XS.iconst X20.here hx rfl (hb hby at_238) ks_) ?_
                                  exact J239_16 _ (B0 c231_12)
                              by_cases c214_13 : gc = pc
                              ·
                                refine go (u' := T19.setTop (mkF m 217 #[.val (.int p0), .val (.int nn), .val (.int ga), .val (.int pa), .val (.int gb), .val (.int pb), .val (.int gc), .val (.int pc), .val (.int aa), .val (.int ab), .val (.int ac), .val (.ref b1), .val (.long (nn.toInt64)), .second, .unset, .unset, .unset, .unset, .unset, .unset, .unset, .unset] [(.int ac), (.long ((own_on aa (B (ga = pa))) + (own_on ab (B (gb = pb)))))])) (fun _ ks_ => XS.icmpNo X19.here hx rfl (hb hby at_214) rfl (teq c214_13).2 ks_) ?_
                                refine go (u' := T19.setTop (mkF m 218 #[.val (.int p0), .val (.int nn), .val (.int ga), .val (.int pa), .val (.int gb), .val (.int pb), .val (.int gc), .val (.int pc), .val (.int aa), .val (.int ab), .val (.int ac), .val (.ref b1), .val (.long (nn.toInt64)), .second, .unset, .unset, .unset, .unset, .unset, .unset, .unset, .unset] [(.int (1 : Int32)), (.int ac), (.long ((own_on aa (B (ga = pa))) + (own_on ab (B (gb = pb)))))])) (fun _ ks_ => XS.iconst X19.here hx rfl (hb hby at_217) ks_) ?_
                                refine go (u' := T19.setTop (mkF m 222 #[.val (.int p0), .val (.int nn), .val (.int ga), .val (.int pa), .val (.int gb), .val (.int pb), .val (.int gc), .val (.int pc), .val (.int aa), .val (.int ab), .val (.int ac), .val (.ref b1), .val (.long (nn.toInt64)), .second, .unset, .unset, .unset, .unset, .unset, .unset, .unset, .unset] [(.int (1 : Int32)), (.int ac), (.long ((own_on aa (B (ga = pa))) + (own_on ab (B (gb = pb)))))])) (fun _ ks_ => XS.goto X19.here hx rfl (pc0 := 218) (pc' := 222) rfl (hb hby at_218) (by decide) (by decide) ks_) ?_
                                exact J222_15 _ (B1 c214_13)
                              ·
                                refine go (u' := T19.setTop (mkF m 221 #[.val (.int p0), .val (.int nn), .val (.int ga), .val (.int pa), .val (.int gb), .val (.int pb), .val (.int gc), .val (.int pc), .val (.int aa), .val (.int ab), .val (.int ac), .val (.ref b1), .val (.long (nn.toInt64)), .second, .unset, .unset, .unset, .unset, .unset, .unset, .unset, .unset] [(.int ac), (.long ((own_on aa (B (ga = pa))) + (own_on ab (B (gb = pb)))))])) (fun _ ks_ => XS.icmpYes X19.here hx rfl (pc0 := 214) (pc' := 221) rfl (hb hby at_214) rfl (feq c214_13).2 (by decide) (by decide) ks_) ?_
                                refine go (u' := T19.setTop (mkF m 222 #[.val (.int p0), .val (.int nn), .val (.int ga), .val (.int pa), .val (.int gb), .val (.int pb), .val (.int gc), .val (.int pc), .val (.int aa), .val (.int ab), .val (.int ac), .val (.ref b1), .val (.long (nn.toInt64)), .second, .unset, .unset, .unset, .unset, .unset, .unset, .unset, .unset] [(.int (0 : Int32)), (.int ac), (.long ((own_on aa (B (ga = pa))) + (own_on ab (B (gb = pb)))))])) (fun _ ks_ => XS.iconst X19.here hx rfl (hb hby at_221) ks_) ?_
                                exact J222_15 _ (B0 c214_13)
                            by_cases c196_14 : gb = pb
                            ·
                              refine go (u' := T18.setTop (mkF m 199 #[.val (.int p0), .val (.int nn), .val (.int ga), .val (.int pa), .val (.int gb), .val (.int pb), .val (.int gc), .val (.int pc), .val (.int aa), .val (.int ab), .val (.int ac), .val (.ref b1), .val (.long (nn.toInt64)), .second, .unset, .unset, .unset, .unset, .unset, .unset, .unset, .unset] [(.int ab), (.long (own_on aa (B (ga = pa))))])) (fun _ ks_ => XS.icmpNo X18.here hx rfl (hb hby at_196) rfl (teq c196_14).2 ks_) ?_
                              refine go (u' := T18.setTop (mkF m 200 #[.val (.int p0), .val (.int nn), .val (.int ga), .val (.int pa), .val (.int gb), .val (.int pb), .val (.int gc), .val (.int pc), .val (.int aa), .val (.int ab), .val (.int ac), .val (.ref b1), .val (.long (nn.toInt64)), .second, .unset, .unset, .unset, .unset, .unset, .unset, .unset, .unset] [(.int (1 : Int32)), (.int ab), (.long (own_on aa (B (ga = pa))))])) (fun _ ks_ => XS.iconst X18.here hx rfl (hb hby at_199) ks_) ?_
                              refine go (u' := T18.setTop (mkF m 204 #[.val (.int p0), .val (.int nn), .val (.int ga), .val (.int pa), .val (.int gb), .val (.int pb), .val (.int gc), .val (.int pc), .val (.int aa), .val (.int ab), .val (.int ac), .val (.ref b1), .val (.long (nn.toInt64)), .second, .unset, .unset, .unset, .unset, .unset, .unset, .unset, .unset] [(.int (1 : Int32)), (.int ab), (.long (own_on aa (B (ga = pa))))])) (fun _ ks_ => XS.goto X18.here hx rfl (pc0 := 200) (pc' := 204) rfl (hb hby at_200) (by decide) (by decide) ks_) ?_
                              exact J204_14 _ (B1 c196_14)
                            ·
                              refine go (u' := T18.setTop (mkF m 203 #[.val (.int p0), .val (.int nn), .val (.int ga), .val (.int pa), .val (.int gb), .val (.int pb), .val (.int gc), .val (.int pc), .val (.int aa), .val (.int ab), .val (.int ac), .val (.ref b1), .val (.long (nn.toInt64)), .second, .unset, .unset, .unset, .unset, .unset, .unset, .unset, .unset] [(.int ab), (.long (own_on aa (B (ga = pa))))])) (fun _ ks_ => XS.icmpYes X18.here hx rfl (pc0 := 196) (pc' := 203) rfl (hb hby at_196) rfl (feq c196_14).2 (by decide) (by decide) ks_) ?_
                              refine go (u' := T18.setTop (mkF m 204 #[.val (.int p0), .val (.int nn), .val (.int ga), .val (.int pa), .val (.int gb), .val (.int pb), .val (.int gc), .val (.int pc), .val (.int aa), .val (.int ab), .val (.int ac), .val (.ref b1), .val (.long (nn.toInt64)), .second, .unset, .unset, .unset, .unset, .unset, .unset, .unset, .unset] [(.int (0 : Int32)), (.int ab), (.long (own_on aa (B (ga = pa))))])) (fun _ ks_ => XS.iconst X18.here hx rfl (hb hby at_203) ks_) ?_
                              exact J204_14 _ (B0 c196_14)
                          by_cases c179_15 : ga = pa
                          ·
                            refine go (u' := T17.setTop (mkF m 182 #[.val (.int p0), .val (.int nn), .val (.int ga), .val (.int pa), .val (.int gb), .val (.int pb), .val (.int gc), .val (.int pc), .val (.int aa), .val (.int ab), .val (.int ac), .val (.ref b1), .val (.long (nn.toInt64)), .second, .unset, .unset, .unset, .unset, .unset, .unset, .unset, .unset] [(.int aa)])) (fun _ ks_ => XS.icmpNo X17.here hx rfl (hb hby at_179) rfl (teq c179_15).2 ks_) ?_
                            refine go (u' := T17.setTop (mkF m 183 #[.val (.int p0), .val (.int nn), .val (.int ga), .val (.int pa), .val (.int gb), .val (.int pb), .val (.int gc), .val (.int pc), .val (.int aa), .val (.int ab), .val (.int ac), .val (.ref b1), .val (.long (nn.toInt64)), .second, .unset, .unset, .unset, .unset, .unset, .unset, .unset, .unset] [(.int (1 : Int32)), (.int aa)])) (fun _ ks_ => XS.iconst X17.here hx rfl (hb hby at_182) ks_) ?_
                            refine go (u' := T17.setTop (mkF m 187 #[.val (.int p0), .val (.int nn), .val (.int ga), .val (.int pa), .val (.int gb), .val (.int pb), .val (.int gc), .val (.int pc), .val (.int aa), .val (.int ab), .val (.int ac), .val (.ref b1), .val (.long (nn.toInt64)), .second, .unset, .unset, .unset, .unset, .unset, .unset, .unset, .unset] [(.int (1 : Int32)), (.int aa)])) (fun _ ks_ => XS.goto X17.here hx rfl (pc0 := 183) (pc' := 187) rfl (hb hby at_183) (by decide) (by decide) ks_) ?_
                            exact J187_13 _ (B1 c179_15)
                          ·
                            refine go (u' := T17.setTop (mkF m 186 #[.val (.int p0), .val (.int nn), .val (.int ga), .val (.int pa), .val (.int gb), .val (.int pb), .val (.int gc), .val (.int pc), .val (.int aa), .val (.int ab), .val (.int ac), .val (.ref b1), .val (.long (nn.toInt64)), .second, .unset, .unset, .unset, .unset, .unset, .unset, .unset, .unset] [(.int aa)])) (fun _ ks_ => XS.icmpYes X17.here hx rfl (pc0 := 179) (pc' := 186) rfl (hb hby at_179) rfl (feq c179_15).2 (by decide) (by decide) ks_) ?_
                            refine go (u' := T17.setTop (mkF m 187 #[.val (.int p0), .val (.int nn), .val (.int ga), .val (.int pa), .val (.int gb), .val (.int pb), .val (.int gc), .val (.int pc), .val (.int aa), .val (.int ab), .val (.int ac), .val (.ref b1), .val (.long (nn.toInt64)), .second, .unset, .unset, .unset, .unset, .unset, .unset, .unset, .unset] [(.int (0 : Int32)), (.int aa)])) (fun _ ks_ => XS.iconst X17.here hx rfl (hb hby at_186) ks_) ?_
                            exact J187_13 _ (B0 c179_15)
                        refine go (u' := T16.setTop (mkF m 159 #[.val (.int p0), .val (.int nn), .val (.int ga), .val (.int pa), .val (.int gb), .val (.int pb), .val (.int gc), .val (.int pc), .val (.int aa), .val (.int ab), .val (.int ac), .val (.ref b1), .unset, .unset, .unset, .unset, .unset, .unset, .unset, .unset, .unset, .unset] [(.int ac)])) (fun _ ks_ => XS.iload X16.here hx rfl (hb hby at_157) rfl  ks_) ?_
                        by_cases c159_16 : ac = (0 : Int32)
                        ·
                          refine go (u' := T16.setTop (mkF m 171 #[.val (.int p0), .val (.int nn), .val (.int ga), .val (.int pa), .val (.int gb), .val (.int pb), .val (.int gc), .val (.int pc), .val (.int aa), .val (.int ab), .val (.int ac), .val (.ref b1), .unset, .unset, .unset, .unset, .unset, .unset, .unset, .unset, .unset, .unset] [])) (fun _ ks_ => XS.ifYes X16.here hx rfl (pc0 := 159) (pc' := 171) rfl (hb hby at_159) rfl ((if0 _ _).trans (teq c159_16).1) (by decide) (by decide) ks_) ?_
                          exact C171_12 wd ct po gg co _ _ _ X16 e16 N16 Z16 K16 F16_0 F16_1 F16_2 F16_3 F16_4 F16_5 (by rw [← h_wd]; rw [own_X0 c159_16, Int64.add_zero]) (by rw [← h_ct]; rw [own_X0 c159_16, Int64.add_zero]) (by rw [← h_po]; rw [own_X0 c159_16, Int64.add_zero]) (by rw [← h_gg]; rw [own_X0 c159_16, Int64.add_zero]) (by rw [← h_co]; rw [own_X0 c159_16, Int64.add_zero])
                        ·
                          refine go (u' := T16.setTop (mkF m 162 #[.val (.int p0), .val (.int nn), .val (.int ga), .val (.int pa), .val (.int gb), .val (.int pb), .val (.int gc), .val (.int pc), .val (.int aa), .val (.int ab), .val (.int ac), .val (.ref b1), .unset, .unset, .unset, .unset, .unset, .unset, .unset, .unset, .unset, .unset] [])) (fun _ ks_ => XS.ifNo X16.here hx rfl (hb hby at_159) rfl ((if0 _ _).trans (feq c159_16).1) ks_) ?_
                          refine go (u' := T16.setTop (mkF m 164 #[.val (.int p0), .val (.int nn), .val (.int ga), .val (.int pa), .val (.int gb), .val (.int pb), .val (.int gc), .val (.int pc), .val (.int aa), .val (.int ab), .val (.int ac), .val (.ref b1), .unset, .unset, .unset, .unset, .unset, .unset, .unset, .unset, .unset, .unset] [(.ref b1)])) (fun _ ks_ => XS.aload X16.here hx rfl (hb hby at_162) rfl rfl ks_) ?_
                          refine go (u' := T16.setTop (mkF m 166 #[.val (.int p0), .val (.int nn), .val (.int ga), .val (.int pa), .val (.int gb), .val (.int pb), .val (.int gc), .val (.int pc), .val (.int aa), .val (.int ab), .val (.int ac), .val (.ref b1), .unset, .unset, .unset, .unset, .unset, .unset, .unset, .unset, .unset, .unset] [(.int gc), (.ref b1)])) (fun _ ks_ => XS.iload X16.here hx rfl (hb hby at_164) rfl  ks_) ?_
                          refine go (u' := T16.setTop (mkF m 168 #[.val (.int p0), .val (.int nn), .val (.int ga), .val (.int pa), .val (.int gb), .val (.int pb), .val (.int gc), .val (.int pc), .val (.int aa), .val (.int ab), .val (.int ac), .val (.ref b1), .unset, .unset, .unset, .unset, .unset, .unset, .unset, .unset, .unset, .unset] [(.int pc), (.int gc), (.ref b1)])) (fun _ ks_ => XS.iload X16.here hx rfl (hb hby at_166) rfl  ks_) ?_
                          obtain ⟨cq37, kq37, q37a, q37b, q37c⟩ := isOf hZ e16 F16_0
                          obtain ⟨_, _, ⟨T37, L37, k37, n37⟩, -, X37, ⟨Lc37, hQ37, l37, y37, z37⟩, st37⟩ := X16.virtualBack hx (y := (⟨"com/example/chartwright/chartwright/eval/ClassScore", "add", "(ZZ)V"⟩ : MethodName)) (z := (⟨"com/example/chartwright/chartwright/eval/ClassScore", "add", "(ZZ)V"⟩ : MethodName)) hown (mvT hZ (ww hw 50 rfl)) (mvT hZ (ww hw 51 rfl)) (notFace_of_selects (args := #[]) (mvT hZ (ww hw 53 rfl))) (mvT hZ (ww hw 53 rfl)) (mvT hZ (ww hw 52 rfl)) (by decide) (backOf (W := 0) (rm10 l Z a0 hw [] b1 gc pc wd ct po gg co h16 n0 Z16 g_b1 F16_0 F16_3 F16_2 F16_1 F16_5 F16_4) hZ (ww hw 54 rfl) (ww hw 2 rfl) (by decide) (by decide)) q37a q37c (g := (mkF m 168 #[.val (.int p0), .val (.int nn), .val (.int ga), .val (.int pa), .val (.int gb), .val (.int pb), .val (.int gc), .val (.int pc), .val (.int aa), .val (.int ab), .val (.int ac), .val (.ref b1), .unset, .unset, .unset, .unset, .unset, .unset, .unset, .unset, .unset, .unset] [(.int pc), (.int gc), (.ref b1)])) rfl (by rw [hml]; rfl) (Steps.refl _) (argsL := [(.int gc), (.int pc)]) (rest := []) (lenOf pd__40_ZZ_41_V rfl) rfl (by show 2 * 0 + _ ≤ _; exact Nat.le_of_eq rfl) (hb hby at_168) (fun _ _ => ⟨rfl, e16, (by decide : 1 + 0 ≤ _), (by decide : 5 + 0 ≤ _)⟩)
                          dsimp only [Pt.U, Pt.locs, Pt.cells, Pt.slots] at X37 l37 y37 z37 st37 hQ37
                          subst l37 y37 z37
                          obtain ⟨rfl, N37q, Kq37, Fa38, Fa39, Fa40, Fa41, Fa42, Fa43⟩ := hQ37
                          have N37 := Fr.app N16 N37q
                          have K37 : Keep h0 T37.heap [] := K16.trans Kq37 (allS (P := fun x => x ∈ [] ∨ h0.size ≤ x) (Or.inr sz_b1) all0)
                          have Z37 : n0 ≤ T37.heap.size := Nat.le_trans Z16 Kq37.1
                          have Fa44 : Exa Z T37.heap b1 "com/example/chartwright/chartwright/eval/ClassScore" := F16_0.keep Kq37
                          refine goT (u' := T37.setTop (mkF m 171 #[.val (.int p0), .val (.int nn), .val (.int ga), .val (.int pa), .val (.int gb), .val (.int pb), .val (.int gc), .val (.int pc), .val (.int aa), .val (.int ab), .val (.int ac), .val (.ref b1), .unset, .unset, .unset, .unset, .unset, .unset, .unset, .unset, .unset, .unset] [])) st37 ?_
                          exact C171_12 ((wd + (1 : Int64))) ((ad_correct gc pc ct)) ((ad_predictedOut pc po)) ((ad_goldOut gc gg)) ((ad_correctOut gc pc co)) _ _ _ X37 (rfl : T37.heap = _) N37 Z37 K37 Fa38 Fa41 Fa40 Fa39 Fa43 Fa42 (by rw [← h_wd]; rw [own_X1 c159_16]; rfl) (by rw [← h_ct]; rw [own_X1 c159_16]; exact own_a1 _ _ _) (by rw [← h_po]; rw [own_X1 c159_16]; exact own_a2 _ _) (by rw [← h_gg]; rw [own_X1 c159_16]; exact own_a3 _ _) (by rw [← h_co]; rw [own_X1 c159_16]; exact own_a4 _ _ _)
                      refine go (u' := T15.setTop (mkF m 145 #[.val (.int p0), .val (.int nn), .val (.int ga), .val (.int pa), .val (.int gb), .val (.int pb), .val (.int gc), .val (.int pc), .val (.int aa), .val (.int ab), .val (.int ac), .val (.ref b1), .unset, .unset, .unset, .unset, .unset, .unset, .unset, .unset, .unset, .unset] [(.int ab)])) (fun _ ks_ => XS.iload X15.here hx rfl (hb hby at_143) rfl  ks_) ?_
                      by_cases c145_17 : ab = (0 : Int32)
                      ·
                        refine go (u' := T15.setTop (mkF m 157 #[.val (.int p0), .val (.int nn), .val (.int ga), .val (.int pa), .val (.int gb), .val (.int pb), .val (.int gc), .val (.int pc), .val (.int aa), .val (.int ab), .val (.int ac), .val (.ref b1), .unset, .unset, .unset, .unset, .unset, .unset, .unset, .unset, .unset, .unset] [])) (fun _ ks_ => XS.ifYes X15.here hx rfl (pc0 := 145) (pc' := 157) rfl (hb hby at_145) rfl ((if0 _ _).trans (teq c145_17).1) (by decide) (by decide) ks_) ?_
                        exact C157_11 wd ct po gg co _ _ _ X15 e15 N15 Z15 K15 F15_0 F15_1 F15_2 F15_3 F15_4 F15_5 (by rw [← h_wd]; rw [own_X0 c145_17, Int64.add_zero]) (by rw [← h_ct]; rw [own_X0 c145_17, Int64.add_zero]) (by rw [← h_po]; rw [own_X0 c145_17, Int64.add_zero]) (by rw [← h_gg]; rw [own_X0 c145_17, Int64.add_zero]) (by rw [← h_co]; rw [own_X0 c145_17, Int64.add_zero])
                      ·
                        refine go (u' := T15.setTop (mkF m 148 #[.val (.int p0), .val (.int nn), .val (.int ga), .val (.int pa), .val (.int gb), .val (.int pb), .val (.int gc), .val (.int pc), .val (.int aa), .val (.int ab), .val (.int ac), .val (.ref b1), .unset, .unset, .unset, .unset, .unset, .unset, .unset, .unset, .unset, .unset] [])) (fun _ ks_ => XS.ifNo X15.here hx rfl (hb hby at_145) rfl ((if0 _ _).trans (feq c145_17).1) ks_) ?_
                        refine go (u' := T15.setTop (mkF m 150 #[.val (.int p0), .val (.int nn), .val (.int ga), .val (.int pa), .val (.int gb), .val (.int pb), .val (.int gc), .val (.int pc), .val (.int aa), .val (.int ab), .val (.int ac), .val (.ref b1), .unset, .unset, .unset, .unset, .unset, .unset, .unset, .unset, .unset, .unset] [(.ref b1)])) (fun _ ks_ => XS.aload X15.here hx rfl (hb hby at_148) rfl rfl ks_) ?_
                        refine go (u' := T15.setTop (mkF m 152 #[.val (.int p0), .val (.int nn), .val (.int ga), .val (.int pa), .val (.int gb), .val (.int pb), .val (.int gc), .val (.int pc), .val (.int aa), .val (.int ab), .val (.int ac), .val (.ref b1), .unset, .unset, .unset, .unset, .unset, .unset, .unset, .unset, .unset, .unset] [(.int gb), (.ref b1)])) (fun _ ks_ => XS.iload X15.here hx rfl (hb hby at_150) rfl  ks_) ?_
                        refine go (u' := T15.setTop (mkF m 154 #[.val (.int p0), .val (.int nn), .val (.int ga), .val (.int pa), .val (.int gb), .val (.int pb), .val (.int gc), .val (.int pc), .val (.int aa), .val (.int ab), .val (.int ac), .val (.ref b1), .unset, .unset, .unset, .unset, .unset, .unset, .unset, .unset, .unset, .unset] [(.int pb), (.int gb), (.ref b1)])) (fun _ ks_ => XS.iload X15.here hx rfl (hb hby at_152) rfl  ks_) ?_
                        obtain ⟨cq45, kq45, q45a, q45b, q45c⟩ := isOf hZ e15 F15_0
                        obtain ⟨_, _, ⟨T45, L45, k45, n45⟩, -, X45, ⟨Lc45, hQ45, l45, y45, z45⟩, st45⟩ := X15.virtualBack hx (y := (⟨"com/example/chartwright/chartwright/eval/ClassScore", "add", "(ZZ)V"⟩ : MethodName)) (z := (⟨"com/example/chartwright/chartwright/eval/ClassScore", "add", "(ZZ)V"⟩ : MethodName)) hown (mvT hZ (ww hw 50 rfl)) (mvT hZ (ww hw 51 rfl)) (notFace_of_selects (args := #[]) (mvT hZ (ww hw 53 rfl))) (mvT hZ (ww hw 53 rfl)) (mvT hZ (ww hw 52 rfl)) (by decide) (backOf (W := 0) (rm10 l Z a0 hw [] b1 gb pb wd ct po gg co h15 n0 Z15 g_b1 F15_0 F15_3 F15_2 F15_1 F15_5 F15_4) hZ (ww hw 54 rfl) (ww hw 2 rfl) (by decide) (by decide)) q45a q45c (g := (mkF m 154 #[.val (.int p0), .val (.int nn), .val (.int ga), .val (.int pa), .val (.int gb), .val (.int pb), .val (.int gc), .val (.int pc), .val (.int aa), .val (.int ab), .val (.int ac), .val (.ref b1), .unset, .unset, .unset, .unset, .unset, .unset, .unset, .unset, .unset, .unset] [(.int pb), (.int gb), (.ref b1)])) rfl (by rw [hml]; rfl) (Steps.refl _) (argsL := [(.int gb), (.int pb)]) (rest := []) (lenOf pd__40_ZZ_41_V rfl) rfl (by show 2 * 0 + _ ≤ _; exact Nat.le_of_eq rfl) (hb hby at_154) (fun _ _ => ⟨rfl, e15, (by decide : 1 + 0 ≤ _), (by decide : 5 + 0 ≤ _)⟩)
                        dsimp only [Pt.U, Pt.locs, Pt.cells, Pt.slots] at X45 l45 y45 z45 st45 hQ45
                        subst l45 y45 z45
                        obtain ⟨rfl, N45q, Kq45, Fa46, Fa47, Fa48, Fa49, Fa50, Fa51⟩ := hQ45
                        have N45 := Fr.app N15 N45q
                        have K45 : Keep h0 T45.heap [] := K15.trans Kq45 (allS (P := fun x => x ∈ [] ∨ h0.size ≤ x) (Or.inr sz_b1) all0)
                        have Z45 : n0 ≤ T45.heap.size := Nat.le_trans Z15 Kq45.1
                        have Fa52 : Exa Z T45.heap b1 "com/example/chartwright/chartwright/eval/ClassScore" := F15_0.keep Kq45
                        refine goT (u' := T45.setTop (mkF m 157 #[.val (.int p0), .val (.int nn), .val (.int ga), .val (.int pa), .val (.int gb), .val (.int pb), .val (.int gc), .val (.int pc), .val (.int aa), .val (.int ab), .val (.int ac), .val (.ref b1), .unset, .unset, .unset, .unset, .unset, .unset, .unset, .unset, .unset, .unset] [])) st45 ?_
                        exact C157_11 ((wd + (1 : Int64))) ((ad_correct gb pb ct)) ((ad_predictedOut pb po)) ((ad_goldOut gb gg)) ((ad_correctOut gb pb co)) _ _ _ X45 (rfl : T45.heap = _) N45 Z45 K45 Fa46 Fa49 Fa48 Fa47 Fa51 Fa50 (by rw [← h_wd]; rw [own_X1 c145_17]; rfl) (by rw [← h_ct]; rw [own_X1 c145_17]; exact own_a1 _ _ _) (by rw [← h_po]; rw [own_X1 c145_17]; exact own_a2 _ _) (by rw [← h_gg]; rw [own_X1 c145_17]; exact own_a3 _ _) (by rw [← h_co]; rw [own_X1 c145_17]; exact own_a4 _ _ _)
                    refine go (u' := T7.setTop (mkF m 133 #[.val (.int p0), .val (.int nn), .val (.int ga), .val (.int pa), .val (.int gb), .val (.int pb), .val (.int gc), .val (.int pc), .val (.int aa), .val (.int ab), .val (.int ac), .val (.ref b1), .unset, .unset, .unset, .unset, .unset, .unset, .unset, .unset, .unset, .unset] [(.int aa)])) (fun _ ks_ => XS.iload X7.here hx rfl (hb hby at_131) rfl  ks_) ?_
                    by_cases c133_18 : aa = (0 : Int32)
                    ·
                      refine go (u' := T7.setTop (mkF m 143 #[.val (.int p0), .val (.int nn), .val (.int ga), .val (.int pa), .val (.int gb), .val (.int pb), .val (.int gc), .val (.int pc), .val (.int aa), .val (.int ab), .val (.int ac), .val (.ref b1), .unset, .unset, .unset, .unset, .unset, .unset, .unset, .unset, .unset, .unset] [])) (fun _ ks_ => XS.ifYes X7.here hx rfl (pc0 := 133) (pc' := 143) rfl (hb hby at_133) rfl ((if0 _ _).trans (teq c133_18).1) (by decide) (by decide) ks_) ?_
                      exact C143_10 ((0 : Int64)) ((0 : Int64)) ((0 : Int64)) ((0 : Int64)) ((0 : Int64)) _ _ _ X7 (rfl : T7.heap = _) N7 Z7 K7 Fa8 Fa9 Fa10 Fa11 Fa12 Fa13 (by rw [own_X0 c133_18, Int64.add_zero]) (by rw [own_X0 c133_18, Int64.add_zero]) (by rw [own_X0 c133_18, Int64.add_zero]) (by rw [own_X0 c133_18, Int64.add_zero]) (by rw [own_X0 c133_18, Int64.add_zero])
                    ·
                      refine go (u' := T7.setTop (mkF m 136 #[.val (.int p0), .val (.int nn), .val (.int ga), .val (.int pa), .val (.int gb), .val (.int pb), .val (.int gc), .val (.int pc), .val (.int aa), .val (.int ab), .val (.int ac), .val (.ref b1), .unset, .unset, .unset, .unset, .unset, .unset, .unset, .unset, .unset, .unset] [])) (fun _ ks_ => XS.ifNo X7.here hx rfl (hb hby at_133) rfl ((if0 _ _).trans (feq c133_18).1) ks_) ?_
                      refine go (u' := T7.setTop (mkF m 138 #[.val (.int p0), .val (.int nn), .val (.int ga), .val (.int pa), .val (.int gb), .val (.int pb), .val (.int gc), .val (.int pc), .val (.int aa), .val (.int ab), .val (.int ac), .val (.ref b1), .unset, .unset, .unset, .unset, .unset, .unset, .unset, .unset, .unset, .unset] [(.ref b1)])) (fun _ ks_ => XS.aload X7.here hx rfl (hb hby at_136) rfl rfl ks_) ?_
                      refine go (u' := T7.setTop (mkF m 139 #[.val (.int p0), .val (.int nn), .val (.int ga), .val (.int pa), .val (.int gb), .val (.int pb), .val (.int gc), .val (.int pc), .val (.int aa), .val (.int ab), .val (.int ac), .val (.ref b1), .unset, .unset, .unset, .unset, .unset, .unset, .unset, .unset, .unset, .unset] [(.int ga), (.ref b1)])) (fun _ ks_ => XS.iloadN X7.here hx rfl (hb hby at_138) rfl  ks_) ?_
                      refine go (u' := T7.setTop (mkF m 140 #[.val (.int p0), .val (.int nn), .val (.int ga), .val (.int pa), .val (.int gb), .val (.int pb), .val (.int gc), .val (.int pc), .val (.int aa), .val (.int ab), .val (.int ac), .val (.ref b1), .unset, .unset, .unset, .unset, .unset, .unset, .unset, .unset, .unset, .unset] [(.int pa), (.int ga), (.ref b1)])) (fun _ ks_ => XS.iloadN X7.here hx rfl (hb hby at_139) rfl  ks_) ?_
                      obtain ⟨cq53, kq53, q53a, q53b, q53c⟩ := isOf hZ (rfl : T7.heap = _) Fa8
                      obtain ⟨_, _, ⟨T53, L53, k53, n53⟩, -, X53, ⟨Lc53, hQ53, l53, y53, z53⟩, st53⟩ := X7.virtualBack hx (y := (⟨"com/example/chartwright/chartwright/eval/ClassScore", "add", "(ZZ)V"⟩ : MethodName)) (z := (⟨"com/example/chartwright/chartwright/eval/ClassScore", "add", "(ZZ)V"⟩ : MethodName)) hown (mvT hZ (ww hw 50 rfl)) (mvT hZ (ww hw 51 rfl)) (notFace_of_selects (args := #[]) (mvT hZ (ww hw 53 rfl))) (mvT hZ (ww hw 53 rfl)) (mvT hZ (ww hw 52 rfl)) (by decide) (backOf (W := 0) (rm10 l Z a0 hw [] b1 ga pa (0 : Int64) (0 : Int64) (0 : Int64) (0 : Int64) (0 : Int64) T7.heap n0 Z7 g_b1 Fa8 Fa11 Fa10 Fa9 Fa13 Fa12) hZ (ww hw 54 rfl) (ww hw 2 rfl) (by decide) (by decide)) q53a q53c (g := (mkF m 140 #[.val (.int p0), .val (.int nn), .val (.int ga), .val (.int pa), .val (.int gb), .val (.int pb), .val (.int gc), .val (.int pc), .val (.int aa), .val (.int ab), .val (.int ac), .val (.ref b1), .unset, .unset, .unset, .unset, .unset, .unset, .unset, .unset, .unset, .unset] [(.int pa), (.int ga), (.ref b1)])) rfl (by rw [hml]; rfl) (Steps.refl _) (argsL := [(.int ga), (.int pa)]) (rest := []) (lenOf pd__40_ZZ_41_V rfl) rfl (by show 2 * 0 + _ ≤ _; exact Nat.le_of_eq rfl) (hb hby at_140) (fun _ _ => ⟨rfl, (rfl : T7.heap = _), (by decide : 1 + 0 ≤ _), (by decide : 5 + 0 ≤ _)⟩)
                      dsimp only [Pt.U, Pt.locs, Pt.cells, Pt.slots] at X53 l53 y53 z53 st53 hQ53
                      subst l53 y53 z53
                      obtain ⟨rfl, N53q, Kq53, Fa54, Fa55, Fa56, Fa57, Fa58, Fa59⟩ := hQ53
                      have N53 := Fr.app N7 N53q
                      have K53 : Keep h0 T53.heap [] := K7.trans Kq53 (allS (P := fun x => x ∈ [] ∨ h0.size ≤ x) (Or.inr sz_b1) all0)
                      have Z53 : n0 ≤ T53.heap.size := Nat.le_trans Z7 Kq53.1
                      have Fa60 : Exa Z T53.heap b1 "com/example/chartwright/chartwright/eval/ClassScore" := Fa8.keep Kq53
                      refine goT (u' := T53.setTop (mkF m 143 #[.val (.int p0), .val (.int nn), .val (.int ga), .val (.int pa), .val (.int gb), .val (.int pb), .val (.int gc), .val (.int pc), .val (.int aa), .val (.int ab), .val (.int ac), .val (.ref b1), .unset, .unset, .unset, .unset, .unset, .unset, .unset, .unset, .unset, .unset] [])) st53 ?_
                      exact C143_10 (((0 : Int64) + (1 : Int64))) ((ad_correct ga pa (0 : Int64))) ((ad_predictedOut pa (0 : Int64))) ((ad_goldOut ga (0 : Int64))) ((ad_correctOut ga pa (0 : Int64))) _ _ _ X53 (rfl : T53.heap = _) N53 Z53 K53 Fa54 Fa57 Fa56 Fa55 Fa59 Fa58 (by rw [own_X1 c133_18]; rfl) (by rw [own_X1 c133_18]; exact own_a1 _ _ _) (by rw [own_X1 c133_18]; exact own_a2 _ _) (by rw [own_X1 c133_18]; exact own_a3 _ _) (by rw [own_X1 c133_18]; exact own_a4 _ _ _)
                  by_cases c112_19 : nn < (3 : Int32)
                  ·
                    refine go (u' := s₁.setTop (mkF m 119 #[.val (.int p0), .val (.int nn), .val (.int ga), .val (.int pa), .val (.int gb), .val (.int pb), .val (.int gc), .val (.int pc), .val (.int aa), .val (.int ab), .unset, .unset, .unset, .unset, .unset, .unset, .unset, .unset, .unset, .unset, .unset, .unset] [])) (fun _ ks_ => XS.icmpYes X0.here hx rfl (pc0 := 112) (pc' := 119) rfl (hb hby at_112) rfl (tlt c112_19).1 (by decide) (by decide) ks_) ?_
                    refine go (u' := s₁.setTop (mkF m 120 #[.val (.int p0), .val (.int nn), .val (.int ga), .val (.int pa), .val (.int gb), .val (.int pb), .val (.int gc), .val (.int pc), .val (.int aa), .val (.int ab), .unset, .unset, .unset, .unset, .unset, .unset, .unset, .unset, .unset, .unset, .unset, .unset] [(.int (0 : Int32))])) (fun _ ks_ => XS.iconst X0.here hx rfl (hb hby at_119) ks_) ?_
                    exact J120_9 _ (B0 (fun q => q c112_19))
                  ·
                    refine go (u' := s₁.setTop (mkF m 115 #[.val (.int p0), .val (.int nn), .val (.int ga), .val (.int pa), .val (.int gb), .val (.int pb), .val (.int gc), .val (.int pc), .val (.int aa), .val (.int ab), .unset, .unset, .unset, .unset, .unset, .unset, .unset, .unset, .unset, .unset, .unset, .unset] [])) (fun _ ks_ => XS.icmpNo X0.here hx rfl (hb hby at_112) rfl (flt c112_19).1 ks_) ?_
                    refine go (u' := s₁.setTop (mkF m 116 #[.val (.int p0), .val (.int nn), .val (.int ga), .val (.int pa), .val (.int gb), .val (.int pb), .val (.int gc), .val (.int pc), .val (.int aa), .val (.int ab), .unset, .unset, .unset, .unset, .unset, .unset, .unset, .unset, .unset, .unset, .unset, .unset] [(.int (1 : Int32))])) (fun _ ks_ => XS.iconst X0.here hx rfl (hb hby at_115) ks_) ?_
                    refine go (u' := s₁.setTop (mkF m 120 #[.val (.int p0), .val (.int nn), .val (.int ga), .val (.int pa), .val (.int gb), .val (.int pb), .val (.int gc), .val (.int pc), .val (.int aa), .val (.int ab), .unset, .unset, .unset, .unset, .unset, .unset, .unset, .unset, .unset, .unset, .unset, .unset] [(.int (1 : Int32))])) (fun _ ks_ => XS.goto X0.here hx rfl (pc0 := 116) (pc' := 120) rfl (hb hby at_116) (by decide) (by decide) ks_) ?_
                    exact J120_9 _ (B1 c112_19)
                by_cases c100_20 : nn < (2 : Int32)
                ·
                  refine go (u' := s₁.setTop (mkF m 107 #[.val (.int p0), .val (.int nn), .val (.int ga), .val (.int pa), .val (.int gb), .val (.int pb), .val (.int gc), .val (.int pc), .val (.int aa), .unset, .unset, .unset, .unset, .unset, .unset, .unset, .unset, .unset, .unset, .unset, .unset, .unset] [])) (fun _ ks_ => XS.icmpYes X0.here hx rfl (pc0 := 100) (pc' := 107) rfl (hb hby at_100) rfl (tlt c100_20).1 (by decide) (by decide) ks_) ?_
                  refine go (u' := s₁.setTop (mkF m 108 #[.val (.int p0), .val (.int nn), .val (.int ga), .val (.int pa), .val (.int gb), .val (.int pb), .val (.int gc), .val (.int pc), .val (.int aa), .unset, .unset, .unset, .unset, .unset, .unset, .unset, .unset, .unset, .unset, .unset, .unset, .unset] [(.int (0 : Int32))])) (fun _ ks_ => XS.iconst X0.here hx rfl (hb hby at_107) ks_) ?_
                  exact J108_8 _ (B0 (fun q => q c100_20))
                ·
                  refine go (u' := s₁.setTop (mkF m 103 #[.val (.int p0), .val (.int nn), .val (.int ga), .val (.int pa), .val (.int gb), .val (.int pb), .val (.int gc), .val (.int pc), .val (.int aa), .unset, .unset, .unset, .unset, .unset, .unset, .unset, .unset, .unset, .unset, .unset, .unset, .unset] [])) (fun _ ks_ => XS.icmpNo X0.here hx rfl (hb hby at_100) rfl (flt c100_20).1 ks_) ?_
                  refine go (u' := s₁.setTop (mkF m 104 #[.val (.int p0), .val (.int nn), .val (.int ga), .val (.int pa), .val (.int gb), .val (.int pb), .val (.int gc), .val (.int pc), .val (.int aa), .unset, .unset, .unset, .unset, .unset, .unset, .unset, .unset, .unset, .unset, .unset, .unset, .unset] [(.int (1 : Int32))])) (fun _ ks_ => XS.iconst X0.here hx rfl (hb hby at_103) ks_) ?_
                  refine go (u' := s₁.setTop (mkF m 108 #[.val (.int p0), .val (.int nn), .val (.int ga), .val (.int pa), .val (.int gb), .val (.int pb), .val (.int gc), .val (.int pc), .val (.int aa), .unset, .unset, .unset, .unset, .unset, .unset, .unset, .unset, .unset, .unset, .unset, .unset, .unset] [(.int (1 : Int32))])) (fun _ ks_ => XS.goto X0.here hx rfl (pc0 := 104) (pc' := 108) rfl (hb hby at_104) (by decide) (by decide) ks_) ?_
                  exact J108_8 _ (B1 c100_20)
              by_cases c88_21 : nn < (1 : Int32)
              ·
                refine go (u' := s₁.setTop (mkF m 95 #[.val (.int p0), .val (.int nn), .val (.int ga), .val (.int pa), .val (.int gb), .val (.int pb), .val (.int gc), .val (.int pc), .unset, .unset, .unset, .unset, .unset, .unset, .unset, .unset, .unset, .unset, .unset, .unset, .unset, .unset] [])) (fun _ ks_ => XS.icmpYes X0.here hx rfl (pc0 := 88) (pc' := 95) rfl (hb hby at_88) rfl (tlt c88_21).1 (by decide) (by decide) ks_) ?_
                refine go (u' := s₁.setTop (mkF m 96 #[.val (.int p0), .val (.int nn), .val (.int ga), .val (.int pa), .val (.int gb), .val (.int pb), .val (.int gc), .val (.int pc), .unset, .unset, .unset, .unset, .unset, .unset, .unset, .unset, .unset, .unset, .unset, .unset, .unset, .unset] [(.int (0 : Int32))])) (fun _ ks_ => XS.iconst X0.here hx rfl (hb hby at_95) ks_) ?_
                exact J96_7 _ (B0 (fun q => q c88_21))
              ·
                refine go (u' := s₁.setTop (mkF m 91 #[.val (.int p0), .val (.int nn), .val (.int ga), .val (.int pa), .val (.int gb), .val (.int pb), .val (.int gc), .val (.int pc), .unset, .unset, .unset, .unset, .unset, .unset, .unset, .unset, .unset, .unset, .unset, .unset, .unset, .unset] [])) (fun _ ks_ => XS.icmpNo X0.here hx rfl (hb hby at_88) rfl (flt c88_21).1 ks_) ?_
                refine go (u' := s₁.setTop (mkF m 92 #[.val (.int p0), .val (.int nn), .val (.int ga), .val (.int pa), .val (.int gb), .val (.int pb), .val (.int gc), .val (.int pc), .unset, .unset, .unset, .unset, .unset, .unset, .unset, .unset, .unset, .unset, .unset, .unset, .unset, .unset] [(.int (1 : Int32))])) (fun _ ks_ => XS.iconst X0.here hx rfl (hb hby at_91) ks_) ?_
                refine go (u' := s₁.setTop (mkF m 96 #[.val (.int p0), .val (.int nn), .val (.int ga), .val (.int pa), .val (.int gb), .val (.int pb), .val (.int gc), .val (.int pc), .unset, .unset, .unset, .unset, .unset, .unset, .unset, .unset, .unset, .unset, .unset, .unset, .unset, .unset] [(.int (1 : Int32))])) (fun _ ks_ => XS.goto X0.here hx rfl (pc0 := 92) (pc' := 96) rfl (hb hby at_92) (by decide) (by decide) ks_) ?_
                exact J96_7 _ (B1 c88_21)
            by_cases c76_22 : (p0 &&& (32 : Int32)) = (0 : Int32)
            ·
              refine go (u' := s₁.setTop (mkF m 83 #[.val (.int p0), .val (.int nn), .val (.int ga), .val (.int pa), .val (.int gb), .val (.int pb), .val (.int gc), .unset, .unset, .unset, .unset, .unset, .unset, .unset, .unset, .unset, .unset, .unset, .unset, .unset, .unset, .unset] [])) (fun _ ks_ => XS.ifYes X0.here hx rfl (pc0 := 76) (pc' := 83) rfl (hb hby at_76) rfl ((if0 _ _).trans (teq c76_22).1) (by decide) (by decide) ks_) ?_
              refine go (u' := s₁.setTop (mkF m 84 #[.val (.int p0), .val (.int nn), .val (.int ga), .val (.int pa), .val (.int gb), .val (.int pb), .val (.int gc), .unset, .unset, .unset, .unset, .unset, .unset, .unset, .unset, .unset, .unset, .unset, .unset, .unset, .unset, .unset] [(.int (0 : Int32))])) (fun _ ks_ => XS.iconst X0.here hx rfl (hb hby at_83) ks_) ?_
              exact J84_6 _ (B0 (fun q => q c76_22))
            ·
              refine go (u' := s₁.setTop (mkF m 79 #[.val (.int p0), .val (.int nn), .val (.int ga), .val (.int pa), .val (.int gb), .val (.int pb), .val (.int gc), .unset, .unset, .unset, .unset, .unset, .unset, .unset, .unset, .unset, .unset, .unset, .unset, .unset, .unset, .unset] [])) (fun _ ks_ => XS.ifNo X0.here hx rfl (hb hby at_76) rfl ((if0 _ _).trans (feq c76_22).1) ks_) ?_
              refine go (u' := s₁.setTop (mkF m 80 #[.val (.int p0), .val (.int nn), .val (.int ga), .val (.int pa), .val (.int gb), .val (.int pb), .val (.int gc), .unset, .unset, .unset, .unset, .unset, .unset, .unset, .unset, .unset, .unset, .unset, .unset, .unset, .unset, .unset] [(.int (1 : Int32))])) (fun _ ks_ => XS.iconst X0.here hx rfl (hb hby at_79) ks_) ?_
              refine go (u' := s₁.setTop (mkF m 84 #[.val (.int p0), .val (.int nn), .val (.int ga), .val (.int pa), .val (.int gb), .val (.int pb), .val (.int gc), .unset, .unset, .unset, .unset, .unset, .unset, .unset, .unset, .unset, .unset, .unset, .unset, .unset, .unset, .unset] [(.int (1 : Int32))])) (fun _ ks_ => XS.goto X0.here hx rfl (pc0 := 80) (pc' := 84) rfl (hb hby at_80) (by decide) (by decide) ks_) ?_
              exact J84_6 _ (B1 c76_22)
          by_cases c62_23 : (p0 &&& (16 : Int32)) = (0 : Int32)
          ·
            refine go (u' := s₁.setTop (mkF m 69 #[.val (.int p0), .val (.int nn), .val (.int ga), .val (.int pa), .val (.int gb), .val (.int pb), .unset, .unset, .unset, .unset, .unset, .unset, .unset, .unset, .unset, .unset, .unset, .unset, .unset, .unset, .unset, .unset] [])) (fun _ ks_ => XS.ifYes X0.here hx rfl (pc0 := 62) (pc' := 69) rfl (hb hby at_62) rfl ((if0 _ _).trans (teq c62_23).1) (by decide) (by decide) ks_) ?_
            refine go (u' := s₁.setTop (mkF m 70 #[.val (.int p0), .val (.int nn), .val (.int ga), .val (.int pa), .val (.int gb), .val (.int pb), .unset, .unset, .unset, .unset, .unset, .unset, .unset, .unset, .unset, .unset, .unset, .unset, .unset, .unset, .unset, .unset] [(.int (0 : Int32))])) (fun _ ks_ => XS.iconst X0.here hx rfl (hb hby at_69) ks_) ?_
            exact J70_5 _ (B0 (fun q => q c62_23))
          ·
            refine go (u' := s₁.setTop (mkF m 65 #[.val (.int p0), .val (.int nn), .val (.int ga), .val (.int pa), .val (.int gb), .val (.int pb), .unset, .unset, .unset, .unset, .unset, .unset, .unset, .unset, .unset, .unset, .unset, .unset, .unset, .unset, .unset, .unset] [])) (fun _ ks_ => XS.ifNo X0.here hx rfl (hb hby at_62) rfl ((if0 _ _).trans (feq c62_23).1) ks_) ?_
            refine go (u' := s₁.setTop (mkF m 66 #[.val (.int p0), .val (.int nn), .val (.int ga), .val (.int pa), .val (.int gb), .val (.int pb), .unset, .unset, .unset, .unset, .unset, .unset, .unset, .unset, .unset, .unset, .unset, .unset, .unset, .unset, .unset, .unset] [(.int (1 : Int32))])) (fun _ ks_ => XS.iconst X0.here hx rfl (hb hby at_65) ks_) ?_
            refine go (u' := s₁.setTop (mkF m 70 #[.val (.int p0), .val (.int nn), .val (.int ga), .val (.int pa), .val (.int gb), .val (.int pb), .unset, .unset, .unset, .unset, .unset, .unset, .unset, .unset, .unset, .unset, .unset, .unset, .unset, .unset, .unset, .unset] [(.int (1 : Int32))])) (fun _ ks_ => XS.goto X0.here hx rfl (pc0 := 66) (pc' := 70) rfl (hb hby at_66) (by decide) (by decide) ks_) ?_
            exact J70_5 _ (B1 c62_23)
        by_cases c48_24 : (p0 &&& (8 : Int32)) = (0 : Int32)
        ·
          refine go (u' := s₁.setTop (mkF m 55 #[.val (.int p0), .val (.int nn), .val (.int ga), .val (.int pa), .val (.int gb), .unset, .unset, .unset, .unset, .unset, .unset, .unset, .unset, .unset, .unset, .unset, .unset, .unset, .unset, .unset, .unset, .unset] [])) (fun _ ks_ => XS.ifYes X0.here hx rfl (pc0 := 48) (pc' := 55) rfl (hb hby at_48) rfl ((if0 _ _).trans (teq c48_24).1) (by decide) (by decide) ks_) ?_
          refine go (u' := s₁.setTop (mkF m 56 #[.val (.int p0), .val (.int nn), .val (.int ga), .val (.int pa), .val (.int gb), .unset, .unset, .unset, .unset, .unset, .unset, .unset, .unset, .unset, .unset, .unset, .unset, .unset, .unset, .unset, .unset, .unset] [(.int (0 : Int32))])) (fun _ ks_ => XS.iconst X0.here hx rfl (hb hby at_55) ks_) ?_
          exact J56_4 _ (B0 (fun q => q c48_24))
        ·
          refine go (u' := s₁.setTop (mkF m 51 #[.val (.int p0), .val (.int nn), .val (.int ga), .val (.int pa), .val (.int gb), .unset, .unset, .unset, .unset, .unset, .unset, .unset, .unset, .unset, .unset, .unset, .unset, .unset, .unset, .unset, .unset, .unset] [])) (fun _ ks_ => XS.ifNo X0.here hx rfl (hb hby at_48) rfl ((if0 _ _).trans (feq c48_24).1) ks_) ?_
          refine go (u' := s₁.setTop (mkF m 52 #[.val (.int p0), .val (.int nn), .val (.int ga), .val (.int pa), .val (.int gb), .unset, .unset, .unset, .unset, .unset, .unset, .unset, .unset, .unset, .unset, .unset, .unset, .unset, .unset, .unset, .unset, .unset] [(.int (1 : Int32))])) (fun _ ks_ => XS.iconst X0.here hx rfl (hb hby at_51) ks_) ?_
          refine go (u' := s₁.setTop (mkF m 56 #[.val (.int p0), .val (.int nn), .val (.int ga), .val (.int pa), .val (.int gb), .unset, .unset, .unset, .unset, .unset, .unset, .unset, .unset, .unset, .unset, .unset, .unset, .unset, .unset, .unset, .unset, .unset] [(.int (1 : Int32))])) (fun _ ks_ => XS.goto X0.here hx rfl (pc0 := 52) (pc' := 56) rfl (hb hby at_52) (by decide) (by decide) ks_) ?_
          exact J56_4 _ (B1 c48_24)
      by_cases c34_25 : (p0 &&& (4 : Int32)) = (0 : Int32)
      ·
        refine go (u' := s₁.setTop (mkF m 41 #[.val (.int p0), .val (.int nn), .val (.int ga), .val (.int pa), .unset, .unset, .unset, .unset, .unset, .unset, .unset, .unset, .unset, .unset, .unset, .unset, .unset, .unset, .unset, .unset, .unset, .unset] [])) (fun _ ks_ => XS.ifYes X0.here hx rfl (pc0 := 34) (pc' := 41) rfl (hb hby at_34) rfl ((if0 _ _).trans (teq c34_25).1) (by decide) (by decide) ks_) ?_
        refine go (u' := s₁.setTop (mkF m 42 #[.val (.int p0), .val (.int nn), .val (.int ga), .val (.int pa), .unset, .unset, .unset, .unset, .unset, .unset, .unset, .unset, .unset, .unset, .unset, .unset, .unset, .unset, .unset, .unset, .unset, .unset] [(.int (0 : Int32))])) (fun _ ks_ => XS.iconst X0.here hx rfl (hb hby at_41) ks_) ?_
        exact J42_3 _ (B0 (fun q => q c34_25))
      ·
        refine go (u' := s₁.setTop (mkF m 37 #[.val (.int p0), .val (.int nn), .val (.int ga), .val (.int pa), .unset, .unset, .unset, .unset, .unset, .unset, .unset, .unset, .unset, .unset, .unset, .unset, .unset, .unset, .unset, .unset, .unset, .unset] [])) (fun _ ks_ => XS.ifNo X0.here hx rfl (hb hby at_34) rfl ((if0 _ _).trans (feq c34_25).1) ks_) ?_
        refine go (u' := s₁.setTop (mkF m 38 #[.val (.int p0), .val (.int nn), .val (.int ga), .val (.int pa), .unset, .unset, .unset, .unset, .unset, .unset, .unset, .unset, .unset, .unset, .unset, .unset, .unset, .unset, .unset, .unset, .unset, .unset] [(.int (1 : Int32))])) (fun _ ks_ => XS.iconst X0.here hx rfl (hb hby at_37) ks_) ?_
        refine go (u' := s₁.setTop (mkF m 42 #[.val (.int p0), .val (.int nn), .val (.int ga), .val (.int pa), .unset, .unset, .unset, .unset, .unset, .unset, .unset, .unset, .unset, .unset, .unset, .unset, .unset, .unset, .unset, .unset, .unset, .unset] [(.int (1 : Int32))])) (fun _ ks_ => XS.goto X0.here hx rfl (pc0 := 38) (pc' := 42) rfl (hb hby at_38) (by decide) (by decide) ks_) ?_
        exact J42_3 _ (B1 c34_25)
    by_cases c22_26 : (p0 &&& (2 : Int32)) = (0 : Int32)
    ·
      refine go (u' := s₁.setTop (mkF m 29 #[.val (.int p0), .val (.int nn), .val (.int ga), .unset, .unset, .unset, .unset, .unset, .unset, .unset, .unset, .unset, .unset, .unset, .unset, .unset, .unset, .unset, .unset, .unset, .unset, .unset] [])) (fun _ ks_ => XS.ifYes X0.here hx rfl (pc0 := 22) (pc' := 29) rfl (hb hby at_22) rfl ((if0 _ _).trans (teq c22_26).1) (by decide) (by decide) ks_) ?_
      refine go (u' := s₁.setTop (mkF m 30 #[.val (.int p0), .val (.int nn), .val (.int ga), .unset, .unset, .unset, .unset, .unset, .unset, .unset, .unset, .unset, .unset, .unset, .unset, .unset, .unset, .unset, .unset, .unset, .unset, .unset] [(.int (0 : Int32))])) (fun _ ks_ => XS.iconst X0.here hx rfl (hb hby at_29) ks_) ?_
      exact J30_2 _ (B0 (fun q => q c22_26))
    ·
      refine go (u' := s₁.setTop (mkF m 25 #[.val (.int p0), .val (.int nn), .val (.int ga), .unset, .unset, .unset, .unset, .unset, .unset, .unset, .unset, .unset, .unset, .unset, .unset, .unset, .unset, .unset, .unset, .unset, .unset, .unset] [])) (fun _ ks_ => XS.ifNo X0.here hx rfl (hb hby at_22) rfl ((if0 _ _).trans (feq c22_26).1) ks_) ?_
      refine go (u' := s₁.setTop (mkF m 26 #[.val (.int p0), .val (.int nn), .val (.int ga), .unset, .unset, .unset, .unset, .unset, .unset, .unset, .unset, .unset, .unset, .unset, .unset, .unset, .unset, .unset, .unset, .unset, .unset, .unset] [(.int (1 : Int32))])) (fun _ ks_ => XS.iconst X0.here hx rfl (hb hby at_25) ks_) ?_
      refine go (u' := s₁.setTop (mkF m 30 #[.val (.int p0), .val (.int nn), .val (.int ga), .unset, .unset, .unset, .unset, .unset, .unset, .unset, .unset, .unset, .unset, .unset, .unset, .unset, .unset, .unset, .unset, .unset, .unset, .unset] [(.int (1 : Int32))])) (fun _ ks_ => XS.goto X0.here hx rfl (pc0 := 26) (pc' := 30) rfl (hb hby at_26) (by decide) (by decide) ks_) ?_
      exact J30_2 _ (B1 c22_26)
  by_cases c10_27 : (p0 &&& (1 : Int32)) = (0 : Int32)
  ·
    refine go (u' := s₁.setTop (mkF m 17 #[.val (.int p0), .val (.int nn), .unset, .unset, .unset, .unset, .unset, .unset, .unset, .unset, .unset, .unset, .unset, .unset, .unset, .unset, .unset, .unset, .unset, .unset, .unset, .unset] [])) (fun _ ks_ => XS.ifYes X0.here hx rfl (pc0 := 10) (pc' := 17) rfl (hb hby at_10) rfl ((if0 _ _).trans (teq c10_27).1) (by decide) (by decide) ks_) ?_
    refine go (u' := s₁.setTop (mkF m 18 #[.val (.int p0), .val (.int nn), .unset, .unset, .unset, .unset, .unset, .unset, .unset, .unset, .unset, .unset, .unset, .unset, .unset, .unset, .unset, .unset, .unset, .unset, .unset, .unset] [(.int (0 : Int32))])) (fun _ ks_ => XS.iconst X0.here hx rfl (hb hby at_17) ks_) ?_
    exact J18_1 _ (B0 (fun q => q c10_27))
  ·
    refine go (u' := s₁.setTop (mkF m 13 #[.val (.int p0), .val (.int nn), .unset, .unset, .unset, .unset, .unset, .unset, .unset, .unset, .unset, .unset, .unset, .unset, .unset, .unset, .unset, .unset, .unset, .unset, .unset, .unset] [])) (fun _ ks_ => XS.ifNo X0.here hx rfl (hb hby at_10) rfl ((if0 _ _).trans (feq c10_27).1) ks_) ?_
    refine go (u' := s₁.setTop (mkF m 14 #[.val (.int p0), .val (.int nn), .unset, .unset, .unset, .unset, .unset, .unset, .unset, .unset, .unset, .unset, .unset, .unset, .unset, .unset, .unset, .unset, .unset, .unset, .unset, .unset] [(.int (1 : Int32))])) (fun _ ks_ => XS.iconst X0.here hx rfl (hb hby at_13) ks_) ?_
    refine go (u' := s₁.setTop (mkF m 18 #[.val (.int p0), .val (.int nn), .unset, .unset, .unset, .unset, .unset, .unset, .unset, .unset, .unset, .unset, .unset, .unset, .unset, .unset, .unset, .unset, .unset, .unset, .unset, .unset] [(.int (1 : Int32))])) (fun _ ks_ => XS.goto X0.here hx rfl (pc0 := 14) (pc' := 18) rfl (hb hby at_14) (by decide) (by decide) ks_) ?_
    exact J18_1 _ (B1 c10_27)
set_option maxRecDepth 65536 in
set_option maxHeartbeats 40000000 in
theorem comes_1 {Post : Tables → Env → Array Value → State → Outcome → State → Prop} (hpost : ∀ tb e args s v u, (limb_1_1.after args s (.returned v) u = true ∧ limb_1_2.after args s (.returned v) u = true ∧ True) → FrameEnd s (.returned v) u (Jvm.fieldLocs frame_1_writes args s ++ Jvm.arrayLocs frame_1_arrays args s ++ Jvm.staticLocs frame_1_statics s) 16 128 → Post tb e args s (.returned v) u) :
    ArmFor flags0 classFile x code maxLocals ret World_1 tables_1 room_1 Calls_1 rest_1 Pre_1 Post := by
  intro l hfl _ _ p e ha hc hk s m args below hf hA hF happ hP
  obtain ⟨hcalls, hrest, hpre⟩ := hP
  obtain ⟨-, -, -, hnamed, -, -, -, hat⟩ := (Spec.applies_iff hf).mp happ
  obtain ⟨hg, hn⟩ := and_e (Cond.before_iff.mp (show (Jvm.Cond.and given_1 narrow_1).before args s = true from hpre))
  obtain ⟨hcount, r0⟩ := and_e hg
  obtain ⟨w0, rfl⟩ : ∃ w0 : Value, args = #[w0] := by
    have hs : args.size = 1 := by simpa [Cond.value, given_1] using hcount
    obtain ⟨L⟩ := args
    match L, hs with
    | [w0], _ => exact ⟨w0, rfl⟩
  have hw := fun d (hd : d ∈ tables_1) => atoms_spec (ws := Jvm.Cond.code x code maxLocals ret :: tables_1) hat d (List.mem_cons_of_mem _ hd)
  have hfit : Fit s := fun {y c} hc i hi => by
    obtain ⟨ha, rfl⟩ := Array.getElem?_eq_some_iff.mp hc
    have q := List.all_eq_true.mp ((Array.all_eq_true_iff_forall_mem.mp hF) _ (Array.getElem_mem ha)) i (List.mem_range.mpr hi)
    simpa [Array.getElem?_eq_getElem hi] using q
  obtain ⟨x0, e0⟩ := is_v r0
  obtain rfl : w0 = (.int x0) := Option.some.inj e0
  obtain ⟨n, o, h1, h2, h3, _, L, rfl, ⟨rfl, N⟩, hq⟩ := rm0 l s _ hw tables_1 x0 s.heap s.heap.size (Nat.le_refl _)  p e ha hc hk s m _ below hf ((Spec.applies_iff_loose hf).mp happ).1 ⟨rfl, State.Warmed39.refl s, rfl⟩ trivial
  refine ⟨n, _, h1, h2, h3, hpost _ _ _ _ _ _ ⟨Cond.after_iff.mpr rfl, Cond.after_iff.mpr (eq_i res_at (Term.int_eval (1)) rfl), trivial⟩ ⟨hq.1, hq.2.1, (hq.2.2.sift fun y hy => Or.inr (N y hy)).mono (by decide) (by decide)⟩⟩
theorem main_1_1 : Claimed_1_1 := comes_1 fun _ _ _ _ _ _ h hF => ⟨h.1, hF⟩
theorem main_1_2 : Claimed_1_2 := comes_1 fun _ _ _ _ _ _ h hF => ⟨h.2.1, hF⟩
end Jvm.Pilot.@@N@@
namespace Jvm.Pilot.@@N@@
open Jvm Jvm.ClassFile Sem Op Lib Jvm.Free Jvm.Stand Jvm.Pilot.@@N@@.Jvm.D
/-! MADE BY PROGRAM (witnessworld.py) out of the Statement's table words and the real class files: 10 classes; the members and pool entries that the words name. The judged class is class 1, her method 1. -/
namespace start1
open Jvm.ClassFile
def u (s : String) : CpInfo := .utf8 (stringToUtf16 s)
/-- a pool by its gaps: so many unusable entries, then the entry; so many at the end -/
def gap : Nat → List CpInfo → List CpInfo
  | 0, r => r
  | n + 1, r => .unusable :: gap n r
def poolList (es : List (Nat × CpInfo)) (last : Nat) : List CpInfo := es.foldr (fun e r => gap e.1 (e.2 :: r)) (gap last [])
def pool (es : List (Nat × CpInfo)) (last : Nat) : Array CpInfo := ⟨poolList es last⟩
def fileOf (pool : Array CpInfo) (this : Nat) (attrs : Array Attribute := #[]) (ms : Array MethodInfo := #[]) (fl : Nat := 33) (sup : Nat := 0) (ifs : Array Nat := #[]) (fds : Array FieldInfo := #[]) : ClassFile where
  minorVersion := 0
  majorVersion := 65
  constantPool := pool
  accessFlags := fl
  thisClass := this
  superClass := sup
  interfaces := ifs
  fields := fds
  methods := ms
  attributes := attrs
def plain (name : String) (sup : Option ClassId) : Class where
  name := name
  kind := .ordinary
  loader := none
  accessFlags := 33
  super := sup
  interfaces := #[]
  cf := none
  fields := #[]
  methods := #[]
  instanceTypes := #[]
  staticTypes := #[]
  resolved := #[]
  callSites := []
  init := .initialized
  statics := none
  mirror := none

def pool0 : Array CpInfo := pool [(5, u "<init>"), (0, u "()V"), (1, .class_ 10), (1, u "java/lang/Object")] 113

def k0c0 : Code := { maxStack := 0, maxLocals := 1, code := object_method_1_code, exceptionTable := #[], attributes := #[] }
def k0m0 : Method := { name := "<init>", desc := "()V", sig := { parameters := [], returnType := none }, accessFlags := 1, code := some k0c0 }
/-- java/lang/Object -/
def k0 : Class := { plain "java/lang/Object" none with
  accessFlags := 33
  interfaces := #[]
  cf := some (fileOf pool0 8 #[] #[{ accessFlags := 1, nameIndex := 5, descriptorIndex := 6, attributes := #[] }] 33 0 #[] #[])
  fields := #[]
  methods := #[k0m0]
  instanceTypes := #[]
  staticTypes := #[]
  resolved := Array.replicate 124 none
  statics := none }

def pool1 : Array CpInfo := pool [(2, .class_ 4), (0, .nameAndType 5 6), (0, u "java/lang/Object"), (0, u "<init>"), (0, u "()V"), (0, .class_ 8), (0, u "com/example/chartwright/chartwright/eval/ClassScore"), (0, .methodref 7 3), (0, .methodref 7 11), (0, .nameAndType 12 13), (0, u "add"), (0, u "(ZZ)V"), (0, .methodref 15 16), (0, .class_ 17), (0, .nameAndType 18 19), (0, u "com/example/chartwright/chartwright/eval/ClassScoreAddPinLaw"), (0, u "on"), (0, u "(ZZ)J"), (0, .methodref 7 21), (0, .nameAndType 22 23), (0, u "predictedOut"), (0, u "()J"), (0, .methodref 7 25), (0, .nameAndType 26 27), (0, u "accuracy"), (0, u "()D"), (0, .methodref 15 29), (0, .nameAndType 30 31), (0, u "pct"), (0, u "(JJ)D"), (0, .methodref 7 33), (0, .nameAndType 34 27), (0, u "precision"), (0, .methodref 7 36), (0, .nameAndType 37 27), (0, u "recall"), (0, .double 4636737291354636288), (3, u "law"), (0, u "(I)Z")] 3

def k1m0 : Method := { name := "<init>", desc := "()V", sig := { parameters := [], returnType := none }, accessFlags := 1, code := none }
def k1c1 : Code := { maxStack := 6, maxLocals := 22, code := code, exceptionTable := #[], attributes := #[] }
def k1m1 : Method := { name := "law", desc := "(I)Z", sig := { parameters := [.int], returnType := some .boolean }, accessFlags := 9, code := some k1c1 }
def k1c2 : Code := { maxStack := 2, maxLocals := 2, code := method_3_code, exceptionTable := #[], attributes := #[] }
def k1m2 : Method := { name := "on", desc := "(ZZ)J", sig := { parameters := [.boolean, .boolean], returnType := some .long }, accessFlags := 10, code := some k1c2 }
def k1c3 : Code := { maxStack := 4, maxLocals := 4, code := method_4_code, exceptionTable := #[], attributes := #[] }
def k1m3 : Method := { name := "pct", desc := "(JJ)D", sig := { parameters := [.long, .long], returnType := some .double }, accessFlags := 10, code := some k1c3 }
/-- com/example/chartwright/chartwright/eval/ClassScoreAddPinLaw -/
def k1 : Class := { plain "com/example/chartwright/chartwright/eval/ClassScoreAddPinLaw" (some 0) with
  accessFlags := 49
  interfaces := #[]
  cf := some (fileOf pool1 15 #[] #[{ accessFlags := 1, nameIndex := 5, descriptorIndex := 6, attributes := #[] }, { accessFlags := 9, nameIndex := 42, descriptorIndex := 43, attributes := #[] }, { accessFlags := 10, nameIndex := 18, descriptorIndex := 19, attributes := #[] }, { accessFlags := 10, nameIndex := 30, descriptorIndex := 31, attributes := #[] }] 49 2 #[] #[])
  fields := #[]
  methods := #[k1m0, k1m1, k1m2, k1m3]
  instanceTypes := #[]
  staticTypes := #[]
  resolved := Array.replicate 47 none
  statics := none }

def pool2 : Array CpInfo := pool [(1, .methodref 2 3), (0, .class_ 4), (0, .nameAndType 5 6), (0, u "java/lang/Object"), (0, u "<init>"), (0, u "()V"), (0, .fieldref 8 9), (0, .class_ 10), (0, .nameAndType 11 12), (0, u "com/example/chartwright/chartwright/eval/ClassScore"), (0, u "words"), (0, u "J"), (0, .fieldref 8 14), (0, .nameAndType 15 12), (0, u "correct"), (0, .fieldref 8 17), (0, .nameAndType 18 12), (0, u "predictedOut"), (0, .fieldref 8 20), (0, .nameAndType 21 12), (0, u "goldOut"), (0, .fieldref 8 23), (0, .nameAndType 24 12), (0, u "correctOut"), (0, .methodref 26 27), (0, .class_ 28), (0, .nameAndType 29 30), (0, u "com/example/chartwright/chartwright/eval/Totals"), (0, u "percent"), (0, u "(JJ)D"), (2, u "add"), (0, u "(ZZ)V"), (1, u "()J"), (0, u "accuracy"), (0, u "()D"), (0, u "precision"), (0, u "recall")] 2

def k2c0 : Code := { maxStack := 1, maxLocals := 1, code := prog_17_method_1_code, exceptionTable := #[], attributes := #[] }
def k2m0 : Method := { name := "<init>", desc := "()V", sig := { parameters := [], returnType := none }, accessFlags := 1, code := some k2c0 }
def k2c1 : Code := { maxStack := 5, maxLocals := 3, code := prog_17_method_2_code, exceptionTable := #[], attributes := #[] }
def k2m1 : Method := { name := "add", desc := "(ZZ)V", sig := { parameters := [.boolean, .boolean], returnType := none }, accessFlags := 1, code := some k2c1 }
def k2c2 : Code := { maxStack := 2, maxLocals := 1, code := prog_17_method_3_code, exceptionTable := #[], attributes := #[] }
def k2m2 : Method := { name := "predictedOut", desc := "()J", sig := { parameters := [], returnType := some .long }, accessFlags := 1, code := some k2c2 }
def k2c3 : Code := { maxStack := 4, maxLocals := 1, code := prog_17_method_4_code, exceptionTable := #[], attributes := #[] }
def k2m3 : Method := { name := "accuracy", desc := "()D", sig := { parameters := [], returnType := some .double }, accessFlags := 1, code := some k2c3 }
def k2c4 : Code := { maxStack := 4, maxLocals := 1, code := prog_17_method_5_code, exceptionTable := #[], attributes := #[] }
def k2m4 : Method := { name := "precision", desc := "()D", sig := { parameters := [], returnType := some .double }, accessFlags := 1, code := some k2c4 }
def k2c5 : Code := { maxStack := 4, maxLocals := 1, code := prog_17_method_6_code, exceptionTable := #[], attributes := #[] }
def k2m5 : Method := { name := "recall", desc := "()D", sig := { parameters := [], returnType := some .double }, accessFlags := 1, code := some k2c5 }
/-- com/example/chartwright/chartwright/eval/ClassScore -/
def k2 : Class := { plain "com/example/chartwright/chartwright/eval/ClassScore" (some 0) with
  accessFlags := 49
  interfaces := #[]
  cf := some (fileOf pool2 8 #[] #[{ accessFlags := 1, nameIndex := 5, descriptorIndex := 6, attributes := #[] }, { accessFlags := 1, nameIndex := 33, descriptorIndex := 34, attributes := #[] }, { accessFlags := 1, nameIndex := 18, descriptorIndex := 36, attributes := #[] }, { accessFlags := 1, nameIndex := 37, descriptorIndex := 38, attributes := #[] }, { accessFlags := 1, nameIndex := 39, descriptorIndex := 38, attributes := #[] }, { accessFlags := 1, nameIndex := 40, descriptorIndex := 38, attributes := #[] }] 49 2 #[] #[{ accessFlags := 2, nameIndex := 11, descriptorIndex := 12, attributes := #[] }, { accessFlags := 2, nameIndex := 15, descriptorIndex := 12, attributes := #[] }, { accessFlags := 2, nameIndex := 18, descriptorIndex := 12, attributes := #[] }, { accessFlags := 2, nameIndex := 21, descriptorIndex := 12, attributes := #[] }, { accessFlags := 2, nameIndex := 24, descriptorIndex := 12, attributes := #[] }])
  fields := #[{ name := "words", type := .long, accessFlags := 2, slot := 0, constantValue := 0 }, { name := "correct", type := .long, accessFlags := 2, slot := 1, constantValue := 0 }, { name := "predictedOut", type := .long, accessFlags := 2, slot := 2, constantValue := 0 }, { name := "goldOut", type := .long, accessFlags := 2, slot := 3, constantValue := 0 }, { name := "correctOut", type := .long, accessFlags := 2, slot := 4, constantValue := 0 }]
  methods := #[k2m0, k2m1, k2m2, k2m3, k2m4, k2m5]
  instanceTypes := #[.long, .long, .long, .long, .long]
  staticTypes := #[]
  resolved := Array.replicate 43 none
  statics := none }

def pool3 : Array CpInfo := pool [(2, .class_ 4), (1, u "java/lang/Object"), (0, u "<init>"), (0, u "()V"), (1, .class_ 10), (1, u "com/example/chartwright/chartwright/eval/Totals"), (0, u "sentences"), (0, u "I"), (2, u "gold"), (0, u "J"), (7, u "candidate"), (4, u "matched"), (4, u "exact"), (5, u "words"), (4, u "correctTags"), (4, u "errorSentences"), (2, u "percent"), (0, u "(JJ)D"), (2, .double 4636737291354636288)] 16

def k3m0 : Method := { name := "<init>", desc := "()V", sig := { parameters := [], returnType := none }, accessFlags := 1, code := none }
def k3c1 : Code := { maxStack := 4, maxLocals := 4, code := prog_22_method_15_code, exceptionTable := #[], attributes := #[] }
def k3m1 : Method := { name := "percent", desc := "(JJ)D", sig := { parameters := [.long, .long], returnType := some .double }, accessFlags := 8, code := some k3c1 }
/-- com/example/chartwright/chartwright/eval/Totals -/
def k3 : Class := { plain "com/example/chartwright/chartwright/eval/Totals" (some 0) with
  accessFlags := 49
  interfaces := #[]
  cf := some (fileOf pool3 8 #[] #[{ accessFlags := 1, nameIndex := 5, descriptorIndex := 6, attributes := #[] }, { accessFlags := 8, nameIndex := 53, descriptorIndex := 54, attributes := #[] }] 49 2 #[] #[{ accessFlags := 2, nameIndex := 11, descriptorIndex := 12, attributes := #[] }, { accessFlags := 2, nameIndex := 50, descriptorIndex := 12, attributes := #[] }, { accessFlags := 2, nameIndex := 15, descriptorIndex := 16, attributes := #[] }, { accessFlags := 2, nameIndex := 24, descriptorIndex := 16, attributes := #[] }, { accessFlags := 2, nameIndex := 29, descriptorIndex := 16, attributes := #[] }, { accessFlags := 2, nameIndex := 34, descriptorIndex := 12, attributes := #[] }, { accessFlags := 2, nameIndex := 40, descriptorIndex := 16, attributes := #[] }, { accessFlags := 2, nameIndex := 45, descriptorIndex := 16, attributes := #[] }])
  fields := #[{ name := "sentences", type := .int, accessFlags := 2, slot := 0, constantValue := 0 }, { name := "errorSentences", type := .int, accessFlags := 2, slot := 1, constantValue := 0 }, { name := "gold", type := .long, accessFlags := 2, slot := 2, constantValue := 0 }, { name := "candidate", type := .long, accessFlags := 2, slot := 3, constantValue := 0 }, { name := "matched", type := .long, accessFlags := 2, slot := 4, constantValue := 0 }, { name := "exact", type := .int, accessFlags := 2, slot := 5, constantValue := 0 }, { name := "words", type := .long, accessFlags := 2, slot := 6, constantValue := 0 }, { name := "correctTags", type := .long, accessFlags := 2, slot := 7, constantValue := 0 }]
  methods := #[k3m0, k3m1]
  instanceTypes := #[.int, .int, .long, .long, .long, .int, .long, .long]
  staticTypes := #[]
  resolved := Array.replicate 74 none
  statics := none }

def pool4 : Array CpInfo := pool [(1, u "java/lang/Cloneable"), (0, .class_ 1), (0, u "java/lang/Object"), (0, .class_ 3)] 3

/-- java/lang/Cloneable -/
def k4 : Class := { plain "java/lang/Cloneable" (some 0) with
  accessFlags := 1537
  interfaces := #[]
  cf := some (fileOf pool4 2 #[] #[] 1537 4 #[] #[])
  fields := #[]
  methods := #[]
  instanceTypes := #[]
  staticTypes := #[]
  resolved := Array.replicate 8 none
  statics := none }

def pool5 : Array CpInfo := pool [(1, u "java/io/Serializable"), (0, .class_ 1), (0, u "java/lang/Object"), (0, .class_ 3)] 3

/-- java/io/Serializable -/
def k5 : Class := { plain "java/io/Serializable" (some 0) with
  accessFlags := 1537
  interfaces := #[]
  cf := some (fileOf pool5 2 #[] #[] 1537 4 #[] #[])
  fields := #[]
  methods := #[]
  instanceTypes := #[]
  staticTypes := #[]
  resolved := Array.replicate 8 none
  statics := none }

/-- the primitive byte -/
def k6 : Class := { plain "byte" none with kind := .primitive 'B', accessFlags := 0x411 }
/-- [B -/
def k7 : Class := { plain "[B" (some 0) with kind := .array 6 .byte, interfaces := #[4, 5], accessFlags := 1041 }

/-- the primitive int -/
def k8 : Class := { plain "int" none with kind := .primitive 'I', accessFlags := 0x411 }
/-- [I -/
def k9 : Class := { plain "[I" (some 0) with kind := .array 8 .int, interfaces := #[4, 5], accessFlags := 1041 }

def heap : Heap := #[]
def classes : Array Class := #[k0, k1, k2, k3, k4, k5, k6, k7, k8, k9]
def interned : List (Array UInt16 × Addr) := []
def slotsUsed : Nat := 0
def theMethod : MethodId := ⟨1, 1⟩
def args0 : Array Value := #[.int 77]
def aboutOver (below : List Frame) : State where
  vm := { classes := classes, interned := interned.toArray }
  heap := heap
  slotsUsed := slotsUsed
  threads := #[{ frames := .invoking theMethod args0 :: below }]
def below0 : List Frame := [.native { method := ⟨0, 0⟩, args := #[] }]
def about1 : State := aboutOver below0
def p0 : Program := .bare "" "" ""
def e0 : Env := launch0.env 0 0 0
theorem w_frames : about1.frames = Frame.invoking theMethod args0 :: below0 := rfl
set_option maxRecDepth 65536 in
theorem w_args : argsFit about1.vm theMethod args0 = true := by decide +kernel
set_option maxRecDepth 65536 in
theorem w_heap : heapFits about1 = true := by decide +kernel
set_option maxRecDepth 65536 in
theorem w_runnable : about1.curStatus? = some .runnable := by decide +kernel
set_option maxRecDepth 65536 in
theorem w_alone : about1.alone = true := by decide +kernel
set_option maxRecDepth 65536 in
theorem w_named : about1.methodNamed? x = some theMethod := by decide +kernel
set_option maxRecDepth 65536 in
theorem w_hears : about1.hears theMethod below0 = true := by decide +kernel
set_option maxRecDepth 65536 in
theorem w_ripe : about1.ripe theMethod args0 below0 = true := by decide +kernel
theorem w_running : about1.status = .running := rfl
set_option maxRecDepth 65536 in
theorem w_room : about1.hasRoom e0.platform room_1 = true :=
  launch0.hasRoom_least _ room_1 (by decide +kernel) (by decide +kernel) (by decide +kernel) (by decide +kernel) (by decide +kernel) (by decide +kernel)
theorem allAtoms_all (ts : List Jvm.Cond) (a : Array Jvm.Value) (st : Jvm.State) : (allAtoms ts).before a st = ts.all (fun c => c.before a st) := by
  induction ts with
  | nil => rfl
  | cons c t ih =>
    show (Jvm.Cond.and c (allAtoms t)).before a st = _
    rw [Jvm.Cond.before_and, ih, List.all_cons]
def words1 : List Jvm.Cond := Jvm.Cond.code x code maxLocals ret :: tables_1
/-- a 'code' word, met by the world's own term for the bytes: nothing is compared byte by byte -/
theorem code_word {y : MethodName} {bytes : ByteArray} {mx : Nat} {rt : Option FieldType} {a : Array Value} {s : State} {m : MethodId} {meth : Method} {c : Code} (h1 : s.methodNamed? y = some m) (h2 : s.vm.method? m = some meth) (h3 : meth.code = some c) (h4 : c.code = bytes)
    (h5 : (c.maxLocals == mx && c.exceptionTable.isEmpty && decide (c.maxStack ≤ mostOperands) && decide (meth.sig.returnType = rt) && !meth.locks && decide (parseMethodDescriptor y.desc = some meth.sig)) = true) : (Jvm.Cond.code y bytes mx rt).before a s = true := by
  simp only [Bool.and_eq_true, beq_iff_eq, Bool.not_eq_true', decide_eq_true_eq] at h5
  obtain ⟨⟨⟨⟨⟨g1, g2⟩, g3⟩, g4⟩, g5⟩, g6⟩ := h5
  simp [Cond.before, Cond.holds, Cond.value, h1, h2, h3, h4, g1, g2, g3, g4, g5, g6]
def isCode : Jvm.Cond → Bool
  | .code _ _ _ _ => true
  | _ => false
theorem all_split {L : List Jvm.Cond} {P : Jvm.Cond → Bool} (h1 : L.all (fun c => isCode c || P c) = true) (h2 : ∀ c ∈ L.filter isCode, P c = true) : L.all P = true := by
  refine List.all_eq_true.mpr fun c hc => ?_
  have h := List.all_eq_true.mp h1 c hc
  rcases Bool.eq_false_or_eq_true (isCode c) with hi | hi
  · exact h2 c (List.mem_filter.mpr ⟨hc, hi⟩)
  · simpa [hi] using h
set_option maxRecDepth 65536 in
theorem w_c0 : (Jvm.Cond.code x code maxLocals ret).before args0 about1 = true := code_word (m := ⟨1, 1⟩) (meth := k1m1) (c := k1c1) (by decide +kernel) rfl rfl rfl (by decide +kernel)
set_option maxRecDepth 65536 in
theorem w_c1 : (Jvm.Cond.code ({ cls := "com/example/chartwright/chartwright/eval/ClassScore", name := "<init>", desc := "()V" } : Jvm.MethodName) prog_17_method_1_code (1 : Nat) (Option.none : Option Jvm.ClassFile.FieldType)).before args0 about1 = true := code_word (m := ⟨2, 0⟩) (meth := k2m0) (c := k2c0) (by decide +kernel) rfl rfl rfl (by decide +kernel)
set_option maxRecDepth 65536 in
theorem w_c2 : (Jvm.Cond.code ({ cls := "java/lang/Object", name := "<init>", desc := "()V" } : Jvm.MethodName) object_method_1_code (1 : Nat) (Option.none : Option Jvm.ClassFile.FieldType)).before args0 about1 = true := code_word (m := ⟨0, 0⟩) (meth := k0m0) (c := k0c0) (by decide +kernel) rfl rfl rfl (by decide +kernel)
set_option maxRecDepth 65536 in
theorem w_c3 : (Jvm.Cond.code ({ cls := "com/example/chartwright/chartwright/eval/ClassScoreAddPinLaw", name := "on", desc := "(ZZ)J" } : Jvm.MethodName) method_3_code (2 : Nat) (Option.some Jvm.ClassFile.FieldType.long)).before args0 about1 = true := code_word (m := ⟨1, 2⟩) (meth := k1m2) (c := k1c2) (by decide +kernel) rfl rfl rfl (by decide +kernel)
set_option maxRecDepth 65536 in
theorem w_c4 : (Jvm.Cond.code ({ cls := "com/example/chartwright/chartwright/eval/ClassScore", name := "predictedOut", desc := "()J" } : Jvm.MethodName) prog_17_method_3_code (1 : Nat) (Option.some Jvm.ClassFile.FieldType.long)).before args0 about1 = true := code_word (m := ⟨2, 2⟩) (meth := k2m2) (c := k2c2) (by decide +kernel) rfl rfl rfl (by decide +kernel)
set_option maxRecDepth 65536 in
theorem w_c5 : (Jvm.Cond.code ({ cls := "com/example/chartwright/chartwright/eval/ClassScore", name := "accuracy", desc := "()D" } : Jvm.MethodName) prog_17_method_4_code (1 : Nat) (Option.some Jvm.ClassFile.FieldType.double)).before args0 about1 = true := code_word (m := ⟨2, 3⟩) (meth := k2m3) (c := k2c3) (by decide +kernel) rfl rfl rfl (by decide +kernel)
set_option maxRecDepth 65536 in
theorem w_c6 : (Jvm.Cond.code ({ cls := "com/example/chartwright/chartwright/eval/Totals", name := "percent", desc := "(JJ)D" } : Jvm.MethodName) prog_22_method_15_code (4 : Nat) (Option.some Jvm.ClassFile.FieldType.double)).before args0 about1 = true := code_word (m := ⟨3, 1⟩) (meth := k3m1) (c := k3c1) (by decide +kernel) rfl rfl rfl (by decide +kernel)
set_option maxRecDepth 65536 in
theorem w_c7 : (Jvm.Cond.code ({ cls := "com/example/chartwright/chartwright/eval/ClassScoreAddPinLaw", name := "pct", desc := "(JJ)D" } : Jvm.MethodName) method_4_code (4 : Nat) (Option.some Jvm.ClassFile.FieldType.double)).before args0 about1 = true := code_word (m := ⟨1, 3⟩) (meth := k1m3) (c := k1c3) (by decide +kernel) rfl rfl rfl (by decide +kernel)
set_option maxRecDepth 65536 in
theorem w_c8 : (Jvm.Cond.code ({ cls := "com/example/chartwright/chartwright/eval/ClassScore", name := "precision", desc := "()D" } : Jvm.MethodName) prog_17_method_5_code (1 : Nat) (Option.some Jvm.ClassFile.FieldType.double)).before args0 about1 = true := code_word (m := ⟨2, 4⟩) (meth := k2m4) (c := k2c4) (by decide +kernel) rfl rfl rfl (by decide +kernel)
set_option maxRecDepth 65536 in
theorem w_c9 : (Jvm.Cond.code ({ cls := "com/example/chartwright/chartwright/eval/ClassScore", name := "recall", desc := "()D" } : Jvm.MethodName) prog_17_method_6_code (1 : Nat) (Option.some Jvm.ClassFile.FieldType.double)).before args0 about1 = true := code_word (m := ⟨2, 5⟩) (meth := k2m5) (c := k2c5) (by decide +kernel) rfl rfl rfl (by decide +kernel)
set_option maxRecDepth 65536 in
theorem w_c10 : (Jvm.Cond.code ({ cls := "com/example/chartwright/chartwright/eval/ClassScore", name := "add", desc := "(ZZ)V" } : Jvm.MethodName) prog_17_method_2_code (3 : Nat) (Option.none : Option Jvm.ClassFile.FieldType)).before args0 about1 = true := code_word (m := ⟨2, 1⟩) (meth := k2m1) (c := k2c1) (by decide +kernel) rfl rfl rfl (by decide +kernel)
def codes1 : List Jvm.Cond := [Jvm.Cond.code x code maxLocals ret, Jvm.Cond.code ({ cls := "com/example/chartwright/chartwright/eval/ClassScore", name := "<init>", desc := "()V" } : Jvm.MethodName) prog_17_method_1_code (1 : Nat) (Option.none : Option Jvm.ClassFile.FieldType), Jvm.Cond.code ({ cls := "java/lang/Object", name := "<init>", desc := "()V" } : Jvm.MethodName) object_method_1_code (1 : Nat) (Option.none : Option Jvm.ClassFile.FieldType), Jvm.Cond.code ({ cls := "com/example/chartwright/chartwright/eval/ClassScoreAddPinLaw", name := "on", desc := "(ZZ)J" } : Jvm.MethodName) method_3_code (2 : Nat) (Option.some Jvm.ClassFile.FieldType.long), Jvm.Cond.code ({ cls := "com/example/chartwright/chartwright/eval/ClassScore", name := "predictedOut", desc := "()J" } : Jvm.MethodName) prog_17_method_3_code (1 : Nat) (Option.some Jvm.ClassFile.FieldType.long), Jvm.Cond.code ({ cls := "com/example/chartwright/chartwright/eval/ClassScore", name := "accuracy", desc := "()D" } : Jvm.MethodName) prog_17_method_4_code (1 : Nat) (Option.some Jvm.ClassFile.FieldType.double), Jvm.Cond.code ({ cls := "com/example/chartwright/chartwright/eval/Totals", name := "percent", desc := "(JJ)D" } : Jvm.MethodName) prog_22_method_15_code (4 : Nat) (Option.some Jvm.ClassFile.FieldType.double), Jvm.Cond.code ({ cls := "com/example/chartwright/chartwright/eval/ClassScoreAddPinLaw", name := "pct", desc := "(JJ)D" } : Jvm.MethodName) method_4_code (4 : Nat) (Option.some Jvm.ClassFile.FieldType.double), Jvm.Cond.code ({ cls := "com/example/chartwright/chartwright/eval/ClassScore", name := "precision", desc := "()D" } : Jvm.MethodName) prog_17_method_5_code (1 : Nat) (Option.some Jvm.ClassFile.FieldType.double), Jvm.Cond.code ({ cls := "com/example/chartwright/chartwright/eval/ClassScore", name := "recall", desc := "()D" } : Jvm.MethodName) prog_17_method_6_code (1 : Nat) (Option.some Jvm.ClassFile.FieldType.double), Jvm.Cond.code ({ cls := "com/example/chartwright/chartwright/eval/ClassScore", name := "add", desc := "(ZZ)V" } : Jvm.MethodName) prog_17_method_2_code (3 : Nat) (Option.none : Option Jvm.ClassFile.FieldType)]
set_option maxRecDepth 65536 in
theorem codes_eq : words1.filter isCode = codes1 := rfl
theorem w_codes : ∀ c ∈ words1.filter isCode, c.before args0 about1 = true := by
  rw [codes_eq]
  intro c hc
  simp only [codes1, List.mem_cons, List.not_mem_nil, or_false] at hc
  rcases hc with rfl | rfl | rfl | rfl | rfl | rfl | rfl | rfl | rfl | rfl | rfl
  · exact w_c0
  · exact w_c1
  · exact w_c2
  · exact w_c3
  · exact w_c4
  · exact w_c5
  · exact w_c6
  · exact w_c7
  · exact w_c8
  · exact w_c9
  · exact w_c10
set_option maxRecDepth 65536 in
theorem w_t1 : (words1.take 24).all (fun c => isCode c || c.before args0 about1) = true := by decide +kernel
set_option maxRecDepth 65536 in
theorem w_t2 : ((words1.drop 24).take 24).all (fun c => isCode c || c.before args0 about1) = true := by decide +kernel
set_option maxRecDepth 65536 in
theorem w_t3 : ((words1.drop 24).drop 24).all (fun c => isCode c || c.before args0 about1) = true := by decide +kernel
theorem w_tables : (allAtoms (Jvm.Cond.code x code maxLocals ret :: tables_1)).before args0 about1 = true := by
  rw [allAtoms_all]
  show words1.all (fun c => c.before args0 about1) = true
  refine all_split ?_ w_codes
  rw [← List.take_append_drop 24 words1, List.all_append, w_t1, ← List.take_append_drop 24 (words1.drop 24), List.all_append, w_t2, w_t3]
  rfl
set_option maxRecDepth 65536 in
theorem w_case : (Jvm.Cond.and given_1 narrow_1).before args0 about1 = true := by decide +kernel
theorem w_applies : (headSpec (Jvm.Cond.code x code maxLocals ret :: tables_1) room_1).applies x e0.platform about1 = true :=
  (Spec.applies_iff w_frames).mpr ⟨w_running, w_runnable, w_alone, w_named, w_hears, w_ripe, w_room, w_tables⟩
theorem atStart : AtStart classFile x code maxLocals ret World_1 tables_1 room_1 Calls_1 rest_1 Pre_1 launch0 p0 e0 about1 theMethod args0 below0 :=
  ⟨lists_1, trivial, launch0.admits_env _ _ _, launch0.least_env, fairChoices_fair.cas, fairChoices_fair.clock, w_frames, w_args, w_heap, w_applies, trivial, trivial, w_case⟩
end start1
theorem witness_1 : WitnessClaimed_1 := ⟨start1.p0, start1.e0, start1.about1, start1.theMethod, start1.args0, start1.below0, start1.atStart⟩
end Jvm.Pilot.@@N@@
