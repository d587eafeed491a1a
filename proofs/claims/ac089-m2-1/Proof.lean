import JvmDerived
import JvmDerived.Pilot.@@N@@Statement
import JvmDerived.Pilot.@@N@@Code
set_option linter.unusedVariables false
set_option linter.unusedSimpArgs false
namespace Jvm.Pilot.@@N@@
open Jvm Jvm.ClassFile Sem Op Lib Jvm.Free Jvm.Stand Jvm.LawKit Jvm.RoadKit Bundle Jvm.Pilot.@@N@@.Jvm.D
section OwnKit
variable {p : Program} {l : Launch} {e : Env} {R : Room} {s : State} {m : MethodId} {args : Array Value} {below : List Frame} {meth : Method} {c : Code} {T : State} {locs : List Loc} {cells slots : Nat}
/-- from the state u the run comes to an end of the invocation at which G holds -/
def Go (tb : Tables) (e : Env) (below : List Frame) (G : Outcome → State → Prop) (u : State) : Prop := ∃ s₂ o, Steps tb e below u s₂ ∧ s₂.status = .running ∧ Ended s₂ below o ∧ G o s₂
def End (Q : Option Value → Heap → List Loc → Prop) (s : State) (C S : Nat) (o : Outcome) (u : State) : Prop := ∃ v L, o = .returned v ∧ Q v u.heap L ∧ FrameEnd s o u L C S
theorem go {tb : Tables} {G : Outcome → State → Prop} {u u' : State} (st : ∀ t, Steps tb e below u' t → Steps tb e below u t) (k : Go tb e below G u') : Go tb e below G u := by
  obtain ⟨s₂, o, h1, h2⟩ := k
  exact ⟨s₂, o, st _ h1, h2⟩
theorem goT {tb : Tables} {G : Outcome → State → Prop} {u u' : State} (st : Steps tb e below u u') (k : Go tb e below G u') : Go tb e below G u := go (fun _ h => st.trans h) k
theorem own_fin (X : Stand p l e R s m args below meth c T locs cells slots) (hlk : meth.locks = false) {v : Option Value} (hv : meth.sig.returnType = none → v = none) {Q : Option Value → Heap → List Loc → Prop} {C S : Nat} (hq : Q v T.heap locs) (hc : cells ≤ C) (hs : slots ≤ S) {u : State}
    (st : ∀ fs, (∀ (f : JFrame) (acts : List Action), f.method = m → f.locked = none → f.entered = [] → (doReturn e (T.setTop f) acts v).1 = T.setFrames fs) → Steps p.tables e below u (T.setFrames fs)) : Go p.tables e below (End Q s C S) u := by
  obtain ⟨fs, hr, hrun, hended, hW, hsame⟩ := X.leave (v := v) hv hlk
  exact ⟨_, _, st fs hr, hrun, hended, _, _, rfl, hq, ⟨_, rfl⟩, hW, hsame.mono hc hs⟩
theorem own_retI (X : Stand p l e R s m args below meth c T locs cells slots) (hx : p.tables.exec = Jvm.exec) {pc : Nat} {Ls : Array Slot} {z : Int32} {rest : List Value} (hret : meth.sig.returnType = some .int) (hd : decode c.code pc = .ok (.ireturn, 1)) {fs : List Frame}
    (hl : ∀ (f : JFrame) (acts : List Action), f.method = m → f.locked = none → f.entered = [] → (doReturn e (T.setTop f) acts (some (.int z))).1 = T.setFrames fs) : Steps p.tables e below (T.setTop (mkF m pc Ls (.int z :: rest))) (T.setFrames fs) := by
  have hm' : T.vm.method? m = some meth := X.method'
  have hn : narrow .int (.int z) = .int z := rfl
  show Steps p.tables e below (T.setTop { method := m, pc := pc, locals := Ls, stack := _ :: rest, locked := none }) _
  jvm_step X.here [X.here.top, hx, hd, hm', hret, hn]
  first | (intro acts; rw [hl _ acts rfl rfl rfl]) | rw [hl _ _ rfl rfl rfl]
  exact Steps.refl _
theorem own_retA (X : Stand p l e R s m args below meth c T locs cells slots) (hx : p.tables.exec = Jvm.exec) {pc : Nat} {Ls : Array Slot} {z : Value} {t : FieldType} {rest : List Value} (hret : meth.sig.returnType = some t) (ht : t.isReference = true) (hz : z.isRef = true) (hd : decode c.code pc = .ok (.areturn, 1)) {fs : List Frame}
    (hl : ∀ (f : JFrame) (acts : List Action), f.method = m → f.locked = none → f.entered = [] → (doReturn e (T.setTop f) acts (some z)).1 = T.setFrames fs) : Steps p.tables e below (T.setTop (mkF m pc Ls (z :: rest))) (T.setFrames fs) := by
  have hm' : T.vm.method? m = some meth := X.method'
  show Steps p.tables e below (T.setTop { method := m, pc := pc, locals := Ls, stack := _ :: rest, locked := none }) _
  jvm_step X.here [X.here.top, hx, hd, hm', hret, ht, hz]
  first | (intro acts; rw [hl _ acts rfl rfl rfl]) | rw [hl _ _ rfl rfl rfl]
  exact Steps.refl _
theorem gI (X : Stand p l e R s m args below meth c T locs cells slots) (hx : p.tables.exec = Jvm.exec) (hlk : meth.locks = false) {pc : Nat} {Ls : Array Slot} {z : Int32} {rest : List Value} (hret : meth.sig.returnType = some .int) (hd : decode c.code pc = .ok (.ireturn, 1)) {Q : Option Value → Heap → List Loc → Prop} {C S : Nat} (hq : Q (some (.int z)) T.heap locs) (hc : cells ≤ C) (hs : slots ≤ S) :
    Go p.tables e below (End Q s C S) (T.setTop (mkF m pc Ls (.int z :: rest))) := own_fin X hlk (fun h => by rw [hret] at h; cases h) hq hc hs fun fs hr => own_retI X hx hret hd hr
theorem gN (X : Stand p l e R s m args below meth c T locs cells slots) (hx : p.tables.exec = Jvm.exec) (hlk : meth.locks = false) {pc : Nat} {Ls : Array Slot} {z : Int32} {t : FieldType} {rest : List Value} (hret : meth.sig.returnType = some t) (ht : t = .boolean ∨ t = .byte ∨ t = .char ∨ t = .short) (hn : nar t z = z) (hd : decode c.code pc = .ok (.ireturn, 1)) {Q : Option Value → Heap → List Loc → Prop} {C S : Nat} (hq : Q (some (.int z)) T.heap locs) (hc : cells ≤ C) (hs : slots ≤ S) :
    Go p.tables e below (End Q s C S) (T.setTop (mkF m pc Ls (.int z :: rest))) := own_fin X hlk (fun h => by rw [hret] at h; cases h) hq hc hs fun fs hr => retN X hx hret ht hd (by rw [hn]; exact hr)
theorem gJ (X : Stand p l e R s m args below meth c T locs cells slots) (hx : p.tables.exec = Jvm.exec) (hlk : meth.locks = false) {pc : Nat} {Ls : Array Slot} {z : Int64} (hret : meth.sig.returnType = some .long) (hd : decode c.code pc = .ok (.lreturn, 1)) {Q : Option Value → Heap → List Loc → Prop} {C S : Nat} (hq : Q (some (.long z)) T.heap locs) (hc : cells ≤ C) (hs : slots ≤ S) :
    Go p.tables e below (End Q s C S) (T.setTop (mkF m pc Ls [.long z])) := own_fin X hlk (fun h => by rw [hret] at h; cases h) hq hc hs fun fs hr => X.lreturnOut hx hret hd hr
theorem g0 (X : Stand p l e R s m args below meth c T locs cells slots) (hx : p.tables.exec = Jvm.exec) (hlk : meth.locks = false) {pc : Nat} {Ls : Array Slot} (hret : meth.sig.returnType = none) (hd : decode c.code pc = .ok (.return_, 1)) {Q : Option Value → Heap → List Loc → Prop} {C S : Nat} (hq : Q none T.heap locs) (hc : cells ≤ C) (hs : slots ≤ S) :
    Go p.tables e below (End Q s C S) (T.setTop (mkF m pc Ls [])) := own_fin X hlk (fun _ => rfl) hq hc hs fun fs hr => X.returnOut hx hret hd hr
theorem gA (X : Stand p l e R s m args below meth c T locs cells slots) (hx : p.tables.exec = Jvm.exec) (hlk : meth.locks = false) {pc : Nat} {Ls : Array Slot} {z : Value} {t : FieldType} {rest : List Value} (hret : meth.sig.returnType = some t) (ht : t.isReference = true) (hz : z.isRef = true) (hd : decode c.code pc = .ok (.areturn, 1)) {Q : Option Value → Heap → List Loc → Prop} {C S : Nat} (hq : Q (some z) T.heap locs) (hc : cells ≤ C) (hs : slots ≤ S) :
    Go p.tables e below (End Q s C S) (T.setTop (mkF m pc Ls (z :: rest))) := own_fin X hlk (fun h => by rw [hret] at h; cases h) hq hc hs fun fs hr => own_retA X hx hret ht hz hd hr
end OwnKit
/-- a body's contract out of its walk -/
theorem body {l : Launch} {y : MethodName} {bytes : ByteArray} {maxL : Nat} {ret : Option FieldType} {ws : List Jvm.Cond} {rm : Room} {as' : Array Value} {Z : State} {h0 : Heap} {Q : Option Value → Heap → List Loc → Prop} (pn : plainFor y = true)
    (k : ∀ (p : Program) (e : Env) (s : State) (m : MethodId) (below : List Frame) (meth : Method) (c : Code) (s₁ : State), p.tables.exec = Jvm.exec → c.code = bytes → c.maxLocals = maxL → s.vm.findClass y.cls = some m.cls → meth.name = y.name → meth.sig.returnType = ret → meth.locks = false → Z.Warmed39 s.vm → s₁.heap = h0 →
      Stand p l e rm s m as' below meth c s₁ [] 0 0 → Go p.tables e below (End Q s rm.cells rm.slots) (s₁.setTop (entryFrame m as' maxL))) :
    MetFree l y (head1 (Jvm.Cond.code y bytes maxL ret :: ws) rm) (fun a U => a = as' ∧ Z.Warmed39 U.vm ∧ U.heap = h0) (fun _ _ _ _ _ => True) (fun _ U o U' => ∃ v L, o = .returned v ∧ Q v U'.heap L ∧ FrameEnd U o U' L rm.cells rm.slots) := by
  refine MetFree.of_bodySF pn hisR ?_
  intro p e s m args below meth c s₁ Bd hml hP _
  obtain ⟨rfl, hZ, hh⟩ := hP
  obtain ⟨s₂, o, h1, h2, h3, h4⟩ := k p e s m below meth c s₁ Bd.exec Bd.bytes hml (findClass_of_methodNamed Bd.named) (name_of_methodNamed Bd.named Bd.method).1 Bd.returns Bd.notSynchronized hZ (by rw [← hh, Bd.state]; rfl) (Stand.of_body Bd)
  exact ⟨s₂, o, h1, h2, h3, h4⟩
/-- a boolean as an int -/
def B (P : Prop) [Decidable P] : Int32 := if P then 1 else 0
theorem Bt {P : Prop} [Decidable P] (h : P) : B P = 1 := if_pos h
theorem Bf {P : Prop} [Decidable P] (h : ¬ P) : B P = 0 := if_neg h
theorem B1 {P : Prop} [Decidable P] (h : P) : (1 : Int32) = B P := (if_pos h).symm
theorem B0 {P : Prop} [Decidable P] (h : ¬ P) : (0 : Int32) = B P := (if_neg h).symm
theorem B_iff {P Q : Prop} [Decidable P] [Decidable Q] (h : P ↔ Q) : B P = B Q := by simp only [B, h]
theorem B_nar {P : Prop} [Decidable P] : nar .boolean (B P) = B P := by by_cases h : P <;> simp only [B, h, if_true, if_false] <;> rfl
theorem bT {P : Prop} [Decidable P] (h : P) : ifCond.holds .ne (B P) = true ∧ ifCond.holds .eq (B P) = false := by rw [Bt h]; exact ⟨rfl, rfl⟩
theorem bF {P : Prop} [Decidable P] (h : ¬ P) : ifCond.holds .ne (B P) = false ∧ ifCond.holds .eq (B P) = true := by rw [Bf h]; exact ⟨rfl, rfl⟩
theorem lT {x y : Int64} (h : x < y) : ifCond.holds .lt (lcmpW x y) = true ∧ ifCond.holds .ge (lcmpW x y) = false ∧ ifCond.holds .gt (lcmpW y x) = true ∧ ifCond.holds .le (lcmpW y x) = false := by
  have h1 := tlt ((lw_lt x y).mpr h)
  have h2 := tlt ((lw_gt y x).mpr h)
  simp only [if0]; exact ⟨h1.1, h1.2.1, h2.2.2.1, h2.2.2.2⟩
theorem lF {x y : Int64} (h : ¬ x < y) : ifCond.holds .lt (lcmpW x y) = false ∧ ifCond.holds .ge (lcmpW x y) = true ∧ ifCond.holds .gt (lcmpW y x) = false ∧ ifCond.holds .le (lcmpW y x) = true := by
  have h1 := flt (fun q => h ((lw_lt x y).mp q))
  have h2 := flt (fun q => h ((lw_gt y x).mp q))
  simp only [if0]; exact ⟨h1.1, h1.2.1, h2.2.2.1, h2.2.2.2⟩
theorem lTe {x y : Int64} (h : x = y) : ifCond.holds .eq (lcmpW x y) = true ∧ ifCond.holds .ne (lcmpW x y) = false := by
  simp only [if0]; exact teq ((lw_eq x y).mpr h)
theorem lFe {x y : Int64} (h : ¬ x = y) : ifCond.holds .eq (lcmpW x y) = false ∧ ifCond.holds .ne (lcmpW x y) = true := by
  simp only [if0]; exact feq (fun q => h ((lw_eq x y).mp q))
theorem bTv {P : Prop} [Decidable P] {v : Int32} (hv : v = B P) (h : P) : ifCond.holds .ne v = true ∧ ifCond.holds .eq v = false := hv ▸ bT h
theorem bFv {P : Prop} [Decidable P] {v : Int32} (hv : v = B P) (h : ¬ P) : ifCond.holds .ne v = false ∧ ifCond.holds .eq v = true := hv ▸ bF h
theorem B_narv {P : Prop} [Decidable P] {v : Int32} (hv : v = B P) : nar .boolean v = v := hv ▸ B_nar
theorem own_fitb {v : Int32} (h : nar .boolean v = v) : fits .boolean (.int v) = true := h ▸ fits_nar_bool v
theorem ww {a0 : Array Value} {Z : State} (hw : ∀ d ∈ tables_1, d.before a0 Z = true) (i : Nat) {d : Jvm.Cond} (h : tables_1[i]? = some d) : d.before a0 Z = true := hw d (List.mem_of_getElem? h)
/-! arrays of ints (of any int-like kind) by a function of the place -/
def upd {α : Type} (f : Nat → α) (i : Nat) (v : α) : Nat → α := fun k => if k = i then v else f k
def own_l (l : List Int32) : Nat → Int32 := fun k => l.getD k 0
theorem own_upd_l (l : List Int32) (i : Nat) (x : Int32) (hi : i < l.length) : upd (own_l l) i x = own_l (l.set i x) := by
  funext k
  simp only [upd, own_l, List.getD_eq_getElem?_getD, List.getElem?_set]
  by_cases h : i = k
  · subst h; simp [hi]
  · simp [h, Ne.symm h]
def PI (Z : State) (h : Heap) (a : Addr) (ty : FieldType) (n : Nat) (g : Nat → Int32) : Prop := ∃ c : Cell, Arr Z h a c ty ∧ c.slots.size = n ∧ n < 2 ^ 31 ∧ ∀ i, i < n → c.slots[i]? = some (.int (g i))
section OwnArr
variable {Z : State} {h h' : Heap} {a b : Addr} {ty : FieldType} {n sl : Nat} {g : Nat → Int32} {v : Value} {ws : List Addr}
theorem PI.lt (F : PI Z h a ty n g) : a < h.size := by obtain ⟨c, A, -⟩ := F; exact A.lt
theorem PI.ext (F : PI Z h a ty n g) (E : Ext h h') : PI Z h' a ty n g := by obtain ⟨c, A, r⟩ := F; exact ⟨c, A.ext E, r⟩
theorem PI.other (F : PI Z h b ty n g) (W : Wr h h' a sl v) (q : b ≠ a) : PI Z h' b ty n g := by obtain ⟨c, A, r⟩ := F; exact ⟨c, A.other W q, r⟩
theorem PI.keep (F : PI Z h a ty n g) (K : Keep h h' ws) (q : a ∉ ws) : PI Z h' a ty n g := by obtain ⟨c, A, r⟩ := F; exact ⟨c, ⟨K.2.1 a c A.1 q, A.2⟩, r⟩
theorem PI.congr {g' : Nat → Int32} (F : PI Z h a ty n g) (q : ∀ i, i < n → g i = g' i) : PI Z h a ty n g' := by
  obtain ⟨c, A, r1, r2, r3⟩ := F
  exact ⟨c, A, r1, r2, fun i hi => by rw [← q i hi]; exact r3 i hi⟩
theorem PI.bound (F : PI Z h a ty n g) : n < 2 ^ 31 := by obtain ⟨c, -, -, q, -⟩ := F; exact q
theorem PI.new {k : ClassId} {z : Int32} (A : Arr Z h a (newA k ty z) ty) (q : ¬ z < 0) (hd : defaultValue ty = .int 0) : PI Z h a ty z.toNatClampNeg (fun _ => 0) :=
  ⟨_, A, sz_new _ _ _, (back32 q).2, fun i hi => by simp [newA, hd, hi]⟩
theorem PI.newL {k : ClassId} {z : Int32} {m : Nat} (A : Arr Z h a (newA k ty z) ty) (q : ¬ z < 0) (hd : defaultValue ty = .int 0) (hz : z.toNatClampNeg = m) : PI Z h a ty m (own_l (List.replicate m 0)) := by
  subst hz
  refine (PI.new A q hd).congr fun i hi => ?_
  simp [own_l, hi]
theorem PI.set {x j : Int32} (F : PI Z h a ty n g) (hn : j.toNatClampNeg < n) (W : Wr h h' a j.toNatClampNeg (.int x)) : PI Z h' a ty n (upd g j.toNatClampNeg x) := by
  obtain ⟨c, A, r1, r2, r3⟩ := F
  refine ⟨_, A.same W, by rw [sz_set]; exact r1, r2, fun i hi => ?_⟩
  by_cases q : i = j.toNatClampNeg
  · subst q; simp [upd, Cell.setSlot, r1, hn]
  · simp only [upd, if_neg q]
    rw [← r3 i hi]
    simp [Cell.setSlot, Array.getElem?_setIfInBounds, Ne.symm q]
theorem PI.setL {l l' : List Int32} {x j : Int32} {i : Nat} (F : PI Z h a ty n (own_l l)) (hn : j.toNatClampNeg < n) (W : Wr h h' a j.toNatClampNeg (.int x)) (hj : j.toNatClampNeg = i) (hi : i < l.length) (hl : l.set i x = l') : PI Z h' a ty n (own_l l') := by
  subst hl hj
  rw [← own_upd_l l _ x hi]
  exact F.set hn W
theorem own_inb {c : Cell} {j : Int32} (hs : c.slots.size = n) (hj : ¬ j < 0) (hn : j.toNatClampNeg < n) : ¬ (j < 0 ∨ c.slots.size ≤ j.toNatClampNeg) := fun q => q.elim hj fun r => by omega
end OwnArr
section OwnArr2
variable {p : Program} {l : Launch} {e : Env} {R : Room} {s : State} {m : MethodId} {args : Array Value} {below : List Frame} {meth : Method} {c : Code} {T : State} {locs : List Loc} {cells slots : Nat} {Z : State} {h : Heap} {a : Addr} {n : Nat} {g : Nat → Int32}
theorem own_iaload (X : Stand p l e R s m args below meth c T locs cells slots) (hx : p.tables.exec = Jvm.exec) (hZ : Z.Warmed39 s.vm) (eT : T.heap = h) (F : PI Z h a .int n g) {j v : Int32} (hj : ¬ j < 0) (hn : j.toNatClampNeg < n) (hv : g j.toNatClampNeg = v) {f : JFrame} (hg : f.method = m) {rest : List Value} (hs : f.stack = .int j :: .ref a :: rest) (hd : decode c.code f.pc = .ok (.iaload, 1)) (t : State)
    (k : Steps p.tables e below (T.setTop { f with pc := f.pc + 1, stack := .int v :: rest }) t) : Steps p.tables e below (T.setTop f) t := by
  obtain ⟨cl, A, r1, r2, r3⟩ := F
  exact X.iaload hx (j := j) (v := .int v) (by rw [eT]; exact A.1) (State.isArrayOf_alike hZ.alike A.2.1) A.2.2 (own_inb r1 hj hn) (by rw [r3 _ hn, hv]) hg hs hd t k
theorem own_baloadZ (X : Stand p l e R s m args below meth c T locs cells slots) (hx : p.tables.exec = Jvm.exec) (hZ : Z.Warmed39 s.vm) (eT : T.heap = h) (F : PI Z h a .boolean n g) {j v : Int32} (hj : ¬ j < 0) (hn : j.toNatClampNeg < n) (hv : g j.toNatClampNeg = v) {f : JFrame} (hg : f.method = m) {rest : List Value} (hs : f.stack = .int j :: .ref a :: rest) (hd : decode c.code f.pc = .ok (.baload, 1)) (t : State)
    (k : Steps p.tables e below (T.setTop { f with pc := f.pc + 1, stack := .int v :: rest }) t) : Steps p.tables e below (T.setTop f) t := by
  obtain ⟨cl, A, r1, r2, r3⟩ := F
  exact X.baloadBooleans hx (j := j) (v := .int v) (by rw [eT]; exact A.1) (State.isArrayOf_alike hZ.alike A.2.1) A.2.2 (own_inb r1 hj hn) (by rw [r3 _ hn, hv]) hg hs hd t k
theorem own_alen {ty : FieldType} (X : Stand p l e R s m args below meth c T locs cells slots) (hx : p.tables.exec = Jvm.exec) (hZ : Z.Warmed39 s.vm) (eT : T.heap = h) (F : PI Z h a ty n g) {z : Int32} (hz : n.toInt32 = z) {f : JFrame} (hg : f.method = m) {rest : List Value} (hs : f.stack = .ref a :: rest) (hd : decode c.code f.pc = .ok (.arraylength, 1)) (t : State)
    (k : Steps p.tables e below (T.setTop { f with pc := f.pc + 1, stack := .int z :: rest }) t) : Steps p.tables e below (T.setTop f) t := by
  obtain ⟨cl, A, r1, r2, r3⟩ := F
  exact X.arraylength hx (by rw [eT]; exact A.1) (State.isArrayOf_alike hZ.alike A.2.1) hg hs hd t (by rw [r1, hz]; exact k)
theorem own_iastore (X : Stand p l e R s m args below meth c T locs cells slots) (hx : p.tables.exec = Jvm.exec) (hZ : Z.Warmed39 s.vm) (eT : T.heap = h) (F : PI Z h a .int n g) {j x : Int32} (hj : ¬ j < 0) (hn : j.toNatClampNeg < n) {f : JFrame} (hg : f.method = m) {rest : List Value} (hs : f.stack = .int x :: .int j :: .ref a :: rest) (hd : decode c.code f.pc = .ok (.iastore, 1)) :
    ∃ T' h', Stand p l e R s m args below meth c T' (locs ++ [⟨a, j.toNatClampNeg⟩]) cells slots ∧ T'.heap = h' ∧ Wr h h' a j.toNatClampNeg (.int x) ∧ ∀ target, Steps p.tables e below (T'.setTop { f with pc := f.pc + 1, stack := rest }) target → Steps p.tables e below (T.setTop f) target := by
  obtain ⟨cl, A, r1, r2, r3⟩ := F
  exact stI X hx hZ eT A (own_inb r1 hj hn) hg hs hd
theorem own_bastoreZ (X : Stand p l e R s m args below meth c T locs cells slots) (hx : p.tables.exec = Jvm.exec) (hZ : Z.Warmed39 s.vm) (eT : T.heap = h) (F : PI Z h a .boolean n g) {j x : Int32} (hnx : nar .boolean x = x) (hj : ¬ j < 0) (hn : j.toNatClampNeg < n) {f : JFrame} (hg : f.method = m) {rest : List Value} (hs : f.stack = .int x :: .int j :: .ref a :: rest) (hd : decode c.code f.pc = .ok (.bastore, 1)) :
    ∃ T' h', Stand p l e R s m args below meth c T' (locs ++ [⟨a, j.toNatClampNeg⟩]) cells slots ∧ T'.heap = h' ∧ Wr h h' a j.toNatClampNeg (.int x) ∧ ∀ target, Steps p.tables e below (T'.setTop { f with pc := f.pc + 1, stack := rest }) target → Steps p.tables e below (T.setTop f) target := by
  obtain ⟨cl, A, r1, r2, r3⟩ := F
  obtain ⟨T', h', q1, q2, q3, q4⟩ := stZ X hx hZ eT A (x := x) (own_inb r1 hj hn) hg hs hd
  rw [hnx] at q3
  exact ⟨T', h', q1, q2, q3, q4⟩
end OwnArr2
theorem own_Fto {Z : State} {h : Heap} {a : Addr} {C n d : String} {v w : Value} (F : Fld Z h a C n d v) (q : v = w) : Fld Z h a C n d w := q ▸ F
theorem own_Lto {Z : State} {h : Heap} {a : Addr} {ty : FieldType} {n : Nat} {l l' : List Int32} (F : PI Z h a ty n (own_l l)) (q : l = l') : PI Z h a ty n (own_l l') := q ▸ F
theorem own_Gto {Z : State} {h : Heap} {a : Addr} {ty : FieldType} {n : Nat} {g g' : Nat → Int32} (F : PI Z h a ty n g) (q : g = g') : PI Z h a ty n g' := q ▸ F
theorem own_nn {j : Int32} (h : 0 ≤ j.toInt) : ¬ j < 0 := by rw [Int32.lt_iff_toInt_lt]; have : (0 : Int32).toInt = 0 := rfl; omega
theorem own_cl {j : Int32} (h : 0 ≤ j.toInt) : (j.toNatClampNeg : Int) = j.toInt := (nat_of (own_nn h)).symm
theorem own_lt {j : Int32} {N : Nat} (h : 0 ≤ j.toInt) (h2 : j.toInt < N) : j.toNatClampNeg < N := by have := own_cl h; omega
theorem own_t32 {N : Nat} (h : N < 2 ^ 31) : N.toInt32.toInt = N := by
  show (Int32.ofNat N).toInt = N
  exact Int32.toInt_ofNat_of_lt (by omega)
theorem own_iv {k r : Nat} {i : Int32} {N : Nat} (hk : k < 2 ^ 31) (hi : 0 ≤ i.toInt ∧ i.toInt + (r + 1 : Nat) = k) : ¬ i < 0 ∧ i.toNatClampNeg < k ∧ i < k.toInt32 ∧ (0 ≤ (i + 1).toInt ∧ (i + 1).toInt + r = k) ∧ i.toNatClampNeg = k - (r + 1) := by
  have h1 := own_cl hi.1
  have h2 := own_t32 hk
  have a1 := c_iadd i 1
  have a2 := rng32 (i + 1)
  have a3 : (1 : Int32).toInt = 1 := rfl
  rw [a3] at a1
  refine ⟨own_nn hi.1, by omega, ?_, by omega, by omega⟩
  rw [Int32.lt_iff_toInt_lt, h2]; omega
theorem own_iz {k : Nat} {i : Int32} (hk : k < 2 ^ 31) (hi : 0 ≤ i.toInt ∧ i.toInt + (0 : Nat) = k) : ¬ i < k.toInt32 := by
  have h2 := own_t32 hk
  rw [Int32.lt_iff_toInt_lt, h2]; omega
def F1 (ef : Nat → Int32) : Nat → (Nat → Int32)
  | 0 => fun _ => 0
  | j + 1 => upd (F1 ef j) (ef j + 1).toNatClampNeg (F1 ef j (ef j + 1).toNatClampNeg + 1)
def F2 (b : Nat → Int32) : Nat → (Nat → Int32)
  | 0 => b
  | j + 1 => upd (F2 b j) (j + 1) (F2 b j (j + 1) + F2 b j j)
theorem own_c1 {c p : Int32} (hc : 0 ≤ c.toInt ∧ c.toInt < p.toInt) (hp : p.toInt ≤ 4) : 0 ≤ (c + 1).toInt ∧ (c + 1).toInt < ((p + 1).toNatClampNeg : Nat) := by
  have a1 := c_iadd c 1
  have a2 := rng32 (c + 1)
  have a4 := c_iadd p 1
  have a5 := rng32 (p + 1)
  have a3 : (1 : Int32).toInt = 1 := rfl
  rw [a3] at a1 a4
  have a6 := own_cl (j := p + 1) (by omega)
  omega
theorem own_k1 {p : Int32} (hp : 0 ≤ p.toInt ∧ p.toInt ≤ 4) : ¬ (p + 1) < 0 ∧ (p + 1).toNatClampNeg ≤ 5 ∧ (p + 1).toNatClampNeg = p.toNatClampNeg + 1 := by
  have a4 := c_iadd p 1
  have a5 := rng32 (p + 1)
  have a3 : (1 : Int32).toInt = 1 := rfl
  rw [a3] at a4
  have a6 := own_cl (j := p + 1) (by omega)
  have a7 := own_cl hp.1
  exact ⟨own_nn (by omega), by omega, by omega⟩
theorem own_u {p u : Int32} {t : Nat} (hp : 0 ≤ p.toInt ∧ p.toInt ≤ 4) (hu : 0 ≤ u.toInt ∧ u.toInt + (t + 1 : Nat) = p.toInt) : u < p ∧ (0 ≤ (u + 1).toInt ∧ (u + 1).toInt < ((p + 1).toNatClampNeg : Nat)) ∧ (u.toInt < ((p + 1).toNatClampNeg : Nat)) ∧ (0 ≤ (u + 1).toInt ∧ (u + 1).toInt + t = p.toInt) ∧ u.toNatClampNeg = p.toNatClampNeg - (t + 1) ∧ (u + 1).toNatClampNeg = p.toNatClampNeg - (t + 1) + 1 ∧ t + 1 ≤ p.toNatClampNeg := by
  have a4 := c_iadd p 1
  have a5 := rng32 (p + 1)
  have a3 : (1 : Int32).toInt = 1 := rfl
  have b4 := c_iadd u 1
  have b5 := rng32 (u + 1)
  rw [a3] at a4 b4
  have a6 := own_cl (j := p + 1) (by omega)
  have a7 := own_cl hp.1
  have b6 := own_cl (j := u + 1) (by omega)
  have b7 := own_cl hu.1
  refine ⟨?_, by omega, by omega, by omega, by omega, by omega, by omega⟩
  rw [Int32.lt_iff_toInt_lt]; omega
theorem own_u0 {p u : Int32} (hu : 0 ≤ u.toInt ∧ u.toInt + (0 : Nat) = p.toInt) : ¬ u < p := by rw [Int32.lt_iff_toInt_lt]; omega
theorem own_F1s {ef : Nat → Int32} {n t : Nat} (h : t + 1 ≤ n) : F1 ef (n - t) = upd (F1 ef (n - (t + 1))) (ef (n - (t + 1)) + 1).toNatClampNeg (F1 ef (n - (t + 1)) (ef (n - (t + 1)) + 1).toNatClampNeg + 1) := by
  have e : n - t = (n - (t + 1)) + 1 := by omega
  rw [e]; rfl
theorem own_F2s {b : Nat → Int32} {n t : Nat} (h : t + 1 ≤ n) : F2 b (n - t) = upd (F2 b (n - (t + 1))) (n - (t + 1) + 1) (F2 b (n - (t + 1)) (n - (t + 1) + 1) + F2 b (n - (t + 1)) (n - (t + 1))) := by
  have e : n - t = (n - (t + 1)) + 1 := by omega
  rw [e]; rfl
def own_below (p0 p1 p2 p3 p4 : Int32) : Int32 := (if (0 : Int32) < p1 then (if p2 < p0 then (if (1 : Int32) < p1 then (if p3 < p0 then (if (2 : Int32) < p1 then (if p4 < p0 then ((((0 : Int32) + (1 : Int32)) + (1 : Int32)) + (1 : Int32)) else (((0 : Int32) + (1 : Int32)) + (1 : Int32))) else (((0 : Int32) + (1 : Int32)) + (1 : Int32))) else (if (2 : Int32) < p1 then (if p4 < p0 then (((0 : Int32) + (1 : Int32)) + (1 : Int32)) else ((0 : Int32) + (1 : Int32))) else ((0 : Int32) + (1 : Int32)))) else (if (2 : Int32) < p1 then (if p4 < p0 then (((0 : Int32) + (1 : Int32)) + (1 : Int32)) else ((0 : Int32) + (1 : Int32))) else ((0 : Int32) + (1 : Int32)))) else (if (1 : Int32) < p1 then (if p3 < p0 then (if (2 : Int32) < p1 then (if p4 < p0 then (((0 : Int32) + (1 : Int32)) + (1 : Int32)) else ((0 : Int32) + (1 : Int32))) else ((0 : Int32) + (1 : Int32))) else (if (2 : Int32) < p1 then (if p4 < p0 then ((0 : Int32) + (1 : Int32)) else (0 : Int32)) else (0 : Int32))) else (if (2 : Int32) < p1 then (if p4 < p0 then ((0 : Int32) + (1 : Int32)) else (0 : Int32)) else (0 : Int32)))) else (if (1 : Int32) < p1 then (if p3 < p0 then (if (2 : Int32) < p1 then (if p4 < p0 then (((0 : Int32) + (1 : Int32)) + (1 : Int32)) else ((0 : Int32) + (1 : Int32))) else ((0 : Int32) + (1 : Int32))) else (if (2 : Int32) < p1 then (if p4 < p0 then ((0 : Int32) + (1 : Int32)) else (0 : Int32)) else (0 : Int32))) else (if (2 : Int32) < p1 then (if p4 < p0 then ((0 : Int32) + (1 : Int32)) else (0 : Int32)) else (0 : Int32))))
theorem pn_com_example_chartwright_chartwright_parse_ChartGrammarStartsPinLaw_below_3 : plainFor (⟨"com/example/chartwright/chartwright/parse/ChartGrammarStartsPinLaw", "below", "(IIIII)I"⟩ : MethodName) = true := by first | exact plainFor_of_name (by first | (simp [plainName, overriddenIn]; done) | decide +kernel) | decide +kernel
def Q_rm3 (Z : State) (p0 : Int32) (p1 : Int32) (p2 : Int32) (p3 : Int32) (p4 : Int32) (h0 : Heap) (n0 : Nat) (v : Option Value) (h : Heap) (L : List Loc) : Prop := v = some (.int (own_below p0 p1 p2 p3 p4)) ∧ Fr n0 L ∧ h = h0
set_option maxRecDepth 65536 in
set_option maxHeartbeats 4000000 in
theorem ef_rm3 (m : MethodId) (p0 : Int32) (p1 : Int32) (p2 : Int32) (p3 : Int32) (p4 : Int32) : entryFrame m #[(.int p0), (.int p1), (.int p2), (.int p3), (.int p4)] 6 = mkF m 0 #[.val (.int p0), .val (.int p1), .val (.int p2), .val (.int p3), .val (.int p4), .unset] [] := by first | (simp [entryFrame, mkF, argsToLocals, Value.category, maxLocals]; done) | rfl
theorem d3_0 : decode method_4_code 0 = .ok (.iconst 0, 1) := by decide +kernel
theorem d3_1 : decode method_4_code 1 = .ok (.istore 5, 2) := by decide +kernel
theorem d3_3 : decode method_4_code 3 = .ok (.iload_n 1, 1) := by decide +kernel
theorem d3_4 : decode method_4_code 4 = .ok (.ifCond .le 11, 3) := by decide +kernel
theorem d3_7 : decode method_4_code 7 = .ok (.iload_n 2, 1) := by decide +kernel
theorem d3_8 : decode method_4_code 8 = .ok (.iload_n 0, 1) := by decide +kernel
theorem d3_9 : decode method_4_code 9 = .ok (.if_icmp .ge 6, 3) := by decide +kernel
theorem d3_12 : decode method_4_code 12 = .ok (.iinc 5 1, 3) := by decide +kernel
theorem d3_15 : decode method_4_code 15 = .ok (.iload_n 1, 1) := by decide +kernel
theorem d3_16 : decode method_4_code 16 = .ok (.iconst 1, 1) := by decide +kernel
theorem d3_17 : decode method_4_code 17 = .ok (.if_icmp .le 11, 3) := by decide +kernel
theorem d3_20 : decode method_4_code 20 = .ok (.iload_n 3, 1) := by decide +kernel
theorem d3_21 : decode method_4_code 21 = .ok (.iload_n 0, 1) := by decide +kernel
theorem d3_22 : decode method_4_code 22 = .ok (.if_icmp .ge 6, 3) := by decide +kernel
theorem d3_25 : decode method_4_code 25 = .ok (.iinc 5 1, 3) := by decide +kernel
theorem d3_28 : decode method_4_code 28 = .ok (.iload_n 1, 1) := by decide +kernel
theorem d3_29 : decode method_4_code 29 = .ok (.iconst 2, 1) := by decide +kernel
theorem d3_30 : decode method_4_code 30 = .ok (.if_icmp .le 12, 3) := by decide +kernel
theorem d3_33 : decode method_4_code 33 = .ok (.iload 4, 2) := by decide +kernel
theorem d3_35 : decode method_4_code 35 = .ok (.iload_n 0, 1) := by decide +kernel
theorem d3_36 : decode method_4_code 36 = .ok (.if_icmp .ge 6, 3) := by decide +kernel
theorem d3_39 : decode method_4_code 39 = .ok (.iinc 5 1, 3) := by decide +kernel
theorem d3_42 : decode method_4_code 42 = .ok (.iload 5, 2) := by decide +kernel
theorem d3_44 : decode method_4_code 44 = .ok (.ireturn, 1) := by decide +kernel
set_option maxRecDepth 65536 in
set_option maxHeartbeats 40000000 in
theorem rm3 (l : Launch) (Z : State) (a0 : Array Value) (hw : ∀ d ∈ tables_1, d.before a0 Z = true) (ws : List Jvm.Cond) (p0 : Int32) (p1 : Int32) (p2 : Int32) (p3 : Int32) (p4 : Int32) (h0 : Heap) (n0 : Nat) (Z0 : n0 ≤ h0.size)  :
    MetFree l (⟨"com/example/chartwright/chartwright/parse/ChartGrammarStartsPinLaw", "below", "(IIIII)I"⟩ : MethodName) (head1 (Jvm.Cond.code (⟨"com/example/chartwright/chartwright/parse/ChartGrammarStartsPinLaw", "below", "(IIIII)I"⟩ : MethodName) method_4_code 6 (some .int) :: ws) ({ frames := 0, cells := 0, slots := 0, locals := 0 } : Room)) (fun a U => a = #[(.int p0), (.int p1), (.int p2), (.int p3), (.int p4)] ∧ Z.Warmed39 U.vm ∧ U.heap = h0) (fun _ _ _ _ _ => True) (fun _ U o U' => ∃ v L, o = .returned v ∧ Q_rm3 Z p0 p1 p2 p3 p4 h0 n0 v U'.heap L ∧ FrameEnd U o U' L ({ frames := 0, cells := 0, slots := 0, locals := 0 } : Room).cells ({ frames := 0, cells := 0, slots := 0, locals := 0 } : Room).slots) := by
  refine body pn_com_example_chartwright_chartwright_parse_ChartGrammarStartsPinLaw_below_3 ?_
  intro p e s m below meth c s₁ hx hby hml hown hnm hret hlk hZ e0 X0
  replace hml : c.maxLocals = 6 := hml
  replace hown : s.vm.findClass "com/example/chartwright/chartwright/parse/ChartGrammarStartsPinLaw" = some m.cls := hown
  replace hnm : meth.name = "below" := hnm
  replace hret : meth.sig.returnType = (some .int) := hret
  have N0 := Fr.nil n0
  rw [ef_rm3]
  obtain ⟨G, hG⟩ : ∃ G, G = End (Q_rm3 Z p0 p1 p2 p3 p4 h0 n0) s ({ frames := 0, cells := 0, slots := 0, locals := 0 } : Room).cells ({ frames := 0, cells := 0, slots := 0, locals := 0 } : Room).slots := ⟨_, rfl⟩
  rw [← hG]
  refine go (u' := s₁.setTop (mkF m 1 #[.val (.int p0), .val (.int p1), .val (.int p2), .val (.int p3), .val (.int p4), .unset] [(.int (0 : Int32))])) (fun _ ks_ => XS.iconst X0.here hx rfl (hb hby d3_0) ks_) ?_
  refine go (u' := s₁.setTop (mkF m 3 #[.val (.int p0), .val (.int p1), .val (.int p2), .val (.int p3), .val (.int p4), .val (.int (0 : Int32))] [])) (fun _ ks_ => XS.istore X0.here hx rfl (hb hby d3_1) rfl  (l' := #[.val (.int p0), .val (.int p1), .val (.int p2), .val (.int p3), .val (.int p4), .val (.int (0 : Int32))]) rfl ks_) ?_
  refine go (u' := s₁.setTop (mkF m 4 #[.val (.int p0), .val (.int p1), .val (.int p2), .val (.int p3), .val (.int p4), .val (.int (0 : Int32))] [(.int p1)])) (fun _ ks_ => XS.iloadN X0.here hx rfl (hb hby d3_3) rfl  ks_) ?_
  by_cases c4_1 : (0 : Int32) < p1
  ·
    refine go (u' := s₁.setTop (mkF m 7 #[.val (.int p0), .val (.int p1), .val (.int p2), .val (.int p3), .val (.int p4), .val (.int (0 : Int32))] [])) (fun _ ks_ => XS.ifNo X0.here hx rfl (hb hby d3_4) rfl ((if0 _ _).trans (tlt c4_1).2.2.2) ks_) ?_
    refine go (u' := s₁.setTop (mkF m 8 #[.val (.int p0), .val (.int p1), .val (.int p2), .val (.int p3), .val (.int p4), .val (.int (0 : Int32))] [(.int p2)])) (fun _ ks_ => XS.iloadN X0.here hx rfl (hb hby d3_7) rfl  ks_) ?_
    refine go (u' := s₁.setTop (mkF m 9 #[.val (.int p0), .val (.int p1), .val (.int p2), .val (.int p3), .val (.int p4), .val (.int (0 : Int32))] [(.int p0), (.int p2)])) (fun _ ks_ => XS.iloadN X0.here hx rfl (hb hby d3_8) rfl  ks_) ?_
    by_cases c9_2 : p2 < p0
    ·
      refine go (u' := s₁.setTop (mkF m 12 #[.val (.int p0), .val (.int p1), .val (.int p2), .val (.int p3), .val (.int p4), .val (.int (0 : Int32))] [])) (fun _ ks_ => XS.icmpNo X0.here hx rfl (hb hby d3_9) rfl (tlt c9_2).2.1 ks_) ?_
      refine go (u' := s₁.setTop (mkF m 15 #[.val (.int p0), .val (.int p1), .val (.int p2), .val (.int p3), .val (.int p4), .val (.int ((0 : Int32) + (1 : Int32)))] [])) (fun _ ks_ => XS.iinc X0.here hx rfl (hb hby d3_12) rfl (l' := #[.val (.int p0), .val (.int p1), .val (.int p2), .val (.int p3), .val (.int p4), .val (.int ((0 : Int32) + (1 : Int32)))]) rfl ks_) ?_
      refine go (u' := s₁.setTop (mkF m 16 #[.val (.int p0), .val (.int p1), .val (.int p2), .val (.int p3), .val (.int p4), .val (.int ((0 : Int32) + (1 : Int32)))] [(.int p1)])) (fun _ ks_ => XS.iloadN X0.here hx rfl (hb hby d3_15) rfl  ks_) ?_
      refine go (u' := s₁.setTop (mkF m 17 #[.val (.int p0), .val (.int p1), .val (.int p2), .val (.int p3), .val (.int p4), .val (.int ((0 : Int32) + (1 : Int32)))] [(.int (1 : Int32)), (.int p1)])) (fun _ ks_ => XS.iconst X0.here hx rfl (hb hby d3_16) ks_) ?_
      by_cases c17_3 : (1 : Int32) < p1
      ·
        refine go (u' := s₁.setTop (mkF m 20 #[.val (.int p0), .val (.int p1), .val (.int p2), .val (.int p3), .val (.int p4), .val (.int ((0 : Int32) + (1 : Int32)))] [])) (fun _ ks_ => XS.icmpNo X0.here hx rfl (hb hby d3_17) rfl (tlt c17_3).2.2.2 ks_) ?_
        refine go (u' := s₁.setTop (mkF m 21 #[.val (.int p0), .val (.int p1), .val (.int p2), .val (.int p3), .val (.int p4), .val (.int ((0 : Int32) + (1 : Int32)))] [(.int p3)])) (fun _ ks_ => XS.iloadN X0.here hx rfl (hb hby d3_20) rfl  ks_) ?_
        refine go (u' := s₁.setTop (mkF m 22 #[.val (.int p0), .val (.int p1), .val (.int p2), .val (.int p3), .val (.int p4), .val (.int ((0 : Int32) + (1 : Int32)))] [(.int p0), (.int p3)])) (fun _ ks_ => XS.iloadN X0.here hx rfl (hb hby d3_21) rfl  ks_) ?_
        by_cases c22_4 : p3 < p0
        ·
          refine go (u' := s₁.setTop (mkF m 25 #[.val (.int p0), .val (.int p1), .val (.int p2), .val (.int p3), .val (.int p4), .val (.int ((0 : Int32) + (1 : Int32)))] [])) (fun _ ks_ => XS.icmpNo X0.here hx rfl (hb hby d3_22) rfl (tlt c22_4).2.1 ks_) ?_
          refine go (u' := s₁.setTop (mkF m 28 #[.val (.int p0), .val (.int p1), .val (.int p2), .val (.int p3), .val (.int p4), .val (.int (((0 : Int32) + (1 : Int32)) + (1 : Int32)))] [])) (fun _ ks_ => XS.iinc X0.here hx rfl (hb hby d3_25) rfl (l' := #[.val (.int p0), .val (.int p1), .val (.int p2), .val (.int p3), .val (.int p4), .val (.int (((0 : Int32) + (1 : Int32)) + (1 : Int32)))]) rfl ks_) ?_
          refine go (u' := s₁.setTop (mkF m 29 #[.val (.int p0), .val (.int p1), .val (.int p2), .val (.int p3), .val (.int p4), .val (.int (((0 : Int32) + (1 : Int32)) + (1 : Int32)))] [(.int p1)])) (fun _ ks_ => XS.iloadN X0.here hx rfl (hb hby d3_28) rfl  ks_) ?_
          refine go (u' := s₁.setTop (mkF m 30 #[.val (.int p0), .val (.int p1), .val (.int p2), .val (.int p3), .val (.int p4), .val (.int (((0 : Int32) + (1 : Int32)) + (1 : Int32)))] [(.int (2 : Int32)), (.int p1)])) (fun _ ks_ => XS.iconst X0.here hx rfl (hb hby d3_29) ks_) ?_
          by_cases c30_5 : (2 : Int32) < p1
          ·
            refine go (u' := s₁.setTop (mkF m 33 #[.val (.int p0), .val (.int p1), .val (.int p2), .val (.int p3), .val (.int p4), .val (.int (((0 : Int32) + (1 : Int32)) + (1 : Int32)))] [])) (fun _ ks_ => XS.icmpNo X0.here hx rfl (hb hby d3_30) rfl (tlt c30_5).2.2.2 ks_) ?_
            refine go (u' := s₁.setTop (mkF m 35 #[.val (.int p0), .val (.int p1), .val (.int p2), .val (.int p3), .val (.int p4), .val (.int (((0 : Int32) + (1 : Int32)) + (1 : Int32)))] [(.int p4)])) (fun _ ks_ => XS.iload X0.here hx rfl (hb hby d3_33) rfl  ks_) ?_
            refine go (u' := s₁.setTop (mkF m 36 #[.val (.int p0), .val (.int p1), .val (.int p2), .val (.int p3), .val (.int p4), .val (.int (((0 : Int32) + (1 : Int32)) + (1 : Int32)))] [(.int p0), (.int p4)])) (fun _ ks_ => XS.iloadN X0.here hx rfl (hb hby d3_35) rfl  ks_) ?_
            by_cases c36_6 : p4 < p0
            ·
              refine go (u' := s₁.setTop (mkF m 39 #[.val (.int p0), .val (.int p1), .val (.int p2), .val (.int p3), .val (.int p4), .val (.int (((0 : Int32) + (1 : Int32)) + (1 : Int32)))] [])) (fun _ ks_ => XS.icmpNo X0.here hx rfl (hb hby d3_36) rfl (tlt c36_6).2.1 ks_) ?_
              refine go (u' := s₁.setTop (mkF m 42 #[.val (.int p0), .val (.int p1), .val (.int p2), .val (.int p3), .val (.int p4), .val (.int ((((0 : Int32) + (1 : Int32)) + (1 : Int32)) + (1 : Int32)))] [])) (fun _ ks_ => XS.iinc X0.here hx rfl (hb hby d3_39) rfl (l' := #[.val (.int p0), .val (.int p1), .val (.int p2), .val (.int p3), .val (.int p4), .val (.int ((((0 : Int32) + (1 : Int32)) + (1 : Int32)) + (1 : Int32)))]) rfl ks_) ?_
              refine go (u' := s₁.setTop (mkF m 44 #[.val (.int p0), .val (.int p1), .val (.int p2), .val (.int p3), .val (.int p4), .val (.int ((((0 : Int32) + (1 : Int32)) + (1 : Int32)) + (1 : Int32)))] [(.int ((((0 : Int32) + (1 : Int32)) + (1 : Int32)) + (1 : Int32)))])) (fun _ ks_ => XS.iload X0.here hx rfl (hb hby d3_42) rfl  ks_) ?_
              rw [hG]
              refine gI X0 hx hlk hret (hb hby d3_44) ?_ (Nat.le_of_ble_eq_true rfl) (Nat.le_of_ble_eq_true rfl)
              show Q_rm3 Z p0 p1 p2 p3 p4 h0 n0 (some (.int ((((0 : Int32) + (1 : Int32)) + (1 : Int32)) + (1 : Int32)))) s₁.heap _
              rw [e0]
              exact ⟨congrArg (fun z => some (Value.int z)) (((((((if_pos c4_1).trans (if_pos c9_2)).trans (if_pos c17_3)).trans (if_pos c22_4)).trans (if_pos c30_5)).trans (if_pos c36_6))).symm, N0, rfl⟩
            ·
              refine go (u' := s₁.setTop (mkF m 42 #[.val (.int p0), .val (.int p1), .val (.int p2), .val (.int p3), .val (.int p4), .val (.int (((0 : Int32) + (1 : Int32)) + (1 : Int32)))] [])) (fun _ ks_ => XS.icmpYes X0.here hx rfl (pc0 := 36) (pc' := 42) rfl (hb hby d3_36) rfl (flt c36_6).2.1 (by decide) (by decide) ks_) ?_
              refine go (u' := s₁.setTop (mkF m 44 #[.val (.int p0), .val (.int p1), .val (.int p2), .val (.int p3), .val (.int p4), .val (.int (((0 : Int32) + (1 : Int32)) + (1 : Int32)))] [(.int (((0 : Int32) + (1 : Int32)) + (1 : Int32)))])) (fun _ ks_ => XS.iload X0.here hx rfl (hb hby d3_42) rfl  ks_) ?_
              rw [hG]
              refine gI X0 hx hlk hret (hb hby d3_44) ?_ (Nat.le_of_ble_eq_true rfl) (Nat.le_of_ble_eq_true rfl)
              show Q_rm3 Z p0 p1 p2 p3 p4 h0 n0 (some (.int (((0 : Int32) + (1 : Int32)) + (1 : Int32)))) s₁.heap _
              rw [e0]
              exact ⟨congrArg (fun z => some (Value.int z)) (((((((if_pos c4_1).trans (if_pos c9_2)).trans (if_pos c17_3)).trans (if_pos c22_4)).trans (if_pos c30_5)).trans (if_neg c36_6))).symm, N0, rfl⟩
          ·
            refine go (u' := s₁.setTop (mkF m 42 #[.val (.int p0), .val (.int p1), .val (.int p2), .val (.int p3), .val (.int p4), .val (.int (((0 : Int32) + (1 : Int32)) + (1 : Int32)))] [])) (fun _ ks_ => XS.icmpYes X0.here hx rfl (pc0 := 30) (pc' := 42) rfl (hb hby d3_30) rfl (flt c30_5).2.2.2 (by decide) (by decide) ks_) ?_
            refine go (u' := s₁.setTop (mkF m 44 #[.val (.int p0), .val (.int p1), .val (.int p2), .val (.int p3), .val (.int p4), .val (.int (((0 : Int32) + (1 : Int32)) + (1 : Int32)))] [(.int (((0 : Int32) + (1 : Int32)) + (1 : Int32)))])) (fun _ ks_ => XS.iload X0.here hx rfl (hb hby d3_42) rfl  ks_) ?_
            rw [hG]
            refine gI X0 hx hlk hret (hb hby d3_44) ?_ (Nat.le_of_ble_eq_true rfl) (Nat.le_of_ble_eq_true rfl)
            show Q_rm3 Z p0 p1 p2 p3 p4 h0 n0 (some (.int (((0 : Int32) + (1 : Int32)) + (1 : Int32)))) s₁.heap _
            rw [e0]
            exact ⟨congrArg (fun z => some (Value.int z)) ((((((if_pos c4_1).trans (if_pos c9_2)).trans (if_pos c17_3)).trans (if_pos c22_4)).trans (if_neg c30_5))).symm, N0, rfl⟩
        ·
          refine go (u' := s₁.setTop (mkF m 28 #[.val (.int p0), .val (.int p1), .val (.int p2), .val (.int p3), .val (.int p4), .val (.int ((0 : Int32) + (1 : Int32)))] [])) (fun _ ks_ => XS.icmpYes X0.here hx rfl (pc0 := 22) (pc' := 28) rfl (hb hby d3_22) rfl (flt c22_4).2.1 (by decide) (by decide) ks_) ?_
          refine go (u' := s₁.setTop (mkF m 29 #[.val (.int p0), .val (.int p1), .val (.int p2), .val (.int p3), .val (.int p4), .val (.int ((0 : Int32) + (1 : Int32)))] [(.int p1)])) (fun _ ks_ => XS.iloadN X0.here hx rfl (hb hby d3_28) rfl  ks_) ?_
          refine go (u' := s₁.setTop (mkF m 30 #[.val (.int p0), .val (.int p1), .val (.int p2), .val (.int p3), .val (.int p4), .val (.int ((0 : Int32) + (1 : Int32)))] [(.int (2 : Int32)), (.int p1)])) (fun _ ks_ => XS.iconst X0.here hx rfl (hb hby d3_29) ks_) ?_
          by_cases c30_7 : (2 : Int32) < p1
          ·
            refine go (u' := s₁.setTop (mkF m 33 #[.val (.int p0), .val (.int p1), .val (.int p2), .val (.int p3), .val (.int p4), .val (.int ((0 : Int32) + (1 : Int32)))] [])) (fun _ ks_ => XS.icmpNo X0.here hx rfl (hb hby d3_30) rfl (tlt c30_7).2.2.2 ks_) ?_
            refine go (u' := s₁.setTop (mkF m 35 #[.val (.int p0), .val (.int p1), .val (.int p2), .val (.int p3), .val (.int p4), .val (.int ((0 : Int32) + (1 : Int32)))] [(.int p4)])) (fun _ ks_ => XS.iload X0.here hx rfl (hb hby d3_33) rfl  ks_) ?_
            refine go (u' := s₁.setTop (mkF m 36 #[.val (.int p0), .val (.int p1), .val (.int p2), .val (.int p3), .val (.int p4), .val (.int ((0 : Int32) + (1 : Int32)))] [(.int p0), (.int p4)])) (fun _ ks_ => XS.iloadN X0.here hx rfl (hb hby d3_35) rfl  ks_) ?_
            by_cases c36_8 : p4 < p0
            ·
              refine go (u' := s₁.setTop (mkF m 39 #[.val (.int p0), .val (.int p1), .val (.int p2), .val (.int p3), .val (.int p4), .val (.int ((0 : Int32) + (1 : Int32)))] [])) (fun _ ks_ => XS.icmpNo X0.here hx rfl (hb hby d3_36) rfl (tlt c36_8).2.1 ks_) ?_
              refine go (u' := s₁.setTop (mkF m 42 #[.val (.int p0), .val (.int p1), .val (.int p2), .val (.int p3), .val (.int p4), .val (.int (((0 : Int32) + (1 : Int32)) + (1 : Int32)))] [])) (fun _ ks_ => XS.iinc X0.here hx rfl (hb hby d3_39) rfl (l' := #[.val (.int p0), .val (.int p1), .val (.int p2), .val (.int p3), .val (.int p4), .val (.int (((0 : Int32) + (1 : Int32)) + (1 : Int32)))]) rfl ks_) ?_
              refine go (u' := s₁.setTop (mkF m 44 #[.val (.int p0), .val (.int p1), .val (.int p2), .val (.int p3), .val (.int p4), .val (.int (((0 : Int32) + (1 : Int32)) + (1 : Int32)))] [(.int (((0 : Int32) + (1 : Int32)) + (1 : Int32)))])) (fun _ ks_ => XS.iload X0.here hx rfl (hb hby d3_42) rfl  ks_) ?_
              rw [hG]
              refine gI X0 hx hlk hret (hb hby d3_44) ?_ (Nat.le_of_ble_eq_true rfl) (Nat.le_of_ble_eq_true rfl)
              show Q_rm3 Z p0 p1 p2 p3 p4 h0 n0 (some (.int (((0 : Int32) + (1 : Int32)) + (1 : Int32)))) s₁.heap _
              rw [e0]
              exact ⟨congrArg (fun z => some (Value.int z)) (((((((if_pos c4_1).trans (if_pos c9_2)).trans (if_pos c17_3)).trans (if_neg c22_4)).trans (if_pos c30_7)).trans (if_pos c36_8))).symm, N0, rfl⟩
            ·
              refine go (u' := s₁.setTop (mkF m 42 #[.val (.int p0), .val (.int p1), .val (.int p2), .val (.int p3), .val (.int p4), .val (.int ((0 : Int32) + (1 : Int32)))] [])) (fun _ ks_ => XS.icmpYes X0.here hx rfl (pc0 := 36) (pc' := 42) rfl (hb hby d3_36) rfl (flt c36_8).2.1 (by decide) (by decide) ks_) ?_
              refine go (u' := s₁.setTop (mkF m 44 #[.val (.int p0), .val (.int p1), .val (.int p2), .val (.int p3), .val (.int p4), .val (.int ((0 : Int32) + (1 : Int32)))] [(.int ((0 : Int32) + (1 : Int32)))])) (fun _ ks_ => XS.iload X0.here hx rfl (hb hby d3_42) rfl  ks_) ?_
              rw [hG]
              refine gI X0 hx hlk hret (hb hby d3_44) ?_ (Nat.le_of_ble_eq_true rfl) (Nat.le_of_ble_eq_true rfl)
              show Q_rm3 Z p0 p1 p2 p3 p4 h0 n0 (some (.int ((0 : Int32) + (1 : Int32)))) s₁.heap _
              rw [e0]
              exact ⟨congrArg (fun z => some (Value.int z)) (((((((if_pos c4_1).trans (if_pos c9_2)).trans (if_pos c17_3)).trans (if_neg c22_4)).trans (if_pos c30_7)).trans (if_neg c36_8))).symm, N0, rfl⟩
          ·
            refine go (u' := s₁.setTop (mkF m 42 #[.val (.int p0), .val (.int p1), .val (.int p2), .val (.int p3), .val (.int p4), .val (.int ((0 : Int32) + (1 : Int32)))] [])) (fun _ ks_ => XS.icmpYes X0.here hx rfl (pc0 := 30) (pc' := 42) rfl (hb hby d3_30) rfl (flt c30_7).2.2.2 (by decide) (by decide) ks_) ?_
            refine go (u' := s₁.setTop (mkF m 44 #[.val (.int p0), .val (.int p1), .val (.int p2), .val (.int p3), .val (.int p4), .val (.int ((0 : Int32) + (1 : Int32)))] [(.int ((0 : Int32) + (1 : Int32)))])) (fun _ ks_ => XS.iload X0.here hx rfl (hb hby d3_42) rfl  ks_) ?_
            rw [hG]
            refine gI X0 hx hlk hret (hb hby d3_44) ?_ (Nat.le_of_ble_eq_true rfl) (Nat.le_of_ble_eq_true rfl)
            show Q_rm3 Z p0 p1 p2 p3 p4 h0 n0 (some (.int ((0 : Int32) + (1 : Int32)))) s₁.heap _
            rw [e0]
            exact ⟨congrArg (fun z => some (Value.int z)) ((((((if_pos c4_1).trans (if_pos c9_2)).trans (if_pos c17_3)).trans (if_neg c22_4)).trans (if_neg c30_7))).symm, N0, rfl⟩
      ·
        refine go (u' := s₁.setTop (mkF m 28 #[.val (.int p0), .val (.int p1), .val (.int p2), .val (.int p3), .val (.int p4), .val (.int ((0 : Int32) + (1 : Int32)))] [])) (fun _ ks_ => XS.icmpYes X0.here hx rfl (pc0 := 17) (pc' := 28) rfl (hb hby d3_17) rfl (flt c17_3).2.2.2 (by decide) (by decide) ks_) ?_
        refine go (u' := s₁.setTop (mkF m 29 #[.val (.int p0), .val (.int p1), .val (.int p2), .val (.int p3), .val (.int p4), .val (.int ((0 : Int32) + (1 : Int32)))] [(.int p1)])) (fun _ ks_ => XS.iloadN X0.here hx rfl (hb hby d3_28) rfl  ks_) ?_
        refine go (u' := s₁.setTop (mkF m 30 #[.val (.int p0), .val (.int p1), .val (.int p2), .val (.int p3), .val (.int p4), .val (.int ((0 : Int32) + (1 : Int32)))] [(.int (2 : Int32)), (.int p1)])) (fun _ ks_ => XS.iconst X0.here hx rfl (hb hby d3_29) ks_) ?_
        by_cases c30_9 : (2 : Int32) < p1
        ·
          refine go (u' := s₁.setTop (mkF m 33 #[.val (.int p0), .val (.int p1), .val (.int p2), .val (.int p3), .val (.int p4), .val (.int ((0 : Int32) + (1 : Int32)))] [])) (fun _ ks_ => XS.icmpNo X0.here hx rfl (hb hby d3_30) rfl (tlt c30_9).2.2.2 ks_) ?_
          refine go (u' := s₁.setTop (mkF m 35 #[.val (.int p0), .val (.int p1), .val (.int p2), .val (.int p3), .val (.int p4), .val (.int ((0 : Int32) + (1 : Int32)))] [(.int p4)])) (fun _ ks_ => XS.iload X0.here hx rfl (hb hby d3_33) rfl  ks_) ?_
          refine go (u' := s₁.setTop (mkF m 36 #[.val (.int p0), .val (.int p1), .val (.int p2), .val (.int p3), .val (.int p4), .val (.int ((0 : Int32) + (1 : Int32)))] [(.int p0), (.int p4)])) (fun _ ks_ => XS.iloadN X0.here hx rfl (hb hby d3_35) rfl  ks_) ?_
          by_cases c36_10 : p4 < p0
          ·
            refine go (u' := s₁.setTop (mkF m 39 #[.val (.int p0), .val (.int p1), .val (.int p2), .val (.int p3), .val (.int p4), .val (.int ((0 : Int32) + (1 : Int32)))] [])) (fun _ ks_ => XS.icmpNo X0.here hx rfl (hb hby d3_36) rfl (tlt c36_10).2.1 ks_) ?_
            refine go (u' := s₁.setTop (mkF m 42 #[.val (.int p0), .val (.int p1), .val (.int p2), .val (.int p3), .val (.int p4), .val (.int (((0 : Int32) + (1 : Int32)) + (1 : Int32)))] [])) (fun _ ks_ => XS.iinc X0.here hx rfl (hb hby d3_39) rfl (l' := #[.val (.int p0), .val (.int p1), .val (.int p2), .val (.int p3), .val (.int p4), .val (.int (((0 : Int32) + (1 : Int32)) + (1 : Int32)))]) rfl ks_) ?_
            refine go (u' := s₁.setTop (mkF m 44 #[.val (.int p0), .val (.int p1), .val (.int p2), .val (.int p3), .val (.int p4), .val (.int (((0 : Int32) + (1 : Int32)) + (1 : Int32)))] [(.int (((0 : Int32) + (1 : Int32)) + (1 : Int32)))])) (fun _ ks_ => XS.iload X0.here hx rfl (hb hby d3_42) rfl  ks_) ?_
            rw [hG]
            refine gI X0 hx hlk hret (hb hby d3_44) ?_ (Nat.le_of_ble_eq_true rfl) (Nat.le_of_ble_eq_true rfl)
            show Q_rm3 Z p0 p1 p2 p3 p4 h0 n0 (some (.int (((0 : Int32) + (1 : Int32)) + (1 : Int32)))) s₁.heap _
            rw [e0]
            exact ⟨congrArg (fun z => some (Value.int z)) ((((((if_pos c4_1).trans (if_pos c9_2)).trans (if_neg c17_3)).trans (if_pos c30_9)).trans (if_pos c36_10))).symm, N0, rfl⟩
          ·
            refine go (u' := s₁.setTop (mkF m 42 #[.val (.int p0), .val (.int p1), .val (.int p2), .val (.int p3), .val (.int p4), .val (.int ((0 : Int32) + (1 : Int32)))] [])) (fun _ ks_ => XS.icmpYes X0.here hx rfl (pc0 := 36) (pc' := 42) rfl (hb hby d3_36) rfl (flt c36_10).2.1 (by decide) (by decide) ks_) ?_
            refine go (u' := s₁.setTop (mkF m 44 #[.val (.int p0), .val (.int p1), .val (.int p2), .val (.int p3), .val (.int p4), .val (.int ((0 : Int32) + (1 : Int32)))] [(.int ((0 : Int32) + (1 : Int32)))])) (fun _ ks_ => XS.iload X0.here hx rfl (hb hby d3_42) rfl  ks_) ?_
            rw [hG]
            refine gI X0 hx hlk hret (hb hby d3_44) ?_ (Nat.le_of_ble_eq_true rfl) (Nat.le_of_ble_eq_true rfl)
            show Q_rm3 Z p0 p1 p2 p3 p4 h0 n0 (some (.int ((0 : Int32) + (1 : Int32)))) s₁.heap _
            rw [e0]
            exact ⟨congrArg (fun z => some (Value.int z)) ((((((if_pos c4_1).trans (if_pos c9_2)).trans (if_neg c17_3)).trans (if_pos c30_9)).trans (if_neg c36_10))).symm, N0, rfl⟩
        ·
          refine go (u' := s₁.setTop (mkF m 42 #[.val (.int p0), .val (.int p1), .val (.int p2), .val (.int p3), .val (.int p4), .val (.int ((0 : Int32) + (1 : Int32)))] [])) (fun _ ks_ => XS.icmpYes X0.here hx rfl (pc0 := 30) (pc' := 42) rfl (hb hby d3_30) rfl (flt c30_9).2.2.2 (by decide) (by decide) ks_) ?_
          refine go (u' := s₁.setTop (mkF m 44 #[.val (.int p0), .val (.int p1), .val (.int p2), .val (.int p3), .val (.int p4), .val (.int ((0 : Int32) + (1 : Int32)))] [(.int ((0 : Int32) + (1 : Int32)))])) (fun _ ks_ => XS.iload X0.here hx rfl (hb hby d3_42) rfl  ks_) ?_
          rw [hG]
          refine gI X0 hx hlk hret (hb hby d3_44) ?_ (Nat.le_of_ble_eq_true rfl) (Nat.le_of_ble_eq_true rfl)
          show Q_rm3 Z p0 p1 p2 p3 p4 h0 n0 (some (.int ((0 : Int32) + (1 : Int32)))) s₁.heap _
          rw [e0]
          exact ⟨congrArg (fun z => some (Value.int z)) (((((if_pos c4_1).trans (if_pos c9_2)).trans (if_neg c17_3)).trans (if_neg c30_9))).symm, N0, rfl⟩
    ·
      refine go (u' := s₁.setTop (mkF m 15 #[.val (.int p0), .val (.int p1), .val (.int p2), .val (.int p3), .val (.int p4), .val (.int (0 : Int32))] [])) (fun _ ks_ => XS.icmpYes X0.here hx rfl (pc0 := 9) (pc' := 15) rfl (hb hby d3_9) rfl (flt c9_2).2.1 (by decide) (by decide) ks_) ?_
      refine go (u' := s₁.setTop (mkF m 16 #[.val (.int p0), .val (.int p1), .val (.int p2), .val (.int p3), .val (.int p4), .val (.int (0 : Int32))] [(.int p1)])) (fun _ ks_ => XS.iloadN X0.here hx rfl (hb hby d3_15) rfl  ks_) ?_
      refine go (u' := s₁.setTop (mkF m 17 #[.val (.int p0), .val (.int p1), .val (.int p2), .val (.int p3), .val (.int p4), .val (.int (0 : Int32))] [(.int (1 : Int32)), (.int p1)])) (fun _ ks_ => XS.iconst X0.here hx rfl (hb hby d3_16) ks_) ?_
      by_cases c17_11 : (1 : Int32) < p1
      ·
        refine go (u' := s₁.setTop (mkF m 20 #[.val (.int p0), .val (.int p1), .val (.int p2), .val (.int p3), .val (.int p4), .val (.int (0 : Int32))] [])) (fun _ ks_ => XS.icmpNo X0.here hx rfl (hb hby d3_17) rfl (tlt c17_11).2.2.2 ks_) ?_
        refine go (u' := s₁.setTop (mkF m 21 #[.val (.int p0), .val (.int p1), .val (.int p2), .val (.int p3), .val (.int p4), .val (.int (0 : Int32))] [(.int p3)])) (fun _ ks_ => XS.iloadN X0.here hx rfl (hb hby d3_20) rfl  ks_) ?_
        refine go (u' := s₁.setTop (mkF m 22 #[.val (.int p0), .val (.int p1), .val (.int p2), .val (.int p3), .val (.int p4), .val (.int (0 : Int32))] [(.int p0), (.int p3)])) (fun _ ks_ => XS.iloadN X0.here hx rfl (hb hby d3_21) rfl  ks_) ?_
        by_cases c22_12 : p3 < p0
        ·
          refine go (u' := s₁.setTop (mkF m 25 #[.val (.int p0), .val (.int p1), .val (.int p2), .val (.int p3), .val (.int p4), .val (.int (0 : Int32))] [])) (fun _ ks_ => XS.icmpNo X0.here hx rfl (hb hby d3_22) rfl (tlt c22_12).2.1 ks_) ?_
          refine go (u' := s₁.setTop (mkF m 28 #[.val (.int p0), .val (.int p1), .val (.int p2), .val (.int p3), .val (.int p4), .val (.int ((0 : Int32) + (1 : Int32)))] [])) (fun _ ks_ => XS.iinc X0.here hx rfl (hb hby d3_25) rfl (l' := #[.val (.int p0), .val (.int p1), .val (.int p2), .val (.int p3), .val (.int p4), .val (.int ((0 : Int32) + (1 : Int32)))]) rfl ks_) ?_
          refine go (u' := s₁.setTop (mkF m 29 #[.val (.int p0), .val (.int p1), .val (.int p2), .val (.int p3), .val (.int p4), .val (.int ((0 : Int32) + (1 : Int32)))] [(.int p1)])) (fun _ ks_ => XS.iloadN X0.here hx rfl (hb hby d3_28) rfl  ks_) ?_
          refine go (u' := s₁.setTop (mkF m 30 #[.val (.int p0), .val (.int p1), .val (.int p2), .val (.int p3), .val (.int p4), .val (.int ((0 : Int32) + (1 : Int32)))] [(.int (2 : Int32)), (.int p1)])) (fun _ ks_ => XS.iconst X0.here hx rfl (hb hby d3_29) ks_) ?_
          by_cases c30_13 : (2 : Int32) < p1
          ·
            refine go (u' := s₁.setTop (mkF m 33 #[.val (.int p0), .val (.int p1), .val (.int p2), .val (.int p3), .val (.int p4), .val (.int ((0 : Int32) + (1 : Int32)))] [])) (fun _ ks_ => XS.icmpNo X0.here hx rfl (hb hby d3_30) rfl (tlt c30_13).2.2.2 ks_) ?_
            refine go (u' := s₁.setTop (mkF m 35 #[.val (.int p0), .val (.int p1), .val (.int p2), .val (.int p3), .val (.int p4), .val (.int ((0 : Int32) + (1 : Int32)))] [(.int p4)])) (fun _ ks_ => XS.iload X0.here hx rfl (hb hby d3_33) rfl  ks_) ?_
            refine go (u' := s₁.setTop (mkF m 36 #[.val (.int p0), .val (.int p1), .val (.int p2), .val (.int p3), .val (.int p4), .val (.int ((0 : Int32) + (1 : Int32)))] [(.int p0), (.int p4)])) (fun _ ks_ => XS.iloadN X0.here hx rfl (hb hby d3_35) rfl  ks_) ?_
            by_cases c36_14 : p4 < p0
            ·
              refine go (u' := s₁.setTop (mkF m 39 #[.val (.int p0), .val (.int p1), .val (.int p2), .val (.int p3), .val (.int p4), .val (.int ((0 : Int32) + (1 : Int32)))] [])) (fun _ ks_ => XS.icmpNo X0.here hx rfl (hb hby d3_36) rfl (tlt c36_14).2.1 ks_) ?_
              refine go (u' := s₁.setTop (mkF m 42 #[.val (.int p0), .val (.int p1), .val (.int p2), .val (.int p3), .val (.int p4), .val (.int (((0 : Int32) + (1 : Int32)) + (1 : Int32)))] [])) (fun _ ks_ => XS.iinc X0.here hx rfl (hb hby d3_39) rfl (l' := #[.val (.int p0), .val (.int p1), .val (.int p2), .val (.int p3), .val (.int p4), .val (.int (((0 : Int32) + (1 : Int32)) + (1 : Int32)))]) rfl ks_) ?_
              refine go (u' := s₁.setTop (mkF m 44 #[.val (.int p0), .val (.int p1), .val (.int p2), .val (.int p3), .val (.int p4), .val (.int (((0 : Int32) + (1 : Int32)) + (1 : Int32)))] [(.int (((0 : Int32) + (1 : Int32)) + (1 : Int32)))])) (fun _ ks_ => XS.iload X0.here hx rfl (hb hby d3_42) rfl  ks_) ?_
              rw [hG]
              refine gI X0 hx hlk hret (hb hby d3_44) ?_ (Nat.le_of_ble_eq_true rfl) (Nat.le_of_ble_eq_true rfl)
              show Q_rm3 Z p0 p1 p2 p3 p4 h0 n0 (some (.int (((0 : Int32) + (1 : Int32)) + (1 : Int32)))) s₁.heap _
              rw [e0]
              exact ⟨congrArg (fun z => some (Value.int z)) (((((((if_pos c4_1).trans (if_neg c9_2)).trans (if_pos c17_11)).trans (if_pos c22_12)).trans (if_pos c30_13)).trans (if_pos c36_14))).symm, N0, rfl⟩
            ·
              refine go (u' := s₁.setTop (mkF m 42 #[.val (.int p0), .val (.int p1), .val (.int p2), .val (.int p3), .val (.int p4), .val (.int ((0 : Int32) + (1 : Int32)))] [])) (fun _ ks_ => XS.icmpYes X0.here hx rfl (pc0 := 36) (pc' := 42) rfl (hb hby d3_36) rfl (flt c36_14).2.1 (by decide) (by decide) ks_) ?_
              refine go (u' := s₁.setTop (mkF m 44 #[.val (.int p0), .val (.int p1), .val (.int p2), .val (.int p3), .val (.int p4), .val (.int ((0 : Int32) + (1 : Int32)))] [(.int ((0 : Int32) + (1 : Int32)))])) (fun _ ks_ => XS.iload X0.here hx rfl (hb hby d3_42) rfl  ks_) ?_
              rw [hG]
              refine gI X0 hx hlk hret (hb hby d3_44) ?_ (Nat.le_of_ble_eq_true rfl) (Nat.le_of_ble_eq_true rfl)
              show Q_rm3 Z p0 p1 p2 p3 p4 h0 n0 (some (.int ((0 : Int32) + (1 : Int32)))) s₁.heap _
              rw [e0]
              exact ⟨congrArg (fun z => some (Value.int z)) (((((((if_pos c4_1).trans (if_neg c9_2)).trans (if_pos c17_11)).trans (if_pos c22_12)).trans (if_pos c30_13)).trans (if_neg c36_14))).symm, N0, rfl⟩
          ·
            refine go (u' := s₁.setTop (mkF m 42 #[.val (.int p0), .val (.int p1), .val (.int p2), .val (.int p3), .val (.int p4), .val (.int ((0 : Int32) + (1 : Int32)))] [])) (fun _ ks_ => XS.icmpYes X0.here hx rfl (pc0 := 30) (pc' := 42) rfl (hb hby d3_30) rfl (flt c30_13).2.2.2 (by decide) (by decide) ks_) ?_
            refine go (u' := s₁.setTop (mkF m 44 #[.val (.int p0), .val (.int p1), .val (.int p2), .val (.int p3), .val (.int p4), .val (.int ((0 : Int32) + (1 : Int32)))] [(.int ((0 : Int32) + (1 : Int32)))])) (fun _ ks_ => XS.iload X0.here hx rfl (hb hby d3_42) rfl  ks_) ?_
            rw [hG]
            refine gI X0 hx hlk hret (hb hby d3_44) ?_ (Nat.le_of_ble_eq_true rfl) (Nat.le_of_ble_eq_true rfl)
            show Q_rm3 Z p0 p1 p2 p3 p4 h0 n0 (some (.int ((0 : Int32) + (1 : Int32)))) s₁.heap _
            rw [e0]
            exact ⟨congrArg (fun z => some (Value.int z)) ((((((if_pos c4_1).trans (if_neg c9_2)).trans (if_pos c17_11)).trans (if_pos c22_12)).trans (if_neg c30_13))).symm, N0, rfl⟩
        ·
          refine go (u' := s₁.setTop (mkF m 28 #[.val (.int p0), .val (.int p1), .val (.int p2), .val (.int p3), .val (.int p4), .val (.int (0 : Int32))] [])) (fun _ ks_ => XS.icmpYes X0.here hx rfl (pc0 := 22) (pc' := 28) rfl (hb hby d3_22) rfl (flt c22_12).2.1 (by decide) (by decide) ks_) ?_
          refine go (u' := s₁.setTop (mkF m 29 #[.val (.int p0), .val (.int p1), .val (.int p2), .val (.int p3), .val (.int p4), .val (.int (0 : Int32))] [(.int p1)])) (fun _ ks_ => XS.iloadN X0.here hx rfl (hb hby d3_28) rfl  ks_) ?_
          refine go (u' := s₁.setTop (mkF m 30 #[.val (.int p0), .val (.int p1), .val (.int p2), .val (.int p3), .val (.int p4), .val (.int (0 : Int32))] [(.int (2 : Int32)), (.int p1)])) (fun _ ks_ => XS.iconst X0.here hx rfl (hb hby d3_29) ks_) ?_
          by_cases c30_15 : (2 : Int32) < p1
          ·
            refine go (u' := s₁.setTop (mkF m 33 #[.val (.int p0), .val (.int p1), .val (.int p2), .val (.int p3), .val (.int p4), .val (.int (0 : Int32))] [])) (fun _ ks_ => XS.icmpNo X0.here hx rfl (hb hby d3_30) rfl (tlt c30_15).2.2.2 ks_) ?_
            refine go (u' := s₁.setTop (mkF m 35 #[.val (.int p0), .val (.int p1), .val (.int p2), .val (.int p3), .val (.int p4), .val (.int (0 : Int32))] [(.int p4)])) (fun _ ks_ => XS.iload X0.here hx rfl (hb hby d3_33) rfl  ks_) ?_
            refine go (u' := s₁.setTop (mkF m 36 #[.val (.int p0), .val (.int p1), .val (.int p2), .val (.int p3), .val (.int p4), .val (.int (0 : Int32))] [(.int p0), (.int p4)])) (fun _ ks_ => XS.iloadN X0.here hx rfl (hb hby d3_35) rfl  ks_) ?_
            by_cases c36_16 : p4 < p0
            ·
              refine go (u' := s₁.setTop (mkF m 39 #[.val (.int p0), .val (.int p1), .val (.int p2), .val (.int p3), .val (.int p4), .val (.int (0 : Int32))] [])) (fun _ ks_ => XS.icmpNo X0.here hx rfl (hb hby d3_36) rfl (tlt c36_16).2.1 ks_) ?_
              refine go (u' := s₁.setTop (mkF m 42 #[.val (.int p0), .val (.int p1), .val (.int p2), .val (.int p3), .val (.int p4), .val (.int ((0 : Int32) + (1 : Int32)))] [])) (fun _ ks_ => XS.iinc X0.here hx rfl (hb hby d3_39) rfl (l' := #[.val (.int p0), .val (.int p1), .val (.int p2), .val (.int p3), .val (.int p4), .val (.int ((0 : Int32) + (1 : Int32)))]) rfl ks_) ?_
              refine go (u' := s₁.setTop (mkF m 44 #[.val (.int p0), .val (.int p1), .val (.int p2), .val (.int p3), .val (.int p4), .val (.int ((0 : Int32) + (1 : Int32)))] [(.int ((0 : Int32) + (1 : Int32)))])) (fun _ ks_ => XS.iload X0.here hx rfl (hb hby d3_42) rfl  ks_) ?_
              rw [hG]
              refine gI X0 hx hlk hret (hb hby d3_44) ?_ (Nat.le_of_ble_eq_true rfl) (Nat.le_of_ble_eq_true rfl)
              show Q_rm3 Z p0 p1 p2 p3 p4 h0 n0 (some (.int ((0 : Int32) + (1 : Int32)))) s₁.heap _
              rw [e0]
              exact ⟨congrArg (fun z => some (Value.int z)) (((((((if_pos c4_1).trans (if_neg c9_2)).trans (if_pos c17_11)).trans (if_neg c22_12)).trans (if_pos c30_15)).trans (if_pos c36_16))).symm, N0, rfl⟩
            ·
              refine go (u' := s₁.setTop (mkF m 42 #[.val (.int p0), .val (.int p1), .val (.int p2), .val (.int p3), .val (.int p4), .val (.int (0 : Int32))] [])) (fun _ ks_ => XS.icmpYes X0.here hx rfl (pc0 := 36) (pc' := 42) rfl (hb hby d3_36) rfl (flt c36_16).2.1 (by decide) (by decide) ks_) ?_
              refine go (u' := s₁.setTop (mkF m 44 #[.val (.int p0), .val (.int p1), .val (.int p2), .val (.int p3), .val (.int p4), .val (.int (0 : Int32))] [(.int (0 : Int32))])) (fun _ ks_ => XS.iload X0.here hx rfl (hb hby d3_42) rfl  ks_) ?_
              rw [hG]
              refine gI X0 hx hlk hret (hb hby d3_44) ?_ (Nat.le_of_ble_eq_true rfl) (Nat.le_of_ble_eq_true rfl)
              show Q_rm3 Z p0 p1 p2 p3 p4 h0 n0 (some (.int (0 : Int32))) s₁.heap _
              rw [e0]
              exact ⟨congrArg (fun z => some (Value.int z)) (((((((if_pos c4_1).trans (if_neg c9_2)).trans (if_pos c17_11)).trans (if_neg c22_12)).trans (if_pos c30_15)).trans (if_neg c36_16))).symm, N0, rfl⟩
          ·
            refine go (u' := s₁.setTop (mkF m 42 #[.val (.int p0), .val (.int p1), .val (.int p2), .val (.int p3), .val (.int p4), .val (.int (0 : Int32))] [])) (fun _ ks_ => XS.icmpYes X0.here hx rfl (pc0 := 30) (pc' := 42) rfl (hb hby d3_30) rfl (flt c30_15).2.2.2 (by decide) (by decide) ks_) ?_
            refine go (u' := s₁.setTop (mkF m 44 #[.val (.int p0), .val (.int p1), .val (.int p2), .val (.int p3), .val (.int p4), .val (.int (0 : Int32))] [(.int (0 : Int32))])) (fun _ ks_ => XS.iload X0.here hx rfl (hb hby d3_42) rfl  ks_) ?_
            rw [hG]
            refine gI X0 hx hlk hret (hb hby d3_44) ?_ (Nat.le_of_ble_eq_true rfl) (Nat.le_of_ble_eq_true rfl)
            show Q_rm3 Z p0 p1 p2 p3 p4 h0 n0 (some (.int (0 : Int32))) s₁.heap _
            rw [e0]
            exact ⟨congrArg (fun z => some (Value.int z)) ((((((if_pos c4_1).trans (if_neg c9_2)).trans (if_pos c17_11)).trans (if_neg c22_12)).trans (if_neg c30_15))).symm, N0, rfl⟩
      ·
        refine go (u' := s₁.setTop (mkF m 28 #[.val (.int p0), .val (.int p1), .val (.int p2), .val (.int p3), .val (.int p4), .val (.int (0 : Int32))] [])) (fun _ ks_ => XS.icmpYes X0.here hx rfl (pc0 := 17) (pc' := 28) rfl (hb hby d3_17) rfl (flt c17_11).2.2.2 (by decide) (by decide) ks_) ?_
        refine go (u' := s₁.setTop (mkF m 29 #[.val (.int p0), .val (.int p1), .val (.int p2), .val (.int p3), .val (.int p4), .val (.int (0 : Int32))] [(.int p1)])) (fun _ ks_ => XS.iloadN X0.here hx rfl (hb hby d3_28) rfl  ks_) ?_
        refine go (u' := s₁.setTop (mkF m 30 #[.val (.int p0), .val (.int p1), .val (.int p2), .val (.int p3), .val (.int p4), .val (.int (0 : Int32))] [(.int (2 : Int32)), (.int p1)])) (fun _ ks_ => XS.iconst X0.here hx rfl (hb hby d3_29) ks_) ?_
        by_cases c30_17 : (2 : Int32) < p1
        ·
          refine go (u' := s₁.setTop (mkF m 33 #[.val (.int p0), .val (.int p1), .val (.int p2), .val (.int p3), .val (.int p4), .val (.int (0 : Int32))] [])) (fun _ ks_ => XS.icmpNo X0.here hx rfl (hb hby d3_30) rfl (tlt c30_17).2.2.2 ks_) ?_
          refine go (u' := s₁.setTop (mkF m 35 #[.val (.int p0), .val (.int p1), .val (.int p2), .val (.int p3), .val (.int p4), .val (.int (0 : Int32))] [(.int p4)])) (fun _ ks_ => XS.iload X0.here hx rfl (hb hby d3_33) rfl  ks_) ?_
          refine go (u' := s₁.setTop (mkF m 36 #[.val (.int p0), .val (.int p1), .val (.int p2), .val (.int p3), .val (.int p4), .val (.int (0 : Int32))] [(.int p0), (.int p4)])) (fun _ ks_ => XS.iloadN X0.here hx rfl (hb hby d3_35) rfl  ks_) ?_
          by_cases c36_18 : p4 < p0
          ·
            refine go (u' := s₁.setTop (mkF m 39 #[.val (.int p0), .val (.int p1), .val (.int p2), .val (.int p3), .val (.int p4), .val (.int (0 : Int32))] [])) (fun _ ks_ => XS.icmpNo X0.here hx rfl (hb hby d3_36) rfl (tlt c36_18).2.1 ks_) ?_
            refine go (u' := s₁.setTop (mkF m 42 #[.val (.int p0), .val (.int p1), .val (.int p2), .val (.int p3), .val (.int p4), .val (.int ((0 : Int32) + (1 : Int32)))] [])) (fun _ ks_ => XS.iinc X0.here hx rfl (hb hby d3_39) rfl (l' := #[.val (.int p0), .val (.int p1), .val (.int p2), .val (.int p3), .val (.int p4), .val (.int ((0 : Int32) + (1 : Int32)))]) rfl ks_) ?_
            refine go (u' := s₁.setTop (mkF m 44 #[.val (.int p0), .val (.int p1), .val (.int p2), .val (.int p3), .val (.int p4), .val (.int ((0 : Int32) + (1 : Int32)))] [(.int ((0 : Int32) + (1 : Int32)))])) (fun _ ks_ => XS.iload X0.here hx rfl (hb hby d3_42) rfl  ks_) ?_
            rw [hG]
            refine gI X0 hx hlk hret (hb hby d3_44) ?_ (Nat.le_of_ble_eq_true rfl) (Nat.le_of_ble_eq_true rfl)
            show Q_rm3 Z p0 p1 p2 p3 p4 h0 n0 (some (.int ((0 : Int32) + (1 : Int32)))) s₁.heap _
            rw [e0]
            exact ⟨congrArg (fun z => some (Value.int z)) ((((((if_pos c4_1).trans (if_neg c9_2)).trans (if_neg c17_11)).trans (if_pos c30_17)).trans (if_pos c36_18))).symm, N0, rfl⟩
          ·
            refine go (u' := s₁.setTop (mkF m 42 #[.val (.int p0), .val (.int p1), .val (.int p2), .val (.int p3), .val (.int p4), .val (.int (0 : Int32))] [])) (fun _ ks_ => XS.icmpYes X0.here hx rfl (pc0 := 36) (pc' := 42) rfl (hb hby d3_36) rfl (flt c36_18).2.1 (by decide) (by decide) ks_) ?_
            refine go (u' := s₁.setTop (mkF m 44 #[.val (.int p0), .val (.int p1), .val (.int p2), .val (.int p3), .val (.int p4), .val (.int (0 : Int32))] [(.int (0 : Int32))])) (fun _ ks_ => XS.iload X0.here hx rfl (hb hby d3_42) rfl  ks_) ?_
            rw [hG]
            refine gI X0 hx hlk hret (hb hby d3_44) ?_ (Nat.le_of_ble_eq_true rfl) (Nat.le_of_ble_eq_true rfl)
            show Q_rm3 Z p0 p1 p2 p3 p4 h0 n0 (some (.int (0 : Int32))) s₁.heap _
            rw [e0]
            exact ⟨congrArg (fun z => some (Value.int z)) ((((((if_pos c4_1).trans (if_neg c9_2)).trans (if_neg c17_11)).trans (if_pos c30_17)).trans (if_neg c36_18))).symm, N0, rfl⟩
        ·
          refine go (u' := s₁.setTop (mkF m 42 #[.val (.int p0), .val (.int p1), .val (.int p2), .val (.int p3), .val (.int p4), .val (.int (0 : Int32))] [])) (fun _ ks_ => XS.icmpYes X0.here hx rfl (pc0 := 30) (pc' := 42) rfl (hb hby d3_30) rfl (flt c30_17).2.2.2 (by decide) (by decide) ks_) ?_
          refine go (u' := s₁.setTop (mkF m 44 #[.val (.int p0), .val (.int p1), .val (.int p2), .val (.int p3), .val (.int p4), .val (.int (0 : Int32))] [(.int (0 : Int32))])) (fun _ ks_ => XS.iload X0.here hx rfl (hb hby d3_42) rfl  ks_) ?_
          rw [hG]
          refine gI X0 hx hlk hret (hb hby d3_44) ?_ (Nat.le_of_ble_eq_true rfl) (Nat.le_of_ble_eq_true rfl)
          show Q_rm3 Z p0 p1 p2 p3 p4 h0 n0 (some (.int (0 : Int32))) s₁.heap _
          rw [e0]
          exact ⟨congrArg (fun z => some (Value.int z)) (((((if_pos c4_1).trans (if_neg c9_2)).trans (if_neg c17_11)).trans (if_neg c30_17))).symm, N0, rfl⟩
  ·
    refine go (u' := s₁.setTop (mkF m 15 #[.val (.int p0), .val (.int p1), .val (.int p2), .val (.int p3), .val (.int p4), .val (.int (0 : Int32))] [])) (fun _ ks_ => XS.ifYes X0.here hx rfl (pc0 := 4) (pc' := 15) rfl (hb hby d3_4) rfl ((if0 _ _).trans (flt c4_1).2.2.2) (by decide) (by decide) ks_) ?_
    refine go (u' := s₁.setTop (mkF m 16 #[.val (.int p0), .val (.int p1), .val (.int p2), .val (.int p3), .val (.int p4), .val (.int (0 : Int32))] [(.int p1)])) (fun _ ks_ => XS.iloadN X0.here hx rfl (hb hby d3_15) rfl  ks_) ?_
    refine go (u' := s₁.setTop (mkF m 17 #[.val (.int p0), .val (.int p1), .val (.int p2), .val (.int p3), .val (.int p4), .val (.int (0 : Int32))] [(.int (1 : Int32)), (.int p1)])) (fun _ ks_ => XS.iconst X0.here hx rfl (hb hby d3_16) ks_) ?_
    by_cases c17_19 : (1 : Int32) < p1
    ·
      refine go (u' := s₁.setTop (mkF m 20 #[.val (.int p0), .val (.int p1), .val (.int p2), .val (.int p3), .val (.int p4), .val (.int (0 : Int32))] [])) (fun _ ks_ => XS.icmpNo X0.here hx rfl (hb hby d3_17) rfl (tlt c17_19).2.2.2 ks_) ?_
      refine go (u' := s₁.setTop (mkF m 21 #[.val (.int p0), .val (.int p1), .val (.int p2), .val (.int p3), .val (.int p4), .val (.int (0 : Int32))] [(.int p3)])) (fun _ ks_ => XS.iloadN X0.here hx rfl (hb hby d3_20) rfl  ks_) ?_
      refine go (u' := s₁.setTop (mkF m 22 #[.val (.int p0), .val (.int p1), .val (.int p2), .val (.int p3), .val (.int p4), .val (.int (0 : Int32))] [(.int p0), (.int p3)])) (fun _ ks_ => XS.iloadN X0.here hx rfl (hb hby d3_21) rfl  ks_) ?_
      by_cases c22_20 : p3 < p0
      ·
        refine go (u' := s₁.setTop (mkF m 25 #[.val (.int p0), .val (.int p1), .val (.int p2), .val (.int p3), .val (.int p4), .val (.int (0 : Int32))] [])) (fun _ ks_ => XS.icmpNo X0.here hx rfl (hb hby d3_22) rfl (tlt c22_20).2.1 ks_) ?_
        refine go (u' := s₁.setTop (mkF m 28 #[.val (.int p0), .val (.int p1), .val (.int p2), .val (.int p3), .val (.int p4), .val (.int ((0 : Int32) + (1 : Int32)))] [])) (fun _ ks_ => XS.iinc X0.here hx rfl (hb hby d3_25) rfl (l' := #[.val (.int p0), .val (.int p1), .val (.int p2), .val (.int p3), .val (.int p4), .val (.int ((0 : Int32) + (1 : Int32)))]) rfl ks_) ?_
        refine go (u' := s₁.setTop (mkF m 29 #[.val (.int p0), .val (.int p1), .val (.int p2), .val (.int p3), .val (.int p4), .val (.int ((0 : Int32) + (1 : Int32)))] [(.int p1)])) (fun _ ks_ => XS.iloadN X0.here hx rfl (hb hby d3_28) rfl  ks_) ?_
        refine go (u' := s₁.setTop (mkF m 30 #[.val (.int p0), .val (.int p1), .val (.int p2), .val (.int p3), .val (.int p4), .val (.int ((0 : Int32) + (1 : Int32)))] [(.int (2 : Int32)), (.int p1)])) (fun _ ks_ => XS.iconst X0.here hx rfl (hb hby d3_29) ks_) ?_
        by_cases c30_21 : (2 : Int32) < p1
        ·
          refine go (u' := s₁.setTop (mkF m 33 #[.val (.int p0), .val (.int p1), .val (.int p2), .val (.int p3), .val (.int p4), .val (.int ((0 : Int32) + (1 : Int32)))] [])) (fun _ ks_ => XS.icmpNo X0.here hx rfl (hb hby d3_30) rfl (tlt c30_21).2.2.2 ks_) ?_
          refine go (u' := s₁.setTop (mkF m 35 #[.val (.int p0), .val (.int p1), .val (.int p2), .val (.int p3), .val (.int p4), .val (.int ((0 : Int32) + (1 : Int32)))] [(.int p4)])) (fun _ ks_ => XS.iload X0.here hx rfl (hb hby d3_33) rfl  ks_) ?_
          refine go (u' := s₁.setTop (mkF m 36 #[.val (.int p0), .val (.int p1), .val (.int p2), .val (.int p3), .val (.int p4), .val (.int ((0 : Int32) + (1 : Int32)))] [(.int p0), (.int p4)])) (fun _ ks_ => XS.iloadN X0.here hx rfl (hb hby d3_35) rfl  ks_) ?_
          by_cases c36_22 : p4 < p0
          ·
            refine go (u' := s₁.setTop (mkF m 39 #[.val (.int p0), .val (.int p1), .val (.int p2), .val (.int p3), .val (.int p4), .val (.int ((0 : Int32) + (1 : Int32)))] [])) (fun _ ks_ => XS.icmpNo X0.here hx rfl (hb hby d3_36) rfl (tlt c36_22).2.1 ks_) ?_
            refine go (u' := s₁.setTop (mkF m 42 #[.val (.int p0), .val (.int p1), .val (.int p2), .val (.int p3), .val (.int p4), .val (.int (((0 : Int32) + (1 : Int32)) + (1 : Int32)))] [])) (fun _ ks_ => XS.iinc X0.here hx rfl (hb hby d3_39) rfl (l' := #[.val (.int p0), .val (.int p1), .val (.int p2), .val (.int p3), .val (.int p4), .val (.int (((0 : Int32) + (1 : Int32)) + (1 : Int32)))]) rfl ks_) ?_
            refine go (u' := s₁.setTop (mkF m 44 #[.val (.int p0), .val (.int p1), .val (.int p2), .val (.int p3), .val (.int p4), .val (.int (((0 : Int32) + (1 : Int32)) + (1 : Int32)))] [(.int (((0 : Int32) + (1 : Int32)) + (1 : Int32)))])) (fun _ ks_ => XS.iload X0.here hx rfl (hb hby d3_42) rfl  ks_) ?_
            rw [hG]
            refine gI X0 hx hlk hret (hb hby d3_44) ?_ (Nat.le_of_ble_eq_true rfl) (Nat.le_of_ble_eq_true rfl)
            show Q_rm3 Z p0 p1 p2 p3 p4 h0 n0 (some (.int (((0 : Int32) + (1 : Int32)) + (1 : Int32)))) s₁.heap _
            rw [e0]
            exact ⟨congrArg (fun z => some (Value.int z)) ((((((if_neg c4_1).trans (if_pos c17_19)).trans (if_pos c22_20)).trans (if_pos c30_21)).trans (if_pos c36_22))).symm, N0, rfl⟩
          ·
            refine go (u' := s₁.setTop (mkF m 42 #[.val (.int p0), .val (.int p1), .val (.int p2), .val (.int p3), .val (.int p4), .val (.int ((0 : Int32) + (1 : Int32)))] [])) (fun _ ks_ => XS.icmpYes X0.here hx rfl (pc0 := 36) (pc' := 42) rfl (hb hby d3_36) rfl (flt c36_22).2.1 (by decide) (by decide) ks_) ?_
            refine go (u' := s₁.setTop (mkF m 44 #[.val (.int p0), .val (.int p1), .val (.int p2), .val (.int p3), .val (.int p4), .val (.int ((0 : Int32) + (1 : Int32)))] [(.int ((0 : Int32) + (1 : Int32)))])) (fun _ ks_ => XS.iload X0.here hx rfl (hb hby d3_42) rfl  ks_) ?_
            rw [hG]
            refine gI X0 hx hlk hret (hb hby d3_44) ?_ (Nat.le_of_ble_eq_true rfl) (Nat.le_of_ble_eq_true rfl)
            show Q_rm3 Z p0 p1 p2 p3 p4 h0 n0 (some (.int ((0 : Int32) + (1 : Int32)))) s₁.heap _
            rw [e0]
            exact ⟨congrArg (fun z => some (Value.int z)) ((((((if_neg c4_1).trans (if_pos c17_19)).trans (if_pos c22_20)).trans (if_pos c30_21)).trans (if_neg c36_22))).symm, N0, rfl⟩
        ·
          refine go (u' := s₁.setTop (mkF m 42 #[.val (.int p0), .val (.int p1), .val (.int p2), .val (.int p3), .val (.int p4), .val (.int ((0 : Int32) + (1 : Int32)))] [])) (fun _ ks_ => XS.icmpYes X0.here hx rfl (pc0 := 30) (pc' := 42) rfl (hb hby d3_30) rfl (flt c30_21).2.2.2 (by decide) (by decide) ks_) ?_
          refine go (u' := s₁.setTop (mkF m 44 #[.val (.int p0), .val (.int p1), .val (.int p2), .val (.int p3), .val (.int p4), .val (.int ((0 : Int32) + (1 : Int32)))] [(.int ((0 : Int32) + (1 : Int32)))])) (fun _ ks_ => XS.iload X0.here hx rfl (hb hby d3_42) rfl  ks_) ?_
          rw [hG]
          refine gI X0 hx hlk hret (hb hby d3_44) ?_ (Nat.le_of_ble_eq_true rfl) (Nat.le_of_ble_eq_true rfl)
          show Q_rm3 Z p0 p1 p2 p3 p4 h0 n0 (some (.int ((0 : Int32) + (1 : Int32)))) s₁.heap _
          rw [e0]
          exact ⟨congrArg (fun z => some (Value.int z)) (((((if_neg c4_1).trans (if_pos c17_19)).trans (if_pos c22_20)).trans (if_neg c30_21))).symm, N0, rfl⟩
      ·
        refine go (u' := s₁.setTop (mkF m 28 #[.val (.int p0), .val (.int p1), .val (.int p2), .val (.int p3), .val (.int p4), .val (.int (0 : Int32))] [])) (fun _ ks_ => XS.icmpYes X0.here hx rfl (pc0 := 22) (pc' := 28) rfl (hb hby d3_22) rfl (flt c22_20).2.1 (by decide) (by decide) ks_) ?_
        refine go (u' := s₁.setTop (mkF m 29 #[.val (.int p0), .val (.int p1), .val (.int p2), .val (.int p3), .val (.int p4), .val (.int (0 : Int32))] [(.int p1)])) (fun _ ks_ => XS.iloadN X0.here hx rfl (hb hby d3_28) rfl  ks_) ?_
        refine go (u' := s₁.setTop (mkF m 30 #[.val (.int p0), .val (.int p1), .val (.int p2), .val (.int p3), .val (.int p4), .val (.int (0 : Int32))] [(.int (2 : Int32)), (.int p1)])) (fun _ ks_ => XS.iconst X0.here hx rfl (hb hby d3_29) ks_) ?_
        by_cases c30_23 : (2 : Int32) < p1
        ·
          refine go (u' := s₁.setTop (mkF m 33 #[.val (.int p0), .val (.int p1), .val (.int p2), .val (.int p3), .val (.int p4), .val (.int (0 : Int32))] [])) (fun _ ks_ => XS.icmpNo X0.here hx rfl (hb hby d3_30) rfl (tlt c30_23).2.2.2 ks_) ?_
          refine go (u' := s₁.setTop (mkF m 35 #[.val (.int p0), .val (.int p1), .val (.int p2), .val (.int p3), .val (.int p4), .val (.int (0 : Int32))] [(.int p4)])) (fun _ ks_ => XS.iload X0.here hx rfl (hb hby d3_33) rfl  ks_) ?_
          refine go (u' := s₁.setTop (mkF m 36 #[.val (.int p0), .val (.int p1), .val (.int p2), .val (.int p3), .val (.int p4), .val (.int (0 : Int32))] [(.int p0), (.int p4)])) (fun _ ks_ => XS.iloadN X0.here hx rfl (hb hby d3_35) rfl  ks_) ?_
          by_cases c36_24 : p4 < p0
          ·
            refine go (u' := s₁.setTop (mkF m 39 #[.val (.int p0), .val (.int p1), .val (.int p2), .val (.int p3), .val (.int p4), .val (.int (0 : Int32))] [])) (fun _ ks_ => XS.icmpNo X0.here hx rfl (hb hby d3_36) rfl (tlt c36_24).2.1 ks_) ?_
            refine go (u' := s₁.setTop (mkF m 42 #[.val (.int p0), .val (.int p1), .val (.int p2), .val (.int p3), .val (.int p4), .val (.int ((0 : Int32) + (1 : Int32)))] [])) (fun _ ks_ => XS.iinc X0.here hx rfl (hb hby d3_39) rfl (l' := #[.val (.int p0), .val (.int p1), .val (.int p2), .val (.int p3), .val (.int p4), .val (.int ((0 : Int32) + (1 : Int32)))]) rfl ks_) ?_
            refine go (u' := s₁.setTop (mkF m 44 #[.val (.int p0), .val (.int p1), .val (.int p2), .val (.int p3), .val (.int p4), .val (.int ((0 : Int32) + (1 : Int32)))] [(.int ((0 : Int32) + (1 : Int32)))])) (fun _ ks_ => XS.iload X0.here hx rfl (hb hby d3_42) rfl  ks_) ?_
            rw [hG]
            refine gI X0 hx hlk hret (hb hby d3_44) ?_ (Nat.le_of_ble_eq_true rfl) (Nat.le_of_ble_eq_true rfl)
            show Q_rm3 Z p0 p1 p2 p3 p4 h0 n0 (some (.int ((0 : Int32) + (1 : Int32)))) s₁.heap _
            rw [e0]
            exact ⟨congrArg (fun z => some (Value.int z)) ((((((if_neg c4_1).trans (if_pos c17_19)).trans (if_neg c22_20)).trans (if_pos c30_23)).trans (if_pos c36_24))).symm, N0, rfl⟩
          ·
            refine go (u' := s₁.setTop (mkF m 42 #[.val (.int p0), .val (.int p1), .val (.int p2), .val (.int p3), .val (.int p4), .val (.int (0 : Int32))] [])) (fun _ ks_ => XS.icmpYes X0.here hx rfl (pc0 := 36) (pc' := 42) rfl (hb hby d3_36) rfl (flt c36_24).2.1 (by decide) (by decide) ks_) ?_
            refine go (u' := s₁.setTop (mkF m 44 #[.val (.int p0), .val (.int p1), .val (.int p2), .val (.int p3), .val (.int p4), .val (.int (0 : Int32))] [(.int (0 : Int32))])) (fun _ ks_ => XS.iload X0.here hx rfl (hb hby d3_42) rfl  ks_) ?_
            rw [hG]
            refine gI X0 hx hlk hret (hb hby d3_44) ?_ (Nat.le_of_ble_eq_true rfl) (Nat.le_of_ble_eq_true rfl)
            show Q_rm3 Z p0 p1 p2 p3 p4 h0 n0 (some (.int (0 : Int32))) s₁.heap _
            rw [e0]
            exact ⟨congrArg (fun z => some (Value.int z)) ((((((if_neg c4_1).trans (if_pos c17_19)).trans (if_neg c22_20)).trans (if_pos c30_23)).trans (if_neg c36_24))).symm, N0, rfl⟩
        ·
          refine go (u' := s₁.setTop (mkF m 42 #[.val (.int p0), .val (.int p1), .val (.int p2), .val (.int p3), .val (.int p4), .val (.int (0 : Int32))] [])) (fun _ ks_ => XS.icmpYes X0.here hx rfl (pc0 := 30) (pc' := 42) rfl (hb hby d3_30) rfl (flt c30_23).2.2.2 (by decide) (by decide) ks_) ?_
          refine go (u' := s₁.setTop (mkF m 44 #[.val (.int p0), .val (.int p1), .val (.int p2), .val (.int p3), .val (.int p4), .val (.int (0 : Int32))] [(.int (0 : Int32))])) (fun _ ks_ => XS.iload X0.here hx rfl (hb hby d3_42) rfl  ks_) ?_
          rw [hG]
          refine gI X0 hx hlk hret (hb hby d3_44) ?_ (Nat.le_of_ble_eq_true rfl) (Nat.le_of_ble_eq_true rfl)
          show Q_rm3 Z p0 p1 p2 p3 p4 h0 n0 (some (.int (0 : Int32))) s₁.heap _
          rw [e0]
          exact ⟨congrArg (fun z => some (Value.int z)) (((((if_neg c4_1).trans (if_pos c17_19)).trans (if_neg c22_20)).trans (if_neg c30_23))).symm, N0, rfl⟩
    ·
      refine go (u' := s₁.setTop (mkF m 28 #[.val (.int p0), .val (.int p1), .val (.int p2), .val (.int p3), .val (.int p4), .val (.int (0 : Int32))] [])) (fun _ ks_ => XS.icmpYes X0.here hx rfl (pc0 := 17) (pc' := 28) rfl (hb hby d3_17) rfl (flt c17_19).2.2.2 (by decide) (by decide) ks_) ?_
      refine go (u' := s₁.setTop (mkF m 29 #[.val (.int p0), .val (.int p1), .val (.int p2), .val (.int p3), .val (.int p4), .val (.int (0 : Int32))] [(.int p1)])) (fun _ ks_ => XS.iloadN X0.here hx rfl (hb hby d3_28) rfl  ks_) ?_
      refine go (u' := s₁.setTop (mkF m 30 #[.val (.int p0), .val (.int p1), .val (.int p2), .val (.int p3), .val (.int p4), .val (.int (0 : Int32))] [(.int (2 : Int32)), (.int p1)])) (fun _ ks_ => XS.iconst X0.here hx rfl (hb hby d3_29) ks_) ?_
      by_cases c30_25 : (2 : Int32) < p1
      ·
        refine go (u' := s₁.setTop (mkF m 33 #[.val (.int p0), .val (.int p1), .val (.int p2), .val (.int p3), .val (.int p4), .val (.int (0 : Int32))] [])) (fun _ ks_ => XS.icmpNo X0.here hx rfl (hb hby d3_30) rfl (tlt c30_25).2.2.2 ks_) ?_
        refine go (u' := s₁.setTop (mkF m 35 #[.val (.int p0), .val (.int p1), .val (.int p2), .val (.int p3), .val (.int p4), .val (.int (0 : Int32))] [(.int p4)])) (fun _ ks_ => XS.iload X0.here hx rfl (hb hby d3_33) rfl  ks_) ?_
        refine go (u' := s₁.setTop (mkF m 36 #[.val (.int p0), .val (.int p1), .val (.int p2), .val (.int p3), .val (.int p4), .val (.int (0 : Int32))] [(.int p0), (.int p4)])) (fun _ ks_ => XS.iloadN X0.here hx rfl (hb hby d3_35) rfl  ks_) ?_
        by_cases c36_26 : p4 < p0
        ·
          refine go (u' := s₁.setTop (mkF m 39 #[.val (.int p0), .val (.int p1), .val (.int p2), .val (.int p3), .val (.int p4), .val (.int (0 : Int32))] [])) (fun _ ks_ => XS.icmpNo X0.here hx rfl (hb hby d3_36) rfl (tlt c36_26).2.1 ks_) ?_
          refine go (u' := s₁.setTop (mkF m 42 #[.val (.int p0), .val (.int p1), .val (.int p2), .val (.int p3), .val (.int p4), .val (.int ((0 : Int32) + (1 : Int32)))] [])) (fun _ ks_ => XS.iinc X0.here hx rfl (hb hby d3_39) rfl (l' := #[.val (.int p0), .val (.int p1), .val (.int p2), .val (.int p3), .val (.int p4), .val (.int ((0 : Int32) + (1 : Int32)))]) rfl ks_) ?_
          refine go (u' := s₁.setTop (mkF m 44 #[.val (.int p0), .val (.int p1), .val (.int p2), .val (.int p3), .val (.int p4), .val (.int ((0 : Int32) + (1 : Int32)))] [(.int ((0 : Int32) + (1 : Int32)))])) (fun _ ks_ => XS.iload X0.here hx rfl (hb hby d3_42) rfl  ks_) ?_
          rw [hG]
          refine gI X0 hx hlk hret (hb hby d3_44) ?_ (Nat.le_of_ble_eq_true rfl) (Nat.le_of_ble_eq_true rfl)
          show Q_rm3 Z p0 p1 p2 p3 p4 h0 n0 (some (.int ((0 : Int32) + (1 : Int32)))) s₁.heap _
          rw [e0]
          exact ⟨congrArg (fun z => some (Value.int z)) (((((if_neg c4_1).trans (if_neg c17_19)).trans (if_pos c30_25)).trans (if_pos c36_26))).symm, N0, rfl⟩
        ·
          refine go (u' := s₁.setTop (mkF m 42 #[.val (.int p0), .val (.int p1), .val (.int p2), .val (.int p3), .val (.int p4), .val (.int (0 : Int32))] [])) (fun _ ks_ => XS.icmpYes X0.here hx rfl (pc0 := 36) (pc' := 42) rfl (hb hby d3_36) rfl (flt c36_26).2.1 (by decide) (by decide) ks_) ?_
          refine go (u' := s₁.setTop (mkF m 44 #[.val (.int p0), .val (.int p1), .val (.int p2), .val (.int p3), .val (.int p4), .val (.int (0 : Int32))] [(.int (0 : Int32))])) (fun _ ks_ => XS.iload X0.here hx rfl (hb hby d3_42) rfl  ks_) ?_
          rw [hG]
          refine gI X0 hx hlk hret (hb hby d3_44) ?_ (Nat.le_of_ble_eq_true rfl) (Nat.le_of_ble_eq_true rfl)
          show Q_rm3 Z p0 p1 p2 p3 p4 h0 n0 (some (.int (0 : Int32))) s₁.heap _
          rw [e0]
          exact ⟨congrArg (fun z => some (Value.int z)) (((((if_neg c4_1).trans (if_neg c17_19)).trans (if_pos c30_25)).trans (if_neg c36_26))).symm, N0, rfl⟩
      ·
        refine go (u' := s₁.setTop (mkF m 42 #[.val (.int p0), .val (.int p1), .val (.int p2), .val (.int p3), .val (.int p4), .val (.int (0 : Int32))] [])) (fun _ ks_ => XS.icmpYes X0.here hx rfl (pc0 := 30) (pc' := 42) rfl (hb hby d3_30) rfl (flt c30_25).2.2.2 (by decide) (by decide) ks_) ?_
        refine go (u' := s₁.setTop (mkF m 44 #[.val (.int p0), .val (.int p1), .val (.int p2), .val (.int p3), .val (.int p4), .val (.int (0 : Int32))] [(.int (0 : Int32))])) (fun _ ks_ => XS.iload X0.here hx rfl (hb hby d3_42) rfl  ks_) ?_
        rw [hG]
        refine gI X0 hx hlk hret (hb hby d3_44) ?_ (Nat.le_of_ble_eq_true rfl) (Nat.le_of_ble_eq_true rfl)
        show Q_rm3 Z p0 p1 p2 p3 p4 h0 n0 (some (.int (0 : Int32))) s₁.heap _
        rw [e0]
        exact ⟨congrArg (fun z => some (Value.int z)) ((((if_neg c4_1).trans (if_neg c17_19)).trans (if_neg c30_25))).symm, N0, rfl⟩
theorem pd__40_IIIII_41_I : parseMethodDescriptor "(IIIII)I" = some ⟨[.int, .int, .int, .int, .int], some .int⟩ := by decide +kernel
theorem pn_com_example_chartwright_chartwright_parse_ChartGrammarStartsPinLaw_ok_2 : plainFor (⟨"com/example/chartwright/chartwright/parse/ChartGrammarStartsPinLaw", "ok", "([IIIIIII)Z"⟩ : MethodName) = true := by first | exact plainFor_of_name (by first | (simp [plainName, overriddenIn]; done) | decide +kernel) | decide +kernel
def Q_rm2 (Z : State) (o0 : Addr) (p1 : Int32) (p2 : Int32) (p3 : Int32) (p4 : Int32) (p5 : Int32) (p6 : Int32) (N : Nat) (f : Nat → Int32) (h0 : Heap) (n0 : Nat) (v : Option Value) (h : Heap) (L : List Loc) : Prop := v = some (.int (B ((p2 < p1) ∨ ((f p1.toNatClampNeg) = (own_below p1 p3 p4 p5 p6))))) ∧ Fr n0 L ∧ h = h0
set_option maxRecDepth 65536 in
set_option maxHeartbeats 4000000 in
theorem ef_rm2 (m : MethodId) (o0 : Addr) (p1 : Int32) (p2 : Int32) (p3 : Int32) (p4 : Int32) (p5 : Int32) (p6 : Int32) : entryFrame m #[(.ref o0), (.int p1), (.int p2), (.int p3), (.int p4), (.int p5), (.int p6)] 7 = mkF m 0 #[.val (.ref o0), .val (.int p1), .val (.int p2), .val (.int p3), .val (.int p4), .val (.int p5), .val (.int p6)] [] := by first | (simp [entryFrame, mkF, argsToLocals, Value.category, maxLocals]; done) | rfl
theorem d2_0 : decode method_3_code 0 = .ok (.iload_n 1, 1) := by decide +kernel
theorem d2_1 : decode method_3_code 1 = .ok (.iload_n 2, 1) := by decide +kernel
theorem d2_2 : decode method_3_code 2 = .ok (.if_icmp .gt 20, 3) := by decide +kernel
theorem d2_5 : decode method_3_code 5 = .ok (.aload_n 0, 1) := by decide +kernel
theorem d2_6 : decode method_3_code 6 = .ok (.iload_n 1, 1) := by decide +kernel
theorem d2_7 : decode method_3_code 7 = .ok (.iaload, 1) := by decide +kernel
theorem d2_8 : decode method_3_code 8 = .ok (.iload_n 1, 1) := by decide +kernel
theorem d2_9 : decode method_3_code 9 = .ok (.iload_n 3, 1) := by decide +kernel
theorem d2_10 : decode method_3_code 10 = .ok (.iload 4, 2) := by decide +kernel
theorem d2_12 : decode method_3_code 12 = .ok (.iload 5, 2) := by decide +kernel
theorem d2_14 : decode method_3_code 14 = .ok (.iload 6, 2) := by decide +kernel
theorem d2_16 : decode method_3_code 16 = .ok (.invokestatic 20, 3) := by decide +kernel
theorem d2_19 : decode method_3_code 19 = .ok (.if_icmp .ne 7, 3) := by decide +kernel
theorem d2_22 : decode method_3_code 22 = .ok (.iconst 1, 1) := by decide +kernel
theorem d2_23 : decode method_3_code 23 = .ok (.goto 4, 3) := by decide +kernel
theorem d2_26 : decode method_3_code 26 = .ok (.iconst 0, 1) := by decide +kernel
theorem d2_27 : decode method_3_code 27 = .ok (.ireturn, 1) := by decide +kernel
set_option maxRecDepth 65536 in
set_option maxHeartbeats 40000000 in
theorem rm2 (l : Launch) (Z : State) (a0 : Array Value) (hw : ∀ d ∈ tables_1, d.before a0 Z = true) (ws : List Jvm.Cond) (o0 : Addr) (p1 : Int32) (p2 : Int32) (p3 : Int32) (p4 : Int32) (p5 : Int32) (p6 : Int32) (N : Nat) (f : Nat → Int32) (h0 : Heap) (n0 : Nat) (Z0 : n0 ≤ h0.size) (F0 : PI Z h0 o0 .int N f) (hin : ¬ p2 < p1 → (¬ p1 < 0 ∧ p1.toNatClampNeg < N)) :
    MetFree l (⟨"com/example/chartwright/chartwright/parse/ChartGrammarStartsPinLaw", "ok", "([IIIIIII)Z"⟩ : MethodName) (head1 (Jvm.Cond.code (⟨"com/example/chartwright/chartwright/parse/ChartGrammarStartsPinLaw", "ok", "([IIIIIII)Z"⟩ : MethodName) method_3_code 7 (some .boolean) :: ws) ({ frames := 1, cells := 0, slots := 0, locals := 18 } : Room)) (fun a U => a = #[(.ref o0), (.int p1), (.int p2), (.int p3), (.int p4), (.int p5), (.int p6)] ∧ Z.Warmed39 U.vm ∧ U.heap = h0) (fun _ _ _ _ _ => True) (fun _ U o U' => ∃ v L, o = .returned v ∧ Q_rm2 Z o0 p1 p2 p3 p4 p5 p6 N f h0 n0 v U'.heap L ∧ FrameEnd U o U' L ({ frames := 1, cells := 0, slots := 0, locals := 18 } : Room).cells ({ frames := 1, cells := 0, slots := 0, locals := 18 } : Room).slots) := by
  refine body pn_com_example_chartwright_chartwright_parse_ChartGrammarStartsPinLaw_ok_2 ?_
  intro p e s m below meth c s₁ hx hby hml hown hnm hret hlk hZ e0 X0
  replace hml : c.maxLocals = 7 := hml
  replace hown : s.vm.findClass "com/example/chartwright/chartwright/parse/ChartGrammarStartsPinLaw" = some m.cls := hown
  replace hnm : meth.name = "ok" := hnm
  replace hret : meth.sig.returnType = (some .boolean) := hret
  have N0 := Fr.nil n0
  rw [ef_rm2]
  obtain ⟨G, hG⟩ : ∃ G, G = End (Q_rm2 Z o0 p1 p2 p3 p4 p5 p6 N f h0 n0) s ({ frames := 1, cells := 0, slots := 0, locals := 18 } : Room).cells ({ frames := 1, cells := 0, slots := 0, locals := 18 } : Room).slots := ⟨_, rfl⟩
  rw [← hG]
  refine go (u' := s₁.setTop (mkF m 1 #[.val (.ref o0), .val (.int p1), .val (.int p2), .val (.int p3), .val (.int p4), .val (.int p5), .val (.int p6)] [(.int p1)])) (fun _ ks_ => XS.iloadN X0.here hx rfl (hb hby d2_0) rfl  ks_) ?_
  refine go (u' := s₁.setTop (mkF m 2 #[.val (.ref o0), .val (.int p1), .val (.int p2), .val (.int p3), .val (.int p4), .val (.int p5), .val (.int p6)] [(.int p2), (.int p1)])) (fun _ ks_ => XS.iloadN X0.here hx rfl (hb hby d2_1) rfl  ks_) ?_
  by_cases c2_1 : p2 < p1
  ·
    refine go (u' := s₁.setTop (mkF m 22 #[.val (.ref o0), .val (.int p1), .val (.int p2), .val (.int p3), .val (.int p4), .val (.int p5), .val (.int p6)] [])) (fun _ ks_ => XS.icmpYes X0.here hx rfl (pc0 := 2) (pc' := 22) rfl (hb hby d2_2) rfl (tlt c2_1).2.2.1 (by decide) (by decide) ks_) ?_
    refine go (u' := s₁.setTop (mkF m 23 #[.val (.ref o0), .val (.int p1), .val (.int p2), .val (.int p3), .val (.int p4), .val (.int p5), .val (.int p6)] [(.int (1 : Int32))])) (fun _ ks_ => XS.iconst X0.here hx rfl (hb hby d2_22) ks_) ?_
    refine go (u' := s₁.setTop (mkF m 27 #[.val (.ref o0), .val (.int p1), .val (.int p2), .val (.int p3), .val (.int p4), .val (.int p5), .val (.int p6)] [(.int (1 : Int32))])) (fun _ ks_ => XS.goto X0.here hx rfl (pc0 := 23) (pc' := 27) rfl (hb hby d2_23) (by decide) (by decide) ks_) ?_
    rw [hG]
    refine gN X0 hx hlk (t := .boolean) hret (by simp) rfl (hb hby d2_27) ?_ (Nat.le_of_ble_eq_true rfl) (Nat.le_of_ble_eq_true rfl)
    show Q_rm2 Z o0 p1 p2 p3 p4 p5 p6 N f h0 n0 (some (.int (1 : Int32))) s₁.heap _
    rw [e0]
    exact ⟨congrArg (fun z => some (Value.int z)) (B1 (Or.inl c2_1)), N0, rfl⟩
  ·
    refine go (u' := s₁.setTop (mkF m 5 #[.val (.ref o0), .val (.int p1), .val (.int p2), .val (.int p3), .val (.int p4), .val (.int p5), .val (.int p6)] [])) (fun _ ks_ => XS.icmpNo X0.here hx rfl (hb hby d2_2) rfl (flt c2_1).2.2.1 ks_) ?_
    refine go (u' := s₁.setTop (mkF m 6 #[.val (.ref o0), .val (.int p1), .val (.int p2), .val (.int p3), .val (.int p4), .val (.int p5), .val (.int p6)] [(.ref o0)])) (fun _ ks_ => XS.aloadN X0.here hx rfl (hb hby d2_5) rfl rfl ks_) ?_
    refine go (u' := s₁.setTop (mkF m 7 #[.val (.ref o0), .val (.int p1), .val (.int p2), .val (.int p3), .val (.int p4), .val (.int p5), .val (.int p6)] [(.int p1), (.ref o0)])) (fun _ ks_ => XS.iloadN X0.here hx rfl (hb hby d2_6) rfl  ks_) ?_
    refine go (u' := s₁.setTop (mkF m 8 #[.val (.ref o0), .val (.int p1), .val (.int p2), .val (.int p3), .val (.int p4), .val (.int p5), .val (.int p6)] [(.int (f p1.toNatClampNeg))])) (own_iaload X0 hx hZ e0 F0 (j := p1) (v := (f p1.toNatClampNeg)) (hin c2_1).1 (hin c2_1).2 rfl (f := (mkF m 7 #[.val (.ref o0), .val (.int p1), .val (.int p2), .val (.int p3), .val (.int p4), .val (.int p5), .val (.int p6)] [(.int p1), (.ref o0)])) rfl rfl (hb hby d2_7)) ?_
    refine go (u' := s₁.setTop (mkF m 9 #[.val (.ref o0), .val (.int p1), .val (.int p2), .val (.int p3), .val (.int p4), .val (.int p5), .val (.int p6)] [(.int p1), (.int (f p1.toNatClampNeg))])) (fun _ ks_ => XS.iloadN X0.here hx rfl (hb hby d2_8) rfl  ks_) ?_
    refine go (u' := s₁.setTop (mkF m 10 #[.val (.ref o0), .val (.int p1), .val (.int p2), .val (.int p3), .val (.int p4), .val (.int p5), .val (.int p6)] [(.int p3), (.int p1), (.int (f p1.toNatClampNeg))])) (fun _ ks_ => XS.iloadN X0.here hx rfl (hb hby d2_9) rfl  ks_) ?_
    refine go (u' := s₁.setTop (mkF m 12 #[.val (.ref o0), .val (.int p1), .val (.int p2), .val (.int p3), .val (.int p4), .val (.int p5), .val (.int p6)] [(.int p4), (.int p3), (.int p1), (.int (f p1.toNatClampNeg))])) (fun _ ks_ => XS.iload X0.here hx rfl (hb hby d2_10) rfl  ks_) ?_
    refine go (u' := s₁.setTop (mkF m 14 #[.val (.ref o0), .val (.int p1), .val (.int p2), .val (.int p3), .val (.int p4), .val (.int p5), .val (.int p6)] [(.int p5), (.int p4), (.int p3), (.int p1), (.int (f p1.toNatClampNeg))])) (fun _ ks_ => XS.iload X0.here hx rfl (hb hby d2_12) rfl  ks_) ?_
    refine go (u' := s₁.setTop (mkF m 16 #[.val (.ref o0), .val (.int p1), .val (.int p2), .val (.int p3), .val (.int p4), .val (.int p5), .val (.int p6)] [(.int p6), (.int p5), (.int p4), (.int p3), (.int p1), (.int (f p1.toNatClampNeg))])) (fun _ ks_ => XS.iload X0.here hx rfl (hb hby d2_14) rfl  ks_) ?_
    obtain ⟨_, _, ⟨T1, L1, k1, n1⟩, -, X1, ⟨Lc1, hQ1, l1, y1, z1⟩, st1⟩ := Jvm.LawKit.callS X0 hx (y := (⟨"com/example/chartwright/chartwright/parse/ChartGrammarStartsPinLaw", "below", "(IIIII)I"⟩ : MethodName)) hown (mvT hZ (ww hw 9 rfl)) (mvT hZ (ww hw 10 rfl)) (mvT hZ (ww hw 7 rfl)) (mvT hZ (ww hw 11 rfl)) (by decide) (backOf (W := 1) (rm3 l Z a0 hw [] p1 p3 p4 p5 p6 h0 n0 Z0) hZ (ww hw 11 rfl) (ww hw 7 rfl) (by decide) (by decide)) (g := (mkF m 16 #[.val (.ref o0), .val (.int p1), .val (.int p2), .val (.int p3), .val (.int p4), .val (.int p5), .val (.int p6)] [(.int p6), (.int p5), (.int p4), (.int p3), (.int p1), (.int (f p1.toNatClampNeg))])) rfl (by rw [hml]; rfl) (argsL := [(.int p1), (.int p3), (.int p4), (.int p5), (.int p6)]) (rest := [(.int (f p1.toNatClampNeg))]) (lenOf pd__40_IIIII_41_I rfl) rfl (by show 2 * 0 + _ ≤ _; exact Nat.le_of_eq rfl) (hb hby d2_16) (fun _ _ => ⟨rfl, e0, (by decide : 0 + 0 ≤ _), (by decide : 0 + 0 ≤ _)⟩)
    dsimp only [Pt.U, Pt.locs, Pt.cells, Pt.slots] at X1 l1 y1 z1 st1 hQ1
    subst l1 y1 z1
    obtain ⟨rfl, N1q, eq1⟩ := hQ1
    have N1 := Fr.app N0 N1q
    refine go (u' := T1.setTop (mkF m 19 #[.val (.ref o0), .val (.int p1), .val (.int p2), .val (.int p3), .val (.int p4), .val (.int p5), .val (.int p6)] [(.int (own_below p1 p3 p4 p5 p6)), (.int (f p1.toNatClampNeg))])) st1 ?_
    by_cases c19_2 : (f p1.toNatClampNeg) = (own_below p1 p3 p4 p5 p6)
    ·
      refine go (u' := T1.setTop (mkF m 22 #[.val (.ref o0), .val (.int p1), .val (.int p2), .val (.int p3), .val (.int p4), .val (.int p5), .val (.int p6)] [])) (fun _ ks_ => XS.icmpNo X1.here hx rfl (hb hby d2_19) rfl (teq c19_2).2 ks_) ?_
      refine go (u' := T1.setTop (mkF m 23 #[.val (.ref o0), .val (.int p1), .val (.int p2), .val (.int p3), .val (.int p4), .val (.int p5), .val (.int p6)] [(.int (1 : Int32))])) (fun _ ks_ => XS.iconst X1.here hx rfl (hb hby d2_22) ks_) ?_
      refine go (u' := T1.setTop (mkF m 27 #[.val (.ref o0), .val (.int p1), .val (.int p2), .val (.int p3), .val (.int p4), .val (.int p5), .val (.int p6)] [(.int (1 : Int32))])) (fun _ ks_ => XS.goto X1.here hx rfl (pc0 := 23) (pc' := 27) rfl (hb hby d2_23) (by decide) (by decide) ks_) ?_
      rw [hG]
      refine gN X1 hx hlk (t := .boolean) hret (by simp) rfl (hb hby d2_27) ?_ (Nat.le_of_ble_eq_true rfl) (Nat.le_of_ble_eq_true rfl)
      show Q_rm2 Z o0 p1 p2 p3 p4 p5 p6 N f h0 n0 (some (.int (1 : Int32))) T1.heap _
      rw [eq1]
      exact ⟨congrArg (fun z => some (Value.int z)) (B1 (Or.inr c19_2)), N1, rfl⟩
    ·
      refine go (u' := T1.setTop (mkF m 26 #[.val (.ref o0), .val (.int p1), .val (.int p2), .val (.int p3), .val (.int p4), .val (.int p5), .val (.int p6)] [])) (fun _ ks_ => XS.icmpYes X1.here hx rfl (pc0 := 19) (pc' := 26) rfl (hb hby d2_19) rfl (feq c19_2).2 (by decide) (by decide) ks_) ?_
      refine go (u' := T1.setTop (mkF m 27 #[.val (.ref o0), .val (.int p1), .val (.int p2), .val (.int p3), .val (.int p4), .val (.int p5), .val (.int p6)] [(.int (0 : Int32))])) (fun _ ks_ => XS.iconst X1.here hx rfl (hb hby d2_26) ks_) ?_
      rw [hG]
      refine gN X1 hx hlk (t := .boolean) hret (by simp) rfl (hb hby d2_27) ?_ (Nat.le_of_ble_eq_true rfl) (Nat.le_of_ble_eq_true rfl)
      show Q_rm2 Z o0 p1 p2 p3 p4 p5 p6 N f h0 n0 (some (.int (0 : Int32))) T1.heap _
      rw [eq1]
      exact ⟨congrArg (fun z => some (Value.int z)) (B0 (fun q => q.elim c2_1 c19_2)), N1, rfl⟩
theorem pn_com_example_chartwright_chartwright_parse_ChartGrammar_starts_1 : plainFor (⟨"com/example/chartwright/chartwright/parse/ChartGrammar", "starts", "([II)[I"⟩ : MethodName) = true := by first | exact plainFor_of_name (by first | (simp [plainName, overriddenIn]; done) | decide +kernel) | decide +kernel
def Q_rm1 (Z : State) (o0 : Addr) (p1 : Int32) (k : Nat) (ef : Nat → Int32) (h0 : Heap) (n0 : Nat) (v : Option Value) (h : Heap) (L : List Loc) : Prop := ∃ r : Addr, v = some (.ref r) ∧ Fr n0 L ∧ Keep h0 h [] ∧ (PI Z h r .int (p1 + (1 : Int32)).toNatClampNeg (F2 (F1 ef k) p1.toNatClampNeg)) ∧ (h0.size ≤ r)
set_option maxRecDepth 65536 in
set_option maxHeartbeats 4000000 in
theorem ef_rm1 (m : MethodId) (o0 : Addr) (p1 : Int32) : entryFrame m #[(.ref o0), (.int p1)] 7 = mkF m 0 #[.val (.ref o0), .val (.int p1), .unset, .unset, .unset, .unset, .unset] [] := by first | (simp [entryFrame, mkF, argsToLocals, Value.category, maxLocals]; done) | rfl
theorem d1_0 : decode prog_45_method_4_code 0 = .ok (.iload_n 1, 1) := by decide +kernel
theorem d1_1 : decode prog_45_method_4_code 1 = .ok (.iconst 1, 1) := by decide +kernel
theorem d1_2 : decode prog_45_method_4_code 2 = .ok (.iadd, 1) := by decide +kernel
theorem d1_3 : decode prog_45_method_4_code 3 = .ok (.newarray .int, 2) := by decide +kernel
theorem d1_5 : decode prog_45_method_4_code 5 = .ok (.astore_n 2, 1) := by decide +kernel
theorem d1_6 : decode prog_45_method_4_code 6 = .ok (.aload_n 0, 1) := by decide +kernel
theorem d1_7 : decode prog_45_method_4_code 7 = .ok (.astore_n 3, 1) := by decide +kernel
theorem d1_8 : decode prog_45_method_4_code 8 = .ok (.aload_n 3, 1) := by decide +kernel
theorem d1_9 : decode prog_45_method_4_code 9 = .ok (.arraylength, 1) := by decide +kernel
theorem d1_10 : decode prog_45_method_4_code 10 = .ok (.istore 4, 2) := by decide +kernel
theorem d1_12 : decode prog_45_method_4_code 12 = .ok (.iconst 0, 1) := by decide +kernel
theorem d1_13 : decode prog_45_method_4_code 13 = .ok (.istore 5, 2) := by decide +kernel
theorem d1_15 : decode prog_45_method_4_code 15 = .ok (.iload 5, 2) := by decide +kernel
theorem d1_17 : decode prog_45_method_4_code 17 = .ok (.iload 4, 2) := by decide +kernel
theorem d1_19 : decode prog_45_method_4_code 19 = .ok (.if_icmp .ge 25, 3) := by decide +kernel
theorem d1_22 : decode prog_45_method_4_code 22 = .ok (.aload_n 3, 1) := by decide +kernel
theorem d1_23 : decode prog_45_method_4_code 23 = .ok (.iload 5, 2) := by decide +kernel
theorem d1_25 : decode prog_45_method_4_code 25 = .ok (.iaload, 1) := by decide +kernel
theorem d1_26 : decode prog_45_method_4_code 26 = .ok (.istore 6, 2) := by decide +kernel
theorem d1_28 : decode prog_45_method_4_code 28 = .ok (.aload_n 2, 1) := by decide +kernel
theorem d1_29 : decode prog_45_method_4_code 29 = .ok (.iload 6, 2) := by decide +kernel
theorem d1_31 : decode prog_45_method_4_code 31 = .ok (.iconst 1, 1) := by decide +kernel
theorem d1_32 : decode prog_45_method_4_code 32 = .ok (.iadd, 1) := by decide +kernel
theorem d1_33 : decode prog_45_method_4_code 33 = .ok (.dup2, 1) := by decide +kernel
theorem d1_34 : decode prog_45_method_4_code 34 = .ok (.iaload, 1) := by decide +kernel
theorem d1_35 : decode prog_45_method_4_code 35 = .ok (.iconst 1, 1) := by decide +kernel
theorem d1_36 : decode prog_45_method_4_code 36 = .ok (.iadd, 1) := by decide +kernel
theorem d1_37 : decode prog_45_method_4_code 37 = .ok (.iastore, 1) := by decide +kernel
theorem d1_38 : decode prog_45_method_4_code 38 = .ok (.iinc 5 1, 3) := by decide +kernel
theorem d1_41 : decode prog_45_method_4_code 41 = .ok (.goto (-26), 3) := by decide +kernel
theorem d1_44 : decode prog_45_method_4_code 44 = .ok (.iconst 0, 1) := by decide +kernel
theorem d1_45 : decode prog_45_method_4_code 45 = .ok (.istore_n 3, 1) := by decide +kernel
theorem d1_46 : decode prog_45_method_4_code 46 = .ok (.iload_n 3, 1) := by decide +kernel
theorem d1_47 : decode prog_45_method_4_code 47 = .ok (.iload_n 1, 1) := by decide +kernel
theorem d1_48 : decode prog_45_method_4_code 48 = .ok (.if_icmp .ge 20, 3) := by decide +kernel
theorem d1_51 : decode prog_45_method_4_code 51 = .ok (.aload_n 2, 1) := by decide +kernel
theorem d1_52 : decode prog_45_method_4_code 52 = .ok (.iload_n 3, 1) := by decide +kernel
theorem d1_53 : decode prog_45_method_4_code 53 = .ok (.iconst 1, 1) := by decide +kernel
theorem d1_54 : decode prog_45_method_4_code 54 = .ok (.iadd, 1) := by decide +kernel
theorem d1_55 : decode prog_45_method_4_code 55 = .ok (.dup2, 1) := by decide +kernel
theorem d1_56 : decode prog_45_method_4_code 56 = .ok (.iaload, 1) := by decide +kernel
theorem d1_57 : decode prog_45_method_4_code 57 = .ok (.aload_n 2, 1) := by decide +kernel
theorem d1_58 : decode prog_45_method_4_code 58 = .ok (.iload_n 3, 1) := by decide +kernel
theorem d1_59 : decode prog_45_method_4_code 59 = .ok (.iaload, 1) := by decide +kernel
theorem d1_60 : decode prog_45_method_4_code 60 = .ok (.iadd, 1) := by decide +kernel
theorem d1_61 : decode prog_45_method_4_code 61 = .ok (.iastore, 1) := by decide +kernel
theorem d1_62 : decode prog_45_method_4_code 62 = .ok (.iinc 3 1, 3) := by decide +kernel
theorem d1_65 : decode prog_45_method_4_code 65 = .ok (.goto (-19), 3) := by decide +kernel
theorem d1_68 : decode prog_45_method_4_code 68 = .ok (.aload_n 2, 1) := by decide +kernel
theorem d1_69 : decode prog_45_method_4_code 69 = .ok (.areturn, 1) := by decide +kernel
set_option maxRecDepth 65536 in
set_option maxHeartbeats 40000000 in
theorem rm1 (l : Launch) (Z : State) (a0 : Array Value) (hw : ∀ d ∈ tables_1, d.before a0 Z = true) (ws : List Jvm.Cond) (o0 : Addr) (p1 : Int32) (k : Nat) (ef : Nat → Int32) (h0 : Heap) (n0 : Nat) (Z0 : n0 ≤ h0.size) (F0 : PI Z h0 o0 .int k ef) (hk : 0 ≤ p1.toInt ∧ p1.toInt ≤ 4) (he : ∀ i, i < k → 0 ≤ (ef i).toInt ∧ (ef i).toInt < p1.toInt) :
    MetFree l (⟨"com/example/chartwright/chartwright/parse/ChartGrammar", "starts", "([II)[I"⟩ : MethodName) (head1 (Jvm.Cond.code (⟨"com/example/chartwright/chartwright/parse/ChartGrammar", "starts", "([II)[I"⟩ : MethodName) prog_45_method_4_code 7 (some (.array .int)) :: ws) ({ frames := 0, cells := 1, slots := 5, locals := 0 } : Room)) (fun a U => a = #[(.ref o0), (.int p1)] ∧ Z.Warmed39 U.vm ∧ U.heap = h0) (fun _ _ _ _ _ => True) (fun _ U o U' => ∃ v L, o = .returned v ∧ Q_rm1 Z o0 p1 k ef h0 n0 v U'.heap L ∧ FrameEnd U o U' L ({ frames := 0, cells := 1, slots := 5, locals := 0 } : Room).cells ({ frames := 0, cells := 1, slots := 5, locals := 0 } : Room).slots) := by
  refine body pn_com_example_chartwright_chartwright_parse_ChartGrammar_starts_1 ?_
  intro p e s m below meth c s₁ hx hby hml hown hnm hret hlk hZ e0 X0
  replace hml : c.maxLocals = 7 := hml
  replace hown : s.vm.findClass "com/example/chartwright/chartwright/parse/ChartGrammar" = some m.cls := hown
  replace hnm : meth.name = "starts" := hnm
  replace hret : meth.sig.returnType = (some (.array .int)) := hret
  have N0 := Fr.nil n0
  rw [ef_rm1]
  obtain ⟨G, hG⟩ : ∃ G, G = End (Q_rm1 Z o0 p1 k ef h0 n0) s ({ frames := 0, cells := 1, slots := 5, locals := 0 } : Room).cells ({ frames := 0, cells := 1, slots := 5, locals := 0 } : Room).slots := ⟨_, rfl⟩
  rw [← hG]
  refine go (u' := s₁.setTop (mkF m 1 #[.val (.ref o0), .val (.int p1), .unset, .unset, .unset, .unset, .unset] [(.int p1)])) (fun _ ks_ => XS.iloadN X0.here hx rfl (hb hby d1_0) rfl  ks_) ?_
  refine go (u' := s₁.setTop (mkF m 2 #[.val (.ref o0), .val (.int p1), .unset, .unset, .unset, .unset, .unset] [(.int (1 : Int32)), (.int p1)])) (fun _ ks_ => XS.iconst X0.here hx rfl (hb hby d1_1) ks_) ?_
  refine go (u' := s₁.setTop (mkF m 3 #[.val (.ref o0), .val (.int p1), .unset, .unset, .unset, .unset, .unset] [(.int (p1 + (1 : Int32)))])) (fun _ ks_ => XS.iadd X0.here hx rfl (hb hby d1_2) rfl ks_) ?_
  obtain ⟨T1, h1, k1, X1, e1, E1, A1, st1⟩ := newP X0 hx hZ (ww hw 0 rfl) e0 (g := (mkF m 3 #[.val (.ref o0), .val (.int p1), .unset, .unset, .unset, .unset, .unset] [(.int (p1 + (1 : Int32)))])) rfl (hb hby d1_3) rfl (own_k1 hk).1 (cap := 5) (own_k1 hk).2.1 (by decide) (by decide) (by decide)
  obtain ⟨b1, g1⟩ : ∃ z, z = h0.size := ⟨_, rfl⟩
  rw [← g1] at A1 st1
  have ne_o0_b1 : o0 ≠ b1 := Nat.ne_of_lt (Nat.lt_of_lt_of_le F0.lt (Nat.le_of_eq g1.symm))
  have g_b1 : n0 ≤ b1 := Nat.le_trans Z0 (Nat.le_of_eq g1.symm)
  have sz_b1 : h0.size ≤ b1 := Nat.le_trans (Keep.refl h0 []).1 (Nat.le_of_eq g1.symm)
  have K1 : Keep h0 h1 [] := (Keep.refl h0 []).ext E1
  have Fa2 : PI Z h1 o0 .int k ef := F0.ext E1
  have Z1 : n0 ≤ h1.size := Nat.le_trans Z0 E1.1
  have Fa3 : PI Z h1 b1 .int (p1 + (1 : Int32)).toNatClampNeg (fun _ => 0) := PI.new A1 (own_k1 hk).1 rfl
  refine go (u' := T1.setTop (mkF m 5 #[.val (.ref o0), .val (.int p1), .unset, .unset, .unset, .unset, .unset] [(.ref b1)])) st1 ?_
  refine go (u' := T1.setTop (mkF m 6 #[.val (.ref o0), .val (.int p1), .val (.ref b1), .unset, .unset, .unset, .unset] [])) (fun _ ks_ => XS.astoreN X1.here hx rfl (hb hby d1_5) rfl rfl (l' := #[.val (.ref o0), .val (.int p1), .val (.ref b1), .unset, .unset, .unset, .unset]) rfl ks_) ?_
  refine go (u' := T1.setTop (mkF m 7 #[.val (.ref o0), .val (.int p1), .val (.ref b1), .unset, .unset, .unset, .unset] [(.ref o0)])) (fun _ ks_ => XS.aloadN X1.here hx rfl (hb hby d1_6) rfl rfl ks_) ?_
  refine go (u' := T1.setTop (mkF m 8 #[.val (.ref o0), .val (.int p1), .val (.ref b1), .val (.ref o0), .unset, .unset, .unset] [])) (fun _ ks_ => XS.astoreN X1.here hx rfl (hb hby d1_7) rfl rfl (l' := #[.val (.ref o0), .val (.int p1), .val (.ref b1), .val (.ref o0), .unset, .unset, .unset]) rfl ks_) ?_
  refine go (u' := T1.setTop (mkF m 9 #[.val (.ref o0), .val (.int p1), .val (.ref b1), .val (.ref o0), .unset, .unset, .unset] [(.ref o0)])) (fun _ ks_ => XS.aloadN X1.here hx rfl (hb hby d1_8) rfl rfl ks_) ?_
  refine go (u' := T1.setTop (mkF m 10 #[.val (.ref o0), .val (.int p1), .val (.ref b1), .val (.ref o0), .unset, .unset, .unset] [(.int k.toInt32)])) (own_alen X1 hx hZ e1 Fa2 (z := k.toInt32) rfl (f := (mkF m 9 #[.val (.ref o0), .val (.int p1), .val (.ref b1), .val (.ref o0), .unset, .unset, .unset] [(.ref o0)])) rfl rfl (hb hby d1_9)) ?_
  refine go (u' := T1.setTop (mkF m 12 #[.val (.ref o0), .val (.int p1), .val (.ref b1), .val (.ref o0), .val (.int k.toInt32), .unset, .unset] [])) (fun _ ks_ => XS.istore X1.here hx rfl (hb hby d1_10) rfl  (l' := #[.val (.ref o0), .val (.int p1), .val (.ref b1), .val (.ref o0), .val (.int k.toInt32), .unset, .unset]) rfl ks_) ?_
  refine go (u' := T1.setTop (mkF m 13 #[.val (.ref o0), .val (.int p1), .val (.ref b1), .val (.ref o0), .val (.int k.toInt32), .unset, .unset] [(.int (0 : Int32))])) (fun _ ks_ => XS.iconst X1.here hx rfl (hb hby d1_12) ks_) ?_
  refine go (u' := T1.setTop (mkF m 15 #[.val (.ref o0), .val (.int p1), .val (.ref b1), .val (.ref o0), .val (.int k.toInt32), .val (.int (0 : Int32)), .unset] [])) (fun _ ks_ => XS.istore X1.here hx rfl (hb hby d1_13) rfl  (l' := #[.val (.ref o0), .val (.int p1), .val (.ref b1), .val (.ref o0), .val (.int k.toInt32), .val (.int (0 : Int32)), .unset]) rfl ks_) ?_
  have C15_1 : ∀ (t : Nat) (i : Int32) (fc : Nat → Int32) (s6 : Slot) (T4 : State) (h4 : Heap) (Ls4 : List Loc), (Stand p l e ({ frames := 0, cells := 1, slots := 5, locals := 0 } : Room) s m #[(.ref o0), (.int p1)] below meth c T4 Ls4 1 5) → (T4.heap = h4) → (Fr n0 Ls4) → (n0 ≤ h4.size) → (Keep h0 h4 []) → (PI Z h4 b1 .int (p1 + (1 : Int32)).toNatClampNeg fc) → (PI Z h4 o0 .int k ef) → (0 ≤ i.toInt ∧ i.toInt + (t : Nat) = k) → (fc = F1 ef (k - t)) → (One s6) → Go p.tables e below G (T4.setTop (mkF m 15 #[.val (.ref o0), .val (.int p1), .val (.ref b1), .val (.ref o0), .val (.int k.toInt32), .val (.int i), s6] [])) := by
    intro t
    induction t with
    | zero =>
      intro i fc s6 T4 h4 Ls4 X4 e4 N4 Z4 K4 F4_0 F4_1 hi hfc hs6
      rw [Nat.sub_zero] at hfc
      refine go (u' := T4.setTop (mkF m 17 #[.val (.ref o0), .val (.int p1), .val (.ref b1), .val (.ref o0), .val (.int k.toInt32), .val (.int i), s6] [(.int i)])) (fun _ ks_ => XS.iload X4.here hx rfl (hb hby d1_15) rfl  ks_) ?_
      refine go (u' := T4.setTop (mkF m 19 #[.val (.ref o0), .val (.int p1), .val (.ref b1), .val (.ref o0), .val (.int k.toInt32), .val (.int i), s6] [(.int k.toInt32), (.int i)])) (fun _ ks_ => XS.iload X4.here hx rfl (hb hby d1_17) rfl  ks_) ?_
      refine go (u' := T4.setTop (mkF m 44 #[.val (.ref o0), .val (.int p1), .val (.ref b1), .val (.ref o0), .val (.int k.toInt32), .val (.int i), s6] [])) (fun _ ks_ => XS.icmpYes X4.here hx rfl (pc0 := 19) (pc' := 44) rfl (hb hby d1_19) rfl (flt (show ¬ (i < k.toInt32) from (own_iz F0.bound hi))).2.1 (by decide) (by decide) ks_) ?_
      refine go (u' := T4.setTop (mkF m 45 #[.val (.ref o0), .val (.int p1), .val (.ref b1), .val (.ref o0), .val (.int k.toInt32), .val (.int i), s6] [(.int (0 : Int32))])) (fun _ ks_ => XS.iconst X4.here hx rfl (hb hby d1_44) ks_) ?_
      refine go (u' := T4.setTop (mkF m 46 #[.val (.ref o0), .val (.int p1), .val (.ref b1), .val (.int (0 : Int32)), .val (.int k.toInt32), .val (.int i), s6] [])) (fun _ ks_ => XS.istoreN X4.here hx rfl (hb hby d1_45) rfl  (l' := #[.val (.ref o0), .val (.int p1), .val (.ref b1), .val (.int (0 : Int32)), .val (.int k.toInt32), .val (.int i), s6]) rfl ks_) ?_
      have C46_2 : ∀ (t2 : Nat) (u : Int32) (gc : Nat → Int32) (T5 : State) (h5 : Heap) (Ls5 : List Loc), (Stand p l e ({ frames := 0, cells := 1, slots := 5, locals := 0 } : Room) s m #[(.ref o0), (.int p1)] below meth c T5 Ls5 1 5) → (T5.heap = h5) → (Fr n0 Ls5) → (n0 ≤ h5.size) → (Keep h0 h5 []) → (PI Z h5 b1 .int (p1 + (1 : Int32)).toNatClampNeg gc) → (PI Z h5 o0 .int k ef) → (0 ≤ u.toInt ∧ u.toInt + (t2 : Nat) = p1.toInt) → (gc = F2 (F1 ef k) (p1.toNatClampNeg - t2)) → Go p.tables e below G (T5.setTop (mkF m 46 #[.val (.ref o0), .val (.int p1), .val (.ref b1), .val (.int u), .val (.int k.toInt32), .val (.int i), s6] [])) := by
        intro t2
        induction t2 with
        | zero =>
          intro u gc T5 h5 Ls5 X5 e5 N5 Z5 K5 F5_0 F5_1 hu hgc
          rw [Nat.sub_zero] at hgc
          refine go (u' := T5.setTop (mkF m 47 #[.val (.ref o0), .val (.int p1), .val (.ref b1), .val (.int u), .val (.int k.toInt32), .val (.int i), s6] [(.int u)])) (fun _ ks_ => XS.iloadN X5.here hx rfl (hb hby d1_46) rfl  ks_) ?_
          refine go (u' := T5.setTop (mkF m 48 #[.val (.ref o0), .val (.int p1), .val (.ref b1), .val (.int u), .val (.int k.toInt32), .val (.int i), s6] [(.int p1), (.int u)])) (fun _ ks_ => XS.iloadN X5.here hx rfl (hb hby d1_47) rfl  ks_) ?_
          refine go (u' := T5.setTop (mkF m 68 #[.val (.ref o0), .val (.int p1), .val (.ref b1), .val (.int u), .val (.int k.toInt32), .val (.int i), s6] [])) (fun _ ks_ => XS.icmpYes X5.here hx rfl (pc0 := 48) (pc' := 68) rfl (hb hby d1_48) rfl (flt (show ¬ (u < p1) from (own_u0 hu))).2.1 (by decide) (by decide) ks_) ?_
          refine go (u' := T5.setTop (mkF m 69 #[.val (.ref o0), .val (.int p1), .val (.ref b1), .val (.int u), .val (.int k.toInt32), .val (.int i), s6] [(.ref b1)])) (fun _ ks_ => XS.aloadN X5.here hx rfl (hb hby d1_68) rfl rfl ks_) ?_
          rw [hG]
          refine gA X5 hx hlk hret rfl rfl (hb hby d1_69) ?_ (Nat.le_of_ble_eq_true rfl) (Nat.le_of_ble_eq_true rfl)
          show Q_rm1 Z o0 p1 k ef h0 n0 (some (.ref b1)) T5.heap _
          rw [e5]
          exact ⟨b1, rfl, N5, K5, (own_Gto F5_0 hgc), sz_b1⟩
        | succ t2 ih46 =>
          intro u gc T5 h5 Ls5 X5 e5 N5 Z5 K5 F5_0 F5_1 hu hgc
          have hu1 := own_u hk hu
          refine go (u' := T5.setTop (mkF m 47 #[.val (.ref o0), .val (.int p1), .val (.ref b1), .val (.int u), .val (.int k.toInt32), .val (.int i), s6] [(.int u)])) (fun _ ks_ => XS.iloadN X5.here hx rfl (hb hby d1_46) rfl  ks_) ?_
          refine go (u' := T5.setTop (mkF m 48 #[.val (.ref o0), .val (.int p1), .val (.ref b1), .val (.int u), .val (.int k.toInt32), .val (.int i), s6] [(.int p1), (.int u)])) (fun _ ks_ => XS.iloadN X5.here hx rfl (hb hby d1_47) rfl  ks_) ?_
          refine go (u' := T5.setTop (mkF m 51 #[.val (.ref o0), .val (.int p1), .val (.ref b1), .val (.int u), .val (.int k.toInt32), .val (.int i), s6] [])) (fun _ ks_ => XS.icmpNo X5.here hx rfl (hb hby d1_48) rfl (tlt hu1.1).2.1 ks_) ?_
          refine go (u' := T5.setTop (mkF m 52 #[.val (.ref o0), .val (.int p1), .val (.ref b1), .val (.int u), .val (.int k.toInt32), .val (.int i), s6] [(.ref b1)])) (fun _ ks_ => XS.aloadN X5.here hx rfl (hb hby d1_51) rfl rfl ks_) ?_
          refine go (u' := T5.setTop (mkF m 53 #[.val (.ref o0), .val (.int p1), .val (.ref b1), .val (.int u), .val (.int k.toInt32), .val (.int i), s6] [(.int u), (.ref b1)])) (fun _ ks_ => XS.iloadN X5.here hx rfl (hb hby d1_52) rfl  ks_) ?_
          refine go (u' := T5.setTop (mkF m 54 #[.val (.ref o0), .val (.int p1), .val (.ref b1), .val (.int u), .val (.int k.toInt32), .val (.int i), s6] [(.int (1 : Int32)), (.int u), (.ref b1)])) (fun _ ks_ => XS.iconst X5.here hx rfl (hb hby d1_53) ks_) ?_
          refine go (u' := T5.setTop (mkF m 55 #[.val (.ref o0), .val (.int p1), .val (.ref b1), .val (.int u), .val (.int k.toInt32), .val (.int i), s6] [(.int (u + (1 : Int32))), (.ref b1)])) (fun _ ks_ => XS.iadd X5.here hx rfl (hb hby d1_54) rfl ks_) ?_
          refine go (u' := T5.setTop (mkF m 56 #[.val (.ref o0), .val (.int p1), .val (.ref b1), .val (.int u), .val (.int k.toInt32), .val (.int i), s6] [(.int (u + (1 : Int32))), (.ref b1), (.int (u + (1 : Int32))), (.ref b1)])) (fun _ ks_ => Jvm.Free.XT.dup2 X5.here hx rfl (hb hby d1_55) rfl rfl rfl ks_) ?_
          refine go (u' := T5.setTop (mkF m 57 #[.val (.ref o0), .val (.int p1), .val (.ref b1), .val (.int u), .val (.int k.toInt32), .val (.int i), s6] [(.int (gc (u + (1 : Int32)).toNatClampNeg)), (.int (u + (1 : Int32))), (.ref b1)])) (own_iaload X5 hx hZ e5 F5_0 (j := (u + (1 : Int32))) (v := (gc (u + (1 : Int32)).toNatClampNeg)) (own_nn hu1.2.1.1) (own_lt hu1.2.1.1 hu1.2.1.2) rfl (f := (mkF m 56 #[.val (.ref o0), .val (.int p1), .val (.ref b1), .val (.int u), .val (.int k.toInt32), .val (.int i), s6] [(.int (u + (1 : Int32))), (.ref b1), (.int (u + (1 : Int32))), (.ref b1)])) rfl rfl (hb hby d1_56)) ?_
          refine go (u' := T5.setTop (mkF m 58 #[.val (.ref o0), .val (.int p1), .val (.ref b1), .val (.int u), .val (.int k.toInt32), .val (.int i), s6] [(.ref b1), (.int (gc (u + (1 : Int32)).toNatClampNeg)), (.int (u + (1 : Int32))), (.ref b1)])) (fun _ ks_ => XS.aloadN X5.here hx rfl (hb hby d1_57) rfl rfl ks_) ?_
          refine go (u' := T5.setTop (mkF m 59 #[.val (.ref o0), .val (.int p1), .val (.ref b1), .val (.int u), .val (.int k.toInt32), .val (.int i), s6] [(.int u), (.ref b1), (.int (gc (u + (1 : Int32)).toNatClampNeg)), (.int (u + (1 : Int32))), (.ref b1)])) (fun _ ks_ => XS.iloadN X5.here hx rfl (hb hby d1_58) rfl  ks_) ?_
          refine go (u' := T5.setTop (mkF m 60 #[.val (.ref o0), .val (.int p1), .val (.ref b1), .val (.int u), .val (.int k.toInt32), .val (.int i), s6] [(.int (gc u.toNatClampNeg)), (.int (gc (u + (1 : Int32)).toNatClampNeg)), (.int (u + (1 : Int32))), (.ref b1)])) (own_iaload X5 hx hZ e5 F5_0 (j := u) (v := (gc u.toNatClampNeg)) (own_nn hu.1) (own_lt hu.1 hu1.2.2.1) rfl (f := (mkF m 59 #[.val (.ref o0), .val (.int p1), .val (.ref b1), .val (.int u), .val (.int k.toInt32), .val (.int i), s6] [(.int u), (.ref b1), (.int (gc (u + (1 : Int32)).toNatClampNeg)), (.int (u + (1 : Int32))), (.ref b1)])) rfl rfl (hb hby d1_59)) ?_
          refine go (u' := T5.setTop (mkF m 61 #[.val (.ref o0), .val (.int p1), .val (.ref b1), .val (.int u), .val (.int k.toInt32), .val (.int i), s6] [(.int ((gc (u + (1 : Int32)).toNatClampNeg) + (gc u.toNatClampNeg))), (.int (u + (1 : Int32))), (.ref b1)])) (fun _ ks_ => XS.iadd X5.here hx rfl (hb hby d1_60) rfl ks_) ?_
          obtain ⟨T6, h6, X6, e6, W6, st6⟩ := own_iastore X5 hx hZ e5 F5_0 (j := (u + (1 : Int32))) (x := ((gc (u + (1 : Int32)).toNatClampNeg) + (gc u.toNatClampNeg)))  (own_nn hu1.2.1.1) (own_lt hu1.2.1.1 hu1.2.1.2) (f := (mkF m 61 #[.val (.ref o0), .val (.int p1), .val (.ref b1), .val (.int u), .val (.int k.toInt32), .val (.int i), s6] [(.int ((gc (u + (1 : Int32)).toNatClampNeg) + (gc u.toNatClampNeg))), (.int (u + (1 : Int32))), (.ref b1)])) rfl rfl (hb hby d1_61)
          have N6 := Fr.snoc X6 N5 g_b1
          have K6 : Keep h0 h6 [] := K5.wr W6 (Or.inr sz_b1)
          have Z6 : n0 ≤ h6.size := Nat.le_trans Z5 (Keep.of_wr W6).1
          have Fa7 : PI Z h6 o0 .int k ef := F5_1.other W6 ne_o0_b1
          have Fa8 : PI Z h6 b1 .int (p1 + (1 : Int32)).toNatClampNeg (upd gc ((u + (1 : Int32))).toNatClampNeg ((gc (u + (1 : Int32)).toNatClampNeg) + (gc u.toNatClampNeg))) := F5_0.set (own_lt hu1.2.1.1 hu1.2.1.2) W6
          refine go (u' := T6.setTop (mkF m 62 #[.val (.ref o0), .val (.int p1), .val (.ref b1), .val (.int u), .val (.int k.toInt32), .val (.int i), s6] [])) st6 ?_
          refine go (u' := T6.setTop (mkF m 65 #[.val (.ref o0), .val (.int p1), .val (.ref b1), .val (.int (u + (1 : Int32))), .val (.int k.toInt32), .val (.int i), s6] [])) (fun _ ks_ => XS.iinc X6.here hx rfl (hb hby d1_62) rfl (l' := #[.val (.ref o0), .val (.int p1), .val (.ref b1), .val (.int (u + (1 : Int32))), .val (.int k.toInt32), .val (.int i), s6]) rfl ks_) ?_
          refine go (u' := T6.setTop (mkF m 46 #[.val (.ref o0), .val (.int p1), .val (.ref b1), .val (.int (u + (1 : Int32))), .val (.int k.toInt32), .val (.int i), s6] [])) (fun _ ks_ => XS.goto X6.here hx rfl (pc0 := 65) (pc' := 46) rfl (hb hby d1_65) (by decide) (by decide) ks_) ?_
          exact ih46 ((u + (1 : Int32))) ((upd gc ((u + (1 : Int32))).toNatClampNeg ((gc (u + (1 : Int32)).toNatClampNeg) + (gc u.toNatClampNeg)))) _ _ _ X6 e6 N6 Z6 K6 Fa8 Fa7 hu1.2.2.2.1 (by rw [own_F2s hu1.2.2.2.2.2.2, hu1.2.2.2.2.2.1, hu1.2.2.2.2.1, ← hgc])
      exact C46_2 p1.toNatClampNeg ((0 : Int32)) fc _ _ _ X4 e4 N4 Z4 K4 F4_0 F4_1 ⟨by decide, by rw [own_cl hk.1]; show (0 : Int) + _ = _; omega⟩ (by rw [Nat.sub_self, hfc]; rfl)
    | succ t ih15 =>
      intro i fc s6 T4 h4 Ls4 X4 e4 N4 Z4 K4 F4_0 F4_1 hi hfc hs6
      have hiv := own_iv (N := 0) F0.bound hi
      have htk : t + 1 ≤ k := by have := hi.2; have := hi.1; omega
      have hcb0 := he _ hiv.2.1
      refine go (u' := T4.setTop (mkF m 17 #[.val (.ref o0), .val (.int p1), .val (.ref b1), .val (.ref o0), .val (.int k.toInt32), .val (.int i), s6] [(.int i)])) (fun _ ks_ => XS.iload X4.here hx rfl (hb hby d1_15) rfl  ks_) ?_
      refine go (u' := T4.setTop (mkF m 19 #[.val (.ref o0), .val (.int p1), .val (.ref b1), .val (.ref o0), .val (.int k.toInt32), .val (.int i), s6] [(.int k.toInt32), (.int i)])) (fun _ ks_ => XS.iload X4.here hx rfl (hb hby d1_17) rfl  ks_) ?_
      refine go (u' := T4.setTop (mkF m 22 #[.val (.ref o0), .val (.int p1), .val (.ref b1), .val (.ref o0), .val (.int k.toInt32), .val (.int i), s6] [])) (fun _ ks_ => XS.icmpNo X4.here hx rfl (hb hby d1_19) rfl (tlt hiv.2.2.1).2.1 ks_) ?_
      refine go (u' := T4.setTop (mkF m 23 #[.val (.ref o0), .val (.int p1), .val (.ref b1), .val (.ref o0), .val (.int k.toInt32), .val (.int i), s6] [(.ref o0)])) (fun _ ks_ => XS.aloadN X4.here hx rfl (hb hby d1_22) rfl rfl ks_) ?_
      refine go (u' := T4.setTop (mkF m 25 #[.val (.ref o0), .val (.int p1), .val (.ref b1), .val (.ref o0), .val (.int k.toInt32), .val (.int i), s6] [(.int i), (.ref o0)])) (fun _ ks_ => XS.iload X4.here hx rfl (hb hby d1_23) rfl  ks_) ?_
      refine go (u' := T4.setTop (mkF m 26 #[.val (.ref o0), .val (.int p1), .val (.ref b1), .val (.ref o0), .val (.int k.toInt32), .val (.int i), s6] [(.int (ef i.toNatClampNeg))])) (own_iaload X4 hx hZ e4 F4_1 (j := i) (v := (ef i.toNatClampNeg)) hiv.1 hiv.2.1 rfl (f := (mkF m 25 #[.val (.ref o0), .val (.int p1), .val (.ref b1), .val (.ref o0), .val (.int k.toInt32), .val (.int i), s6] [(.int i), (.ref o0)])) rfl rfl (hb hby d1_25)) ?_
      obtain ⟨cy, hcy⟩ : ∃ z, z = (ef i.toNatClampNeg) := ⟨_, rfl⟩
      rw [← hcy]
      refine go (u' := T4.setTop (mkF m 28 #[.val (.ref o0), .val (.int p1), .val (.ref b1), .val (.ref o0), .val (.int k.toInt32), .val (.int i), .val (.int cy)] [])) (fun _ ks_ => XS.istoreS X4.here hx rfl (hb hby d1_26) rfl  rfl hs6 ks_) ?_
      have hcb : 0 ≤ cy.toInt ∧ cy.toInt < p1.toInt := by rw [hcy]; exact hcb0
      have hc1 := own_c1 hcb hk.2
      refine go (u' := T4.setTop (mkF m 29 #[.val (.ref o0), .val (.int p1), .val (.ref b1), .val (.ref o0), .val (.int k.toInt32), .val (.int i), .val (.int cy)] [(.ref b1)])) (fun _ ks_ => XS.aloadN X4.here hx rfl (hb hby d1_28) rfl rfl ks_) ?_
      refine go (u' := T4.setTop (mkF m 31 #[.val (.ref o0), .val (.int p1), .val (.ref b1), .val (.ref o0), .val (.int k.toInt32), .val (.int i), .val (.int cy)] [(.int cy), (.ref b1)])) (fun _ ks_ => XS.iload X4.here hx rfl (hb hby d1_29) rfl  ks_) ?_
      refine go (u' := T4.setTop (mkF m 32 #[.val (.ref o0), .val (.int p1), .val (.ref b1), .val (.ref o0), .val (.int k.toInt32), .val (.int i), .val (.int cy)] [(.int (1 : Int32)), (.int cy), (.ref b1)])) (fun _ ks_ => XS.iconst X4.here hx rfl (hb hby d1_31) ks_) ?_
      refine go (u' := T4.setTop (mkF m 33 #[.val (.ref o0), .val (.int p1), .val (.ref b1), .val (.ref o0), .val (.int k.toInt32), .val (.int i), .val (.int cy)] [(.int (cy + (1 : Int32))), (.ref b1)])) (fun _ ks_ => XS.iadd X4.here hx rfl (hb hby d1_32) rfl ks_) ?_
      refine go (u' := T4.setTop (mkF m 34 #[.val (.ref o0), .val (.int p1), .val (.ref b1), .val (.ref o0), .val (.int k.toInt32), .val (.int i), .val (.int cy)] [(.int (cy + (1 : Int32))), (.ref b1), (.int (cy + (1 : Int32))), (.ref b1)])) (fun _ ks_ => Jvm.Free.XT.dup2 X4.here hx rfl (hb hby d1_33) rfl rfl rfl ks_) ?_
      refine go (u' := T4.setTop (mkF m 35 #[.val (.ref o0), .val (.int p1), .val (.ref b1), .val (.ref o0), .val (.int k.toInt32), .val (.int i), .val (.int cy)] [(.int (fc (cy + (1 : Int32)).toNatClampNeg)), (.int (cy + (1 : Int32))), (.ref b1)])) (own_iaload X4 hx hZ e4 F4_0 (j := (cy + (1 : Int32))) (v := (fc (cy + (1 : Int32)).toNatClampNeg)) (own_nn hc1.1) (own_lt hc1.1 hc1.2) rfl (f := (mkF m 34 #[.val (.ref o0), .val (.int p1), .val (.ref b1), .val (.ref o0), .val (.int k.toInt32), .val (.int i), .val (.int cy)] [(.int (cy + (1 : Int32))), (.ref b1), (.int (cy + (1 : Int32))), (.ref b1)])) rfl rfl (hb hby d1_34)) ?_
      refine go (u' := T4.setTop (mkF m 36 #[.val (.ref o0), .val (.int p1), .val (.ref b1), .val (.ref o0), .val (.int k.toInt32), .val (.int i), .val (.int cy)] [(.int (1 : Int32)), (.int (fc (cy + (1 : Int32)).toNatClampNeg)), (.int (cy + (1 : Int32))), (.ref b1)])) (fun _ ks_ => XS.iconst X4.here hx rfl (hb hby d1_35) ks_) ?_
      refine go (u' := T4.setTop (mkF m 37 #[.val (.ref o0), .val (.int p1), .val (.ref b1), .val (.ref o0), .val (.int k.toInt32), .val (.int i), .val (.int cy)] [(.int ((fc (cy + (1 : Int32)).toNatClampNeg) + (1 : Int32))), (.int (cy + (1 : Int32))), (.ref b1)])) (fun _ ks_ => XS.iadd X4.here hx rfl (hb hby d1_36) rfl ks_) ?_
      obtain ⟨T9, h9, X9, e9, W9, st9⟩ := own_iastore X4 hx hZ e4 F4_0 (j := (cy + (1 : Int32))) (x := ((fc (cy + (1 : Int32)).toNatClampNeg) + (1 : Int32)))  (own_nn hc1.1) (own_lt hc1.1 hc1.2) (f := (mkF m 37 #[.val (.ref o0), .val (.int p1), .val (.ref b1), .val (.ref o0), .val (.int k.toInt32), .val (.int i), .val (.int cy)] [(.int ((fc (cy + (1 : Int32)).toNatClampNeg) + (1 : Int32))), (.int (cy + (1 : Int32))), (.ref b1)])) rfl rfl (hb hby d1_37)
      have N9 := Fr.snoc X9 N4 g_b1
      have K9 : Keep h0 h9 [] := K4.wr W9 (Or.inr sz_b1)
      have Z9 : n0 ≤ h9.size := Nat.le_trans Z4 (Keep.of_wr W9).1
      have Fa10 : PI Z h9 o0 .int k ef := F4_1.other W9 ne_o0_b1
      have Fa11 : PI Z h9 b1 .int (p1 + (1 : Int32)).toNatClampNeg (upd fc ((cy + (1 : Int32))).toNatClampNeg ((fc (cy + (1 : Int32)).toNatClampNeg) + (1 : Int32))) := F4_0.set (own_lt hc1.1 hc1.2) W9
      refine go (u' := T9.setTop (mkF m 38 #[.val (.ref o0), .val (.int p1), .val (.ref b1), .val (.ref o0), .val (.int k.toInt32), .val (.int i), .val (.int cy)] [])) st9 ?_
      refine go (u' := T9.setTop (mkF m 41 #[.val (.ref o0), .val (.int p1), .val (.ref b1), .val (.ref o0), .val (.int k.toInt32), .val (.int (i + (1 : Int32))), .val (.int cy)] [])) (fun _ ks_ => XS.iinc X9.here hx rfl (hb hby d1_38) rfl (l' := #[.val (.ref o0), .val (.int p1), .val (.ref b1), .val (.ref o0), .val (.int k.toInt32), .val (.int (i + (1 : Int32))), .val (.int cy)]) rfl ks_) ?_
      refine go (u' := T9.setTop (mkF m 15 #[.val (.ref o0), .val (.int p1), .val (.ref b1), .val (.ref o0), .val (.int k.toInt32), .val (.int (i + (1 : Int32))), .val (.int cy)] [])) (fun _ ks_ => XS.goto X9.here hx rfl (pc0 := 41) (pc' := 15) rfl (hb hby d1_41) (by decide) (by decide) ks_) ?_
      exact ih15 ((i + (1 : Int32))) ((upd fc ((cy + (1 : Int32))).toNatClampNeg ((fc (cy + (1 : Int32)).toNatClampNeg) + (1 : Int32)))) (.val (.int cy)) _ _ _ X9 e9 N9 Z9 K9 Fa11 Fa10 hiv.2.2.2.1 (by rw [own_F1s htk, ← hiv.2.2.2.2, ← hcy, hiv.2.2.2.2, ← hfc]) (One.val rfl)
  exact C15_1 k ((0 : Int32)) ((fun _ => 0)) .unset _ _ _ X1 e1 N0 Z1 K1 Fa3 Fa2 ⟨by decide, by simp⟩ (by rw [Nat.sub_self]; rfl) One.u
theorem own_kk (p0 kk : Int32) (h : kk = ((p0 &&& (7 : Int32)) % (5 : Int32))) : 0 ≤ kk.toInt ∧ kk.toInt ≤ 4 := by
  have b1 := c_mask p0 7 3 (by decide) (by decide)
  have b2 := (c_irem (p0 &&& (7 : Int32)) 5 5 rfl).1 (by omega)
  rw [h]; omega
theorem own_nv (p1 kk nv : Int32) (h : nv = (if kk = (0 : Int32) then (0 : Int32) else (p1 &&& (3 : Int32)))) (q : ¬ nv = (0 : Int32)) : ¬ kk = 0 := fun e => q (by rw [h, if_pos e])
theorem own_nv3 (p1 kk nv : Int32) (h : nv = (if kk = (0 : Int32) then (0 : Int32) else (p1 &&& (3 : Int32)))) (q0 : ¬ nv = (0 : Int32)) (q1 : ¬ nv = (1 : Int32)) (q2 : ¬ nv = (2 : Int32)) : nv = 3 := by
  rw [if_neg (own_nv p1 kk nv h q0)] at h
  have b1 := c_mask p1 3 2 (by decide) (by decide)
  have r0 : nv.toInt ≠ 0 := fun e => q0 (Int32.toInt_inj.mp e)
  have r1 : nv.toInt ≠ 1 := fun e => q1 (Int32.toInt_inj.mp e)
  have r2 : nv.toInt ≠ 2 := fun e => q2 (Int32.toInt_inj.mp e)
  apply Int32.toInt_inj.mp
  show nv.toInt = 3
  rw [← h] at b1
  omega
theorem own_abc1 (p kk k : Int32) (hk : 0 ≤ kk.toInt ∧ kk.toInt ≤ 4) (h0 : ¬ kk = 0) (h : k = (if kk = (0 : Int32) then (0 : Int32) else ((p &&& (2147483647 : Int32)) % kk))) : 0 ≤ k.toInt ∧ k.toInt < kk.toInt := by
  rw [if_neg h0] at h
  have r0 : kk.toInt ≠ 0 := fun e => h0 (Int32.toInt_inj.mp e)
  have b1 := c_mask p 2147483647 31 (by decide) (by decide)
  have b2 := (c_irem (p &&& (2147483647 : Int32)) kk kk.toInt rfl).1 (by omega)
  have b3 := Int.emod_nonneg (p &&& (2147483647 : Int32)).toInt (b := kk.toInt) (by omega)
  have b4 := Int.emod_lt_of_pos (p &&& (2147483647 : Int32)).toInt (b := kk.toInt) (by omega)
  rw [h, b2]; omega
theorem own_abc (p2 p3 p4 kk ka kb kc : Int32) (hk : 0 ≤ kk.toInt ∧ kk.toInt ≤ 4) (h0 : ¬ kk = 0) (ha : ka = (if kk = (0 : Int32) then (0 : Int32) else ((p2 &&& (2147483647 : Int32)) % kk))) (hb : kb = (if kk = (0 : Int32) then (0 : Int32) else ((p3 &&& (2147483647 : Int32)) % kk))) (hc : kc = (if kk = (0 : Int32) then (0 : Int32) else ((p4 &&& (2147483647 : Int32)) % kk))) :
    (0 ≤ ka.toInt ∧ ka.toInt < kk.toInt) ∧ (0 ≤ kb.toInt ∧ kb.toInt < kk.toInt) ∧ (0 ≤ kc.toInt ∧ kc.toInt < kk.toInt) := ⟨own_abc1 _ _ _ hk h0 ha, own_abc1 _ _ _ hk h0 hb, own_abc1 _ _ _ hk h0 hc⟩
theorem own_he1 {a k : Int32} (ha : 0 ≤ a.toInt ∧ a.toInt < k.toInt) : ∀ i, i < 1 → 0 ≤ ((own_l [a]) i).toInt ∧ ((own_l [a]) i).toInt < k.toInt
  | 0, _ => ha
  | n + 1, h => absurd h (by omega)
theorem own_he2 {a b k : Int32} (ha : 0 ≤ a.toInt ∧ a.toInt < k.toInt) (hb : 0 ≤ b.toInt ∧ b.toInt < k.toInt) : ∀ i, i < 2 → 0 ≤ ((own_l [a, b]) i).toInt ∧ ((own_l [a, b]) i).toInt < k.toInt
  | 0, _ => ha
  | 1, _ => hb
  | n + 2, h => absurd h (by omega)
theorem own_he3 {a b c k : Int32} (ha : 0 ≤ a.toInt ∧ a.toInt < k.toInt) (hb : 0 ≤ b.toInt ∧ b.toInt < k.toInt) (hc : 0 ≤ c.toInt ∧ c.toInt < k.toInt) : ∀ i, i < 3 → 0 ≤ ((own_l [a, b, c]) i).toInt ∧ ((own_l [a, b, c]) i).toInt < k.toInt
  | 0, _ => ha
  | 1, _ => hb
  | 2, _ => hc
  | n + 3, h => absurd h (by omega)
theorem own_hin (s kk : Int32) (hk : 0 ≤ kk.toInt ∧ kk.toInt ≤ 4) (hs : 0 ≤ s.toInt) (q : ¬ kk < s) : ¬ s < 0 ∧ s.toNatClampNeg < (kk + (1 : Int32)).toNatClampNeg := by
  rw [Int32.lt_iff_toInt_lt] at q
  refine ⟨own_nn hs, ?_⟩
  rw [(own_k1 hk).2.2]
  have := own_cl hs; have := own_cl hk.1; omega
theorem own_of {k : Int32} {n : Nat} (h : 0 ≤ k.toInt ∧ k.toInt < n) (hn : n < 2 ^ 31) : ∃ i : Fin n, k = Int32.ofNat i.val := by
  have := own_cl h.1
  refine ⟨⟨k.toNatClampNeg, by omega⟩, ?_⟩
  apply Int32.toInt_inj.mp
  rw [Int32.toInt_ofNat_of_lt (by show k.toNatClampNeg < _; omega)]
  show k.toInt = (k.toNatClampNeg : Int)
  omega
set_option maxRecDepth 100000 in
theorem own_d0 : ∀ kk : Fin 5, ∀ s : Fin 5, (Int32.ofNat kk.val < Int32.ofNat s.val) ∨ F2 (F1 (own_l []) 0) (Int32.ofNat kk.val).toNatClampNeg (Int32.ofNat s.val).toNatClampNeg = 0 := by decide +kernel
theorem own_b0 (s a b c : Int32) : own_below s 0 a b c = 0 := rfl
theorem own_b1 (s a b c : Int32) : own_below s 1 a b c = own_below s 1 a 0 0 := rfl
theorem own_b2 (s a b c : Int32) : own_below s 2 a b c = own_below s 2 a b 0 := rfl
set_option maxRecDepth 100000 in
theorem own_d1 : ∀ kk : Fin 5, ∀ a : Fin 4, Int32.ofNat a.val < Int32.ofNat kk.val → ∀ s : Fin 5, (Int32.ofNat kk.val < Int32.ofNat s.val) ∨ F2 (F1 (own_l [Int32.ofNat a.val]) 1) (Int32.ofNat kk.val).toNatClampNeg (Int32.ofNat s.val).toNatClampNeg = own_below (Int32.ofNat s.val) 1 (Int32.ofNat a.val) 0 0 := by decide +kernel
set_option maxRecDepth 100000 in
theorem own_d2 : ∀ kk : Fin 5, ∀ a b : Fin 4, Int32.ofNat a.val < Int32.ofNat kk.val → Int32.ofNat b.val < Int32.ofNat kk.val → ∀ s : Fin 5, (Int32.ofNat kk.val < Int32.ofNat s.val) ∨ F2 (F1 (own_l [Int32.ofNat a.val, Int32.ofNat b.val]) 2) (Int32.ofNat kk.val).toNatClampNeg (Int32.ofNat s.val).toNatClampNeg = own_below (Int32.ofNat s.val) 2 (Int32.ofNat a.val) (Int32.ofNat b.val) 0 := by decide +kernel
set_option maxRecDepth 100000 in
theorem own_d3 : ∀ kk : Fin 5, ∀ a b c : Fin 4, Int32.ofNat a.val < Int32.ofNat kk.val → Int32.ofNat b.val < Int32.ofNat kk.val → Int32.ofNat c.val < Int32.ofNat kk.val → ∀ s : Fin 5, (Int32.ofNat kk.val < Int32.ofNat s.val) ∨ F2 (F1 (own_l [Int32.ofNat a.val, Int32.ofNat b.val, Int32.ofNat c.val]) 3) (Int32.ofNat kk.val).toNatClampNeg (Int32.ofNat s.val).toNatClampNeg = own_below (Int32.ofNat s.val) 3 (Int32.ofNat a.val) (Int32.ofNat b.val) (Int32.ofNat c.val) := by decide +kernel
theorem own_ok0 (kk nv ka kb kc s : Int32) (hk : 0 ≤ kk.toInt ∧ kk.toInt ≤ 4) (hn : nv = 0) (hs : 0 ≤ s.toInt ∧ s.toInt < 5 := by decide) : (kk < s) ∨ (((F2 (F1 (own_l []) 0) kk.toNatClampNeg) s.toNatClampNeg) = (own_below s nv ka kb kc)) := by
  subst hn
  obtain ⟨k, rfl⟩ := own_of (n := 5) ⟨hk.1, by omega⟩ (by decide)
  obtain ⟨z, rfl⟩ := own_of (n := 5) ⟨hs.1, by omega⟩ (by decide)
  rw [own_b0]; exact own_d0 k z
theorem own_ok1 (kk nv ka kb kc s : Int32) (hk : 0 ≤ kk.toInt ∧ kk.toInt ≤ 4) (ha : 0 ≤ ka.toInt ∧ ka.toInt < kk.toInt) (hn : nv = 1) (hs : 0 ≤ s.toInt ∧ s.toInt < 5 := by decide) : (kk < s) ∨ (((F2 (F1 (own_l [ka]) 1) kk.toNatClampNeg) s.toNatClampNeg) = (own_below s nv ka kb kc)) := by
  subst hn
  obtain ⟨k, rfl⟩ := own_of (n := 5) ⟨hk.1, by omega⟩ (by decide)
  obtain ⟨z, rfl⟩ := own_of (n := 5) ⟨hs.1, by omega⟩ (by decide)
  obtain ⟨a, rfl⟩ := own_of (n := 4) (k := ka) ⟨ha.1, by omega⟩ (by decide)
  rw [own_b1]; exact own_d1 k a (Int32.lt_iff_toInt_lt.mpr ha.2) z
theorem own_ok2 (kk nv ka kb kc s : Int32) (hk : 0 ≤ kk.toInt ∧ kk.toInt ≤ 4) (ha : 0 ≤ ka.toInt ∧ ka.toInt < kk.toInt) (hb : 0 ≤ kb.toInt ∧ kb.toInt < kk.toInt) (hn : nv = 2) (hs : 0 ≤ s.toInt ∧ s.toInt < 5 := by decide) : (kk < s) ∨ (((F2 (F1 (own_l [ka, kb]) 2) kk.toNatClampNeg) s.toNatClampNeg) = (own_below s nv ka kb kc)) := by
  subst hn
  obtain ⟨k, rfl⟩ := own_of (n := 5) ⟨hk.1, by omega⟩ (by decide)
  obtain ⟨z, rfl⟩ := own_of (n := 5) ⟨hs.1, by omega⟩ (by decide)
  obtain ⟨a, rfl⟩ := own_of (n := 4) (k := ka) ⟨ha.1, by omega⟩ (by decide)
  obtain ⟨b, rfl⟩ := own_of (n := 4) (k := kb) ⟨hb.1, by omega⟩ (by decide)
  rw [own_b2]; exact own_d2 k a b (Int32.lt_iff_toInt_lt.mpr ha.2) (Int32.lt_iff_toInt_lt.mpr hb.2) z
theorem own_ok3 (kk nv ka kb kc s : Int32) (hk : 0 ≤ kk.toInt ∧ kk.toInt ≤ 4) (ha : 0 ≤ ka.toInt ∧ ka.toInt < kk.toInt) (hb : 0 ≤ kb.toInt ∧ kb.toInt < kk.toInt) (hc : 0 ≤ kc.toInt ∧ kc.toInt < kk.toInt) (hn : nv = 3) (hs : 0 ≤ s.toInt ∧ s.toInt < 5 := by decide) : (kk < s) ∨ (((F2 (F1 (own_l [ka, kb, kc]) 3) kk.toNatClampNeg) s.toNatClampNeg) = (own_below s nv ka kb kc)) := by
  subst hn
  obtain ⟨k, rfl⟩ := own_of (n := 5) ⟨hk.1, by omega⟩ (by decide)
  obtain ⟨z, rfl⟩ := own_of (n := 5) ⟨hs.1, by omega⟩ (by decide)
  obtain ⟨a, rfl⟩ := own_of (n := 4) (k := ka) ⟨ha.1, by omega⟩ (by decide)
  obtain ⟨b, rfl⟩ := own_of (n := 4) (k := kb) ⟨hb.1, by omega⟩ (by decide)
  obtain ⟨c, rfl⟩ := own_of (n := 4) (k := kc) ⟨hc.1, by omega⟩ (by decide)
  exact own_d3 k a b c (Int32.lt_iff_toInt_lt.mpr ha.2) (Int32.lt_iff_toInt_lt.mpr hb.2) (Int32.lt_iff_toInt_lt.mpr hc.2) z
theorem pd__40__91_II_41__91_I : parseMethodDescriptor "([II)[I" = some ⟨[(.array .int), .int], some (.array .int)⟩ := by decide +kernel
theorem pd__40__91_IIIIIII_41_Z : parseMethodDescriptor "([IIIIIII)Z" = some ⟨[(.array .int), .int, .int, .int, .int, .int, .int], some .boolean⟩ := by decide +kernel
theorem pn_com_example_chartwright_chartwright_parse_ChartGrammarStartsPinLaw_law_0 : plainFor x = true := by first | exact plainFor_of_name (by first | (simp [plainName, overriddenIn]; done) | decide +kernel) | decide +kernel
def Q_rm0 (Z : State) (p0 : Int32) (p1 : Int32) (p2 : Int32) (p3 : Int32) (p4 : Int32) (h0 : Heap) (n0 : Nat) (v : Option Value) (h : Heap) (L : List Loc) : Prop := v = some (.int (1 : Int32)) ∧ Fr n0 L
set_option maxRecDepth 65536 in
set_option maxHeartbeats 4000000 in
theorem ef_rm0 (m : MethodId) (p0 : Int32) (p1 : Int32) (p2 : Int32) (p3 : Int32) (p4 : Int32) : entryFrame m #[(.int p0), (.int p1), (.int p2), (.int p3), (.int p4)] maxLocals = mkF m 0 #[.val (.int p0), .val (.int p1), .val (.int p2), .val (.int p3), .val (.int p4), .unset, .unset, .unset, .unset, .unset, .unset, .unset] [] := by first | (simp [entryFrame, mkF, argsToLocals, Value.category, maxLocals]; done) | rfl
set_option maxRecDepth 65536 in
set_option maxHeartbeats 40000000 in
theorem rm0 (l : Launch) (Z : State) (a0 : Array Value) (hw : ∀ d ∈ tables_1, d.before a0 Z = true) (ws : List Jvm.Cond) (p0 : Int32) (p1 : Int32) (p2 : Int32) (p3 : Int32) (p4 : Int32) (h0 : Heap) (n0 : Nat) (Z0 : n0 ≤ h0.size)  :
    MetFree l x (head1 (Jvm.Cond.code x code maxLocals ret :: ws) room_1) (fun a U => a = #[(.int p0), (.int p1), (.int p2), (.int p3), (.int p4)] ∧ Z.Warmed39 U.vm ∧ U.heap = h0) (fun _ _ _ _ _ => True) (fun _ U o U' => ∃ v L, o = .returned v ∧ Q_rm0 Z p0 p1 p2 p3 p4 h0 n0 v U'.heap L ∧ FrameEnd U o U' L room_1.cells room_1.slots) := by
  refine body pn_com_example_chartwright_chartwright_parse_ChartGrammarStartsPinLaw_law_0 ?_
  intro p e s m below meth c s₁ hx hby hml hown hnm hret hlk hZ e0 X0
  replace hml : c.maxLocals = 12 := hml
  replace hown : s.vm.findClass "com/example/chartwright/chartwright/parse/ChartGrammarStartsPinLaw" = some m.cls := hown
  replace hnm : meth.name = "law" := hnm
  replace hret : meth.sig.returnType = (some .boolean) := hret
  have N0 := Fr.nil n0
  rw [ef_rm0]
  obtain ⟨G, hG⟩ : ∃ G, G = End (Q_rm0 Z p0 p1 p2 p3 p4 h0 n0) s room_1.cells room_1.slots := ⟨_, rfl⟩
  rw [← hG]
  refine go (u' := s₁.setTop (mkF m 1 #[.val (.int p0), .val (.int p1), .val (.int p2), .val (.int p3), .val (.int p4), .unset, .unset, .unset, .unset, .unset, .unset, .unset] [(.int p0)])) (fun _ ks_ => XS.iloadN X0.here hx rfl (hb hby at_0) rfl  ks_) ?_
  refine go (u' := s₁.setTop (mkF m 3 #[.val (.int p0), .val (.int p1), .val (.int p2), .val (.int p3), .val (.int p4), .unset, .unset, .unset, .unset, .unset, .unset, .unset] [(.int (7 : Int32)), (.int p0)])) (fun _ ks_ => XS.bipush X0.here hx rfl (hb hby at_1) ks_) ?_
  refine go (u' := s₁.setTop (mkF m 4 #[.val (.int p0), .val (.int p1), .val (.int p2), .val (.int p3), .val (.int p4), .unset, .unset, .unset, .unset, .unset, .unset, .unset] [(.int (p0 &&& (7 : Int32)))])) (fun _ ks_ => XS.iand X0.here hx rfl (hb hby at_3) rfl ks_) ?_
  refine go (u' := s₁.setTop (mkF m 5 #[.val (.int p0), .val (.int p1), .val (.int p2), .val (.int p3), .val (.int p4), .unset, .unset, .unset, .unset, .unset, .unset, .unset] [(.int (5 : Int32)), (.int (p0 &&& (7 : Int32)))])) (fun _ ks_ => XS.iconst X0.here hx rfl (hb hby at_4) ks_) ?_
  refine go (u' := s₁.setTop (mkF m 6 #[.val (.int p0), .val (.int p1), .val (.int p2), .val (.int p3), .val (.int p4), .unset, .unset, .unset, .unset, .unset, .unset, .unset] [(.int ((p0 &&& (7 : Int32)) % (5 : Int32)))])) (fun _ ks_ => iremM (g := (mkF m 5 #[.val (.int p0), .val (.int p1), .val (.int p2), .val (.int p3), .val (.int p4), .unset, .unset, .unset, .unset, .unset, .unset, .unset] [(.int (5 : Int32)), (.int (p0 &&& (7 : Int32)))])) X0 hx rfl (hb hby at_5) rfl (by decide) ks_) ?_
  refine go (u' := s₁.setTop (mkF m 8 #[.val (.int p0), .val (.int p1), .val (.int p2), .val (.int p3), .val (.int p4), .val (.int ((p0 &&& (7 : Int32)) % (5 : Int32))), .unset, .unset, .unset, .unset, .unset, .unset] [])) (fun _ ks_ => XS.istore X0.here hx rfl (hb hby at_6) rfl  (l' := #[.val (.int p0), .val (.int p1), .val (.int p2), .val (.int p3), .val (.int p4), .val (.int ((p0 &&& (7 : Int32)) % (5 : Int32))), .unset, .unset, .unset, .unset, .unset, .unset]) rfl ks_) ?_
  obtain ⟨kk, hkk⟩ : ∃ z, z = ((p0 &&& (7 : Int32)) % (5 : Int32)) := ⟨_, rfl⟩
  rw [← hkk]
  have hkr : 0 ≤ kk.toInt ∧ kk.toInt ≤ 4 := own_kk p0 kk hkk
  refine go (u' := s₁.setTop (mkF m 9 #[.val (.int p0), .val (.int p1), .val (.int p2), .val (.int p3), .val (.int p4), .val (.int kk), .unset, .unset, .unset, .unset, .unset, .unset] [(.int p1)])) (fun _ ks_ => XS.iloadN X0.here hx rfl (hb hby at_8) rfl  ks_) ?_
  refine go (u' := s₁.setTop (mkF m 10 #[.val (.int p0), .val (.int p1), .val (.int p2), .val (.int p3), .val (.int p4), .val (.int kk), .unset, .unset, .unset, .unset, .unset, .unset] [(.int (3 : Int32)), (.int p1)])) (fun _ ks_ => XS.iconst X0.here hx rfl (hb hby at_9) ks_) ?_
  refine go (u' := s₁.setTop (mkF m 11 #[.val (.int p0), .val (.int p1), .val (.int p2), .val (.int p3), .val (.int p4), .val (.int kk), .unset, .unset, .unset, .unset, .unset, .unset] [(.int (p1 &&& (3 : Int32)))])) (fun _ ks_ => XS.iand X0.here hx rfl (hb hby at_10) rfl ks_) ?_
  refine go (u' := s₁.setTop (mkF m 13 #[.val (.int p0), .val (.int p1), .val (.int p2), .val (.int p3), .val (.int p4), .val (.int kk), .val (.int (p1 &&& (3 : Int32))), .unset, .unset, .unset, .unset, .unset] [])) (fun _ ks_ => XS.istore X0.here hx rfl (hb hby at_11) rfl  (l' := #[.val (.int p0), .val (.int p1), .val (.int p2), .val (.int p3), .val (.int p4), .val (.int kk), .val (.int (p1 &&& (3 : Int32))), .unset, .unset, .unset, .unset, .unset]) rfl ks_) ?_
  refine go (u' := s₁.setTop (mkF m 15 #[.val (.int p0), .val (.int p1), .val (.int p2), .val (.int p3), .val (.int p4), .val (.int kk), .val (.int (p1 &&& (3 : Int32))), .unset, .unset, .unset, .unset, .unset] [(.int kk)])) (fun _ ks_ => XS.iload X0.here hx rfl (hb hby at_13) rfl  ks_) ?_
  have J21_1 : ∀ nv : Int32, nv = (if kk = (0 : Int32) then (0 : Int32) else (p1 &&& (3 : Int32))) → Go p.tables e below G (s₁.setTop (mkF m 21 #[.val (.int p0), .val (.int p1), .val (.int p2), .val (.int p3), .val (.int p4), .val (.int kk), .val (.int nv), .unset, .unset, .unset, .unset, .unset] [])) := by
    intro nv hnv
    refine go (u' := s₁.setTop (mkF m 23 #[.val (.int p0), .val (.int p1), .val (.int p2), .val (.int p3), .val (.int p4), .val (.int kk), .val (.int nv), .unset, .unset, .unset, .unset, .unset] [(.int kk)])) (fun _ ks_ => XS.iload X0.here hx rfl (hb hby at_21) rfl  ks_) ?_
    have J37_2 : ∀ ka : Int32, ka = (if kk = (0 : Int32) then (0 : Int32) else ((p2 &&& (2147483647 : Int32)) % kk)) → Go p.tables e below G (s₁.setTop (mkF m 37 #[.val (.int p0), .val (.int p1), .val (.int p2), .val (.int p3), .val (.int p4), .val (.int kk), .val (.int nv), .unset, .unset, .unset, .unset, .unset] [(.int ka)])) := by
      intro ka hka
      refine go (u' := s₁.setTop (mkF m 39 #[.val (.int p0), .val (.int p1), .val (.int p2), .val (.int p3), .val (.int p4), .val (.int kk), .val (.int nv), .val (.int ka), .unset, .unset, .unset, .unset] [])) (fun _ ks_ => XS.istore X0.here hx rfl (hb hby at_37) rfl  (l' := #[.val (.int p0), .val (.int p1), .val (.int p2), .val (.int p3), .val (.int p4), .val (.int kk), .val (.int nv), .val (.int ka), .unset, .unset, .unset, .unset]) rfl ks_) ?_
      refine go (u' := s₁.setTop (mkF m 41 #[.val (.int p0), .val (.int p1), .val (.int p2), .val (.int p3), .val (.int p4), .val (.int kk), .val (.int nv), .val (.int ka), .unset, .unset, .unset, .unset] [(.int kk)])) (fun _ ks_ => XS.iload X0.here hx rfl (hb hby at_39) rfl  ks_) ?_
      have J55_3 : ∀ kb : Int32, kb = (if kk = (0 : Int32) then (0 : Int32) else ((p3 &&& (2147483647 : Int32)) % kk)) → Go p.tables e below G (s₁.setTop (mkF m 55 #[.val (.int p0), .val (.int p1), .val (.int p2), .val (.int p3), .val (.int p4), .val (.int kk), .val (.int nv), .val (.int ka), .unset, .unset, .unset, .unset] [(.int kb)])) := by
        intro kb hkb
        refine go (u' := s₁.setTop (mkF m 57 #[.val (.int p0), .val (.int p1), .val (.int p2), .val (.int p3), .val (.int p4), .val (.int kk), .val (.int nv), .val (.int ka), .val (.int kb), .unset, .unset, .unset] [])) (fun _ ks_ => XS.istore X0.here hx rfl (hb hby at_55) rfl  (l' := #[.val (.int p0), .val (.int p1), .val (.int p2), .val (.int p3), .val (.int p4), .val (.int kk), .val (.int nv), .val (.int ka), .val (.int kb), .unset, .unset, .unset]) rfl ks_) ?_
        refine go (u' := s₁.setTop (mkF m 59 #[.val (.int p0), .val (.int p1), .val (.int p2), .val (.int p3), .val (.int p4), .val (.int kk), .val (.int nv), .val (.int ka), .val (.int kb), .unset, .unset, .unset] [(.int kk)])) (fun _ ks_ => XS.iload X0.here hx rfl (hb hby at_57) rfl  ks_) ?_
        have J74_4 : ∀ kc : Int32, kc = (if kk = (0 : Int32) then (0 : Int32) else ((p4 &&& (2147483647 : Int32)) % kk)) → Go p.tables e below G (s₁.setTop (mkF m 74 #[.val (.int p0), .val (.int p1), .val (.int p2), .val (.int p3), .val (.int p4), .val (.int kk), .val (.int nv), .val (.int ka), .val (.int kb), .unset, .unset, .unset] [(.int kc)])) := by
          intro kc hkc
          refine go (u' := s₁.setTop (mkF m 76 #[.val (.int p0), .val (.int p1), .val (.int p2), .val (.int p3), .val (.int p4), .val (.int kk), .val (.int nv), .val (.int ka), .val (.int kb), .val (.int kc), .unset, .unset] [])) (fun _ ks_ => XS.istore X0.here hx rfl (hb hby at_74) rfl  (l' := #[.val (.int p0), .val (.int p1), .val (.int p2), .val (.int p3), .val (.int p4), .val (.int kk), .val (.int nv), .val (.int ka), .val (.int kb), .val (.int kc), .unset, .unset]) rfl ks_) ?_
          refine go (u' := s₁.setTop (mkF m 78 #[.val (.int p0), .val (.int p1), .val (.int p2), .val (.int p3), .val (.int p4), .val (.int kk), .val (.int nv), .val (.int ka), .val (.int kb), .val (.int kc), .unset, .unset] [(.int nv)])) (fun _ ks_ => XS.iload X0.here hx rfl (hb hby at_76) rfl  ks_) ?_
          by_cases c78_1 : nv = (0 : Int32)
          ·
            refine go (u' := s₁.setTop (mkF m 81 #[.val (.int p0), .val (.int p1), .val (.int p2), .val (.int p3), .val (.int p4), .val (.int kk), .val (.int nv), .val (.int ka), .val (.int kb), .val (.int kc), .unset, .unset] [])) (fun _ ks_ => XS.ifNo X0.here hx rfl (hb hby at_78) rfl ((if0 _ _).trans (teq c78_1).2) ks_) ?_
            refine go (u' := s₁.setTop (mkF m 82 #[.val (.int p0), .val (.int p1), .val (.int p2), .val (.int p3), .val (.int p4), .val (.int kk), .val (.int nv), .val (.int ka), .val (.int kb), .val (.int kc), .unset, .unset] [(.int (0 : Int32))])) (fun _ ks_ => XS.iconst X0.here hx rfl (hb hby at_81) ks_) ?_
            obtain ⟨T1, h1, k1, X1, e1, E1, A1, st1⟩ := newP X0 hx hZ (ww hw 0 rfl) e0 (g := (mkF m 82 #[.val (.int p0), .val (.int p1), .val (.int p2), .val (.int p3), .val (.int p4), .val (.int kk), .val (.int nv), .val (.int ka), .val (.int kb), .val (.int kc), .unset, .unset] [(.int (0 : Int32))])) rfl (hb hby at_82) rfl (by decide) (cap := 0) (by decide) (by decide) (by decide) (by decide)
            obtain ⟨b1, g1⟩ : ∃ z, z = h0.size := ⟨_, rfl⟩
            rw [← g1] at A1 st1
            have g_b1 : n0 ≤ b1 := Nat.le_trans Z0 (Nat.le_of_eq g1.symm)
            have sz_b1 : h0.size ≤ b1 := Nat.le_trans (Keep.refl h0 []).1 (Nat.le_of_eq g1.symm)
            have K1 : Keep h0 h1 [] := (Keep.refl h0 []).ext E1
            have Z1 : n0 ≤ h1.size := Nat.le_trans Z0 E1.1
            have Fa2 : PI Z h1 b1 .int 0 (own_l []) := PI.newL A1 (by decide) rfl rfl
            refine go (u' := T1.setTop (mkF m 84 #[.val (.int p0), .val (.int p1), .val (.int p2), .val (.int p3), .val (.int p4), .val (.int kk), .val (.int nv), .val (.int ka), .val (.int kb), .val (.int kc), .unset, .unset] [(.ref b1)])) st1 ?_
            refine go (u' := T1.setTop (mkF m 86 #[.val (.int p0), .val (.int p1), .val (.int p2), .val (.int p3), .val (.int p4), .val (.int kk), .val (.int nv), .val (.int ka), .val (.int kb), .val (.int kc), .val (.ref b1), .unset] [])) (fun _ ks_ => XS.astore X1.here hx rfl (hb hby at_84) rfl rfl (l' := #[.val (.int p0), .val (.int p1), .val (.int p2), .val (.int p3), .val (.int p4), .val (.int kk), .val (.int nv), .val (.int ka), .val (.int kb), .val (.int kc), .val (.ref b1), .unset]) rfl ks_) ?_
            refine go (u' := T1.setTop (mkF m 152 #[.val (.int p0), .val (.int p1), .val (.int p2), .val (.int p3), .val (.int p4), .val (.int kk), .val (.int nv), .val (.int ka), .val (.int kb), .val (.int kc), .val (.ref b1), .unset] [])) (fun _ ks_ => XS.goto X1.here hx rfl (pc0 := 86) (pc' := 152) rfl (hb hby at_86) (by decide) (by decide) ks_) ?_
            refine go (u' := T1.setTop (mkF m 154 #[.val (.int p0), .val (.int p1), .val (.int p2), .val (.int p3), .val (.int p4), .val (.int kk), .val (.int nv), .val (.int ka), .val (.int kb), .val (.int kc), .val (.ref b1), .unset] [(.ref b1)])) (fun _ ks_ => XS.aload X1.here hx rfl (hb hby at_152) rfl rfl ks_) ?_
            refine go (u' := T1.setTop (mkF m 156 #[.val (.int p0), .val (.int p1), .val (.int p2), .val (.int p3), .val (.int p4), .val (.int kk), .val (.int nv), .val (.int ka), .val (.int kb), .val (.int kc), .val (.ref b1), .unset] [(.int kk), (.ref b1)])) (fun _ ks_ => XS.iload X1.here hx rfl (hb hby at_154) rfl  ks_) ?_
            obtain ⟨_, _, ⟨T3, L3, k3, n3⟩, -, X3, ⟨Lc3, hQ3, l3, y3, z3⟩, st3⟩ := Jvm.LawKit.callS X1 hx (y := (⟨"com/example/chartwright/chartwright/parse/ChartGrammar", "starts", "([II)[I"⟩ : MethodName)) hown (mvT hZ (ww hw 1 rfl)) (mvT hZ (ww hw 2 rfl)) (mvT hZ (ww hw 3 rfl)) (mvT hZ (ww hw 4 rfl)) (by decide) (backOf (W := 0) (rm1 l Z a0 hw [] b1 kk 0 (own_l []) h1 n0 Z1 Fa2 hkr (fun i hi => absurd hi (by omega))) hZ (ww hw 4 rfl) (ww hw 3 rfl) (by decide) (by decide)) (g := (mkF m 156 #[.val (.int p0), .val (.int p1), .val (.int p2), .val (.int p3), .val (.int p4), .val (.int kk), .val (.int nv), .val (.int ka), .val (.int kb), .val (.int kc), .val (.ref b1), .unset] [(.int kk), (.ref b1)])) rfl (by rw [hml]; rfl) (argsL := [(.ref b1), (.int kk)]) (rest := []) (lenOf pd__40__91_II_41__91_I rfl) rfl (by show 2 * 0 + _ ≤ _; exact Nat.le_of_eq rfl) (hb hby at_156) (fun _ _ => ⟨rfl, e1, (by decide : 1 + 1 ≤ _), (by decide : 0 + 5 ≤ _)⟩)
            dsimp only [Pt.U, Pt.locs, Pt.cells, Pt.slots] at X3 l3 y3 z3 st3 hQ3
            subst l3 y3 z3
            obtain ⟨r3, rfl, N3q, Kq3, Fa4, gr_3⟩ := hQ3
            have N3 := Fr.app N0 N3q
            have K3 : Keep h0 T3.heap [] := K1.trans Kq3 all0
            have Z3 : n0 ≤ T3.heap.size := Nat.le_trans Z1 Kq3.1
            have Fa5 : PI Z T3.heap b1 .int 0 (own_l []) := Fa2.keep Kq3 nin0
            have ne_b1_r3 : b1 ≠ r3 := Nat.ne_of_lt (Nat.lt_of_lt_of_le Fa2.lt gr_3)
            have g_r3 : n0 ≤ r3 := Nat.le_trans Z1 gr_3
            have sz_r3 : h0.size ≤ r3 := Nat.le_trans K1.1 gr_3
            refine go (u' := T3.setTop (mkF m 159 #[.val (.int p0), .val (.int p1), .val (.int p2), .val (.int p3), .val (.int p4), .val (.int kk), .val (.int nv), .val (.int ka), .val (.int kb), .val (.int kc), .val (.ref b1), .unset] [(.ref r3)])) st3 ?_
            refine go (u' := T3.setTop (mkF m 161 #[.val (.int p0), .val (.int p1), .val (.int p2), .val (.int p3), .val (.int p4), .val (.int kk), .val (.int nv), .val (.int ka), .val (.int kb), .val (.int kc), .val (.ref b1), .val (.ref r3)] [])) (fun _ ks_ => XS.astore X3.here hx rfl (hb hby at_159) rfl rfl (l' := #[.val (.int p0), .val (.int p1), .val (.int p2), .val (.int p3), .val (.int p4), .val (.int kk), .val (.int nv), .val (.int ka), .val (.int kb), .val (.int kc), .val (.ref b1), .val (.ref r3)]) rfl ks_) ?_
            refine go (u' := T3.setTop (mkF m 163 #[.val (.int p0), .val (.int p1), .val (.int p2), .val (.int p3), .val (.int p4), .val (.int kk), .val (.int nv), .val (.int ka), .val (.int kb), .val (.int kc), .val (.ref b1), .val (.ref r3)] [(.ref r3)])) (fun _ ks_ => XS.aload X3.here hx rfl (hb hby at_161) rfl rfl ks_) ?_
            refine go (u' := T3.setTop (mkF m 166 #[.val (.int p0), .val (.int p1), .val (.int p2), .val (.int p3), .val (.int p4), .val (.int kk), .val (.int nv), .val (.int ka), .val (.int kb), .val (.int kc), .val (.ref b1), .val (.ref r3)] [])) (fun _ ks_ => XS.ifnullNo X3.here hx rfl (hb hby at_163) rfl ks_) ?_
            refine go (u' := T3.setTop (mkF m 168 #[.val (.int p0), .val (.int p1), .val (.int p2), .val (.int p3), .val (.int p4), .val (.int kk), .val (.int nv), .val (.int ka), .val (.int kb), .val (.int kc), .val (.ref b1), .val (.ref r3)] [(.ref r3)])) (fun _ ks_ => XS.aload X3.here hx rfl (hb hby at_166) rfl rfl ks_) ?_
            refine go (u' := T3.setTop (mkF m 169 #[.val (.int p0), .val (.int p1), .val (.int p2), .val (.int p3), .val (.int p4), .val (.int kk), .val (.int nv), .val (.int ka), .val (.int kb), .val (.int kc), .val (.ref b1), .val (.ref r3)] [(.int (kk + (1 : Int32)))])) (own_alen X3 hx hZ (rfl : T3.heap = _) Fa4 (z := (kk + (1 : Int32))) (back32 (own_k1 hkr).1).1 (f := (mkF m 168 #[.val (.int p0), .val (.int p1), .val (.int p2), .val (.int p3), .val (.int p4), .val (.int kk), .val (.int nv), .val (.int ka), .val (.int kb), .val (.int kc), .val (.ref b1), .val (.ref r3)] [(.ref r3)])) rfl rfl (hb hby at_168)) ?_
            refine go (u' := T3.setTop (mkF m 171 #[.val (.int p0), .val (.int p1), .val (.int p2), .val (.int p3), .val (.int p4), .val (.int kk), .val (.int nv), .val (.int ka), .val (.int kb), .val (.int kc), .val (.ref b1), .val (.ref r3)] [(.int kk), (.int (kk + (1 : Int32)))])) (fun _ ks_ => XS.iload X3.here hx rfl (hb hby at_169) rfl  ks_) ?_
            refine go (u' := T3.setTop (mkF m 172 #[.val (.int p0), .val (.int p1), .val (.int p2), .val (.int p3), .val (.int p4), .val (.int kk), .val (.int nv), .val (.int ka), .val (.int kb), .val (.int kc), .val (.ref b1), .val (.ref r3)] [(.int (1 : Int32)), (.int kk), (.int (kk + (1 : Int32)))])) (fun _ ks_ => XS.iconst X3.here hx rfl (hb hby at_171) ks_) ?_
            refine go (u' := T3.setTop (mkF m 173 #[.val (.int p0), .val (.int p1), .val (.int p2), .val (.int p3), .val (.int p4), .val (.int kk), .val (.int nv), .val (.int ka), .val (.int kb), .val (.int kc), .val (.ref b1), .val (.ref r3)] [(.int (kk + (1 : Int32))), (.int (kk + (1 : Int32)))])) (fun _ ks_ => XS.iadd X3.here hx rfl (hb hby at_172) rfl ks_) ?_
            refine go (u' := T3.setTop (mkF m 178 #[.val (.int p0), .val (.int p1), .val (.int p2), .val (.int p3), .val (.int p4), .val (.int kk), .val (.int nv), .val (.int ka), .val (.int kb), .val (.int kc), .val (.ref b1), .val (.ref r3)] [])) (fun _ ks_ => XS.icmpYes X3.here hx rfl (pc0 := 173) (pc' := 178) rfl (hb hby at_173) rfl (teq rfl).1 (by decide) (by decide) ks_) ?_
            refine go (u' := T3.setTop (mkF m 180 #[.val (.int p0), .val (.int p1), .val (.int p2), .val (.int p3), .val (.int p4), .val (.int kk), .val (.int nv), .val (.int ka), .val (.int kb), .val (.int kc), .val (.ref b1), .val (.ref r3)] [(.ref r3)])) (fun _ ks_ => XS.aload X3.here hx rfl (hb hby at_178) rfl rfl ks_) ?_
            refine go (u' := T3.setTop (mkF m 181 #[.val (.int p0), .val (.int p1), .val (.int p2), .val (.int p3), .val (.int p4), .val (.int kk), .val (.int nv), .val (.int ka), .val (.int kb), .val (.int kc), .val (.ref b1), .val (.ref r3)] [(.int (0 : Int32)), (.ref r3)])) (fun _ ks_ => XS.iconst X3.here hx rfl (hb hby at_180) ks_) ?_
            refine go (u' := T3.setTop (mkF m 183 #[.val (.int p0), .val (.int p1), .val (.int p2), .val (.int p3), .val (.int p4), .val (.int kk), .val (.int nv), .val (.int ka), .val (.int kb), .val (.int kc), .val (.ref b1), .val (.ref r3)] [(.int kk), (.int (0 : Int32)), (.ref r3)])) (fun _ ks_ => XS.iload X3.here hx rfl (hb hby at_181) rfl  ks_) ?_
            refine go (u' := T3.setTop (mkF m 185 #[.val (.int p0), .val (.int p1), .val (.int p2), .val (.int p3), .val (.int p4), .val (.int kk), .val (.int nv), .val (.int ka), .val (.int kb), .val (.int kc), .val (.ref b1), .val (.ref r3)] [(.int nv), (.int kk), (.int (0 : Int32)), (.ref r3)])) (fun _ ks_ => XS.iload X3.here hx rfl (hb hby at_183) rfl  ks_) ?_
            refine go (u' := T3.setTop (mkF m 187 #[.val (.int p0), .val (.int p1), .val (.int p2), .val (.int p3), .val (.int p4), .val (.int kk), .val (.int nv), .val (.int ka), .val (.int kb), .val (.int kc), .val (.ref b1), .val (.ref r3)] [(.int ka), (.int nv), (.int kk), (.int (0 : Int32)), (.ref r3)])) (fun _ ks_ => XS.iload X3.here hx rfl (hb hby at_185) rfl  ks_) ?_
            refine go (u' := T3.setTop (mkF m 189 #[.val (.int p0), .val (.int p1), .val (.int p2), .val (.int p3), .val (.int p4), .val (.int kk), .val (.int nv), .val (.int ka), .val (.int kb), .val (.int kc), .val (.ref b1), .val (.ref r3)] [(.int kb), (.int ka), (.int nv), (.int kk), (.int (0 : Int32)), (.ref r3)])) (fun _ ks_ => XS.iload X3.here hx rfl (hb hby at_187) rfl  ks_) ?_
            refine go (u' := T3.setTop (mkF m 191 #[.val (.int p0), .val (.int p1), .val (.int p2), .val (.int p3), .val (.int p4), .val (.int kk), .val (.int nv), .val (.int ka), .val (.int kb), .val (.int kc), .val (.ref b1), .val (.ref r3)] [(.int kc), (.int kb), (.int ka), (.int nv), (.int kk), (.int (0 : Int32)), (.ref r3)])) (fun _ ks_ => XS.iload X3.here hx rfl (hb hby at_189) rfl  ks_) ?_
            obtain ⟨_, _, ⟨T6, L6, k6, n6⟩, -, X6, ⟨Lc6, hQ6, l6, y6, z6⟩, st6⟩ := Jvm.LawKit.callS X3 hx (y := (⟨"com/example/chartwright/chartwright/parse/ChartGrammarStartsPinLaw", "ok", "([IIIIIII)Z"⟩ : MethodName)) hown (mvT hZ (ww hw 5 rfl)) (mvT hZ (ww hw 6 rfl)) (mvT hZ (ww hw 7 rfl)) (mvT hZ (ww hw 8 rfl)) (by decide) (backOf (W := 0) (rm2 l Z a0 hw [] r3 (0 : Int32) kk nv ka kb kc (kk + (1 : Int32)).toNatClampNeg (F2 (F1 (own_l []) 0) kk.toNatClampNeg) T3.heap n0 Z3 Fa4 (own_hin (0 : Int32) kk hkr (by decide))) hZ (ww hw 8 rfl) (ww hw 7 rfl) (by decide) (by decide)) (g := (mkF m 191 #[.val (.int p0), .val (.int p1), .val (.int p2), .val (.int p3), .val (.int p4), .val (.int kk), .val (.int nv), .val (.int ka), .val (.int kb), .val (.int kc), .val (.ref b1), .val (.ref r3)] [(.int kc), (.int kb), (.int ka), (.int nv), (.int kk), (.int (0 : Int32)), (.ref r3)])) rfl (by rw [hml]; rfl) (argsL := [(.ref r3), (.int (0 : Int32)), (.int kk), (.int nv), (.int ka), (.int kb), (.int kc)]) (rest := []) (lenOf pd__40__91_IIIIIII_41_Z rfl) rfl (by show 2 * 0 + _ ≤ _; exact Nat.le_of_eq rfl) (hb hby at_191) (fun _ _ => ⟨rfl, (rfl : T3.heap = _), (by decide : 2 + 0 ≤ _), (by decide : 5 + 0 ≤ _)⟩)
            dsimp only [Pt.U, Pt.locs, Pt.cells, Pt.slots] at X6 l6 y6 z6 st6 hQ6
            subst l6 y6 z6
            obtain ⟨rfl, N6q, eq6⟩ := hQ6
            have N6 := Fr.app N3 N6q
            refine go (u' := T6.setTop (mkF m 194 #[.val (.int p0), .val (.int p1), .val (.int p2), .val (.int p3), .val (.int p4), .val (.int kk), .val (.int nv), .val (.int ka), .val (.int kb), .val (.int kc), .val (.ref b1), .val (.ref r3)] [(.int (B ((kk < (0 : Int32)) ∨ (((F2 (F1 (own_l []) 0) kk.toNatClampNeg) (0 : Int32).toNatClampNeg) = (own_below (0 : Int32) nv ka kb kc)))))])) st6 ?_
            refine go (u' := T6.setTop (mkF m 197 #[.val (.int p0), .val (.int p1), .val (.int p2), .val (.int p3), .val (.int p4), .val (.int kk), .val (.int nv), .val (.int ka), .val (.int kb), .val (.int kc), .val (.ref b1), .val (.ref r3)] [])) (fun _ ks_ => XS.ifNo X6.here hx rfl (hb hby at_194) rfl (bT (show ((kk < (0 : Int32)) ∨ (((F2 (F1 (own_l []) 0) kk.toNatClampNeg) (0 : Int32).toNatClampNeg) = (own_below (0 : Int32) nv ka kb kc))) from (own_ok0 kk nv ka kb kc 0 hkr c78_1))).2 ks_) ?_
            refine go (u' := T6.setTop (mkF m 199 #[.val (.int p0), .val (.int p1), .val (.int p2), .val (.int p3), .val (.int p4), .val (.int kk), .val (.int nv), .val (.int ka), .val (.int kb), .val (.int kc), .val (.ref b1), .val (.ref r3)] [(.ref r3)])) (fun _ ks_ => XS.aload X6.here hx rfl (hb hby at_197) rfl rfl ks_) ?_
            refine go (u' := T6.setTop (mkF m 200 #[.val (.int p0), .val (.int p1), .val (.int p2), .val (.int p3), .val (.int p4), .val (.int kk), .val (.int nv), .val (.int ka), .val (.int kb), .val (.int kc), .val (.ref b1), .val (.ref r3)] [(.int (1 : Int32)), (.ref r3)])) (fun _ ks_ => XS.iconst X6.here hx rfl (hb hby at_199) ks_) ?_
            refine go (u' := T6.setTop (mkF m 202 #[.val (.int p0), .val (.int p1), .val (.int p2), .val (.int p3), .val (.int p4), .val (.int kk), .val (.int nv), .val (.int ka), .val (.int kb), .val (.int kc), .val (.ref b1), .val (.ref r3)] [(.int kk), (.int (1 : Int32)), (.ref r3)])) (fun _ ks_ => XS.iload X6.here hx rfl (hb hby at_200) rfl  ks_) ?_
            refine go (u' := T6.setTop (mkF m 204 #[.val (.int p0), .val (.int p1), .val (.int p2), .val (.int p3), .val (.int p4), .val (.int kk), .val (.int nv), .val (.int ka), .val (.int kb), .val (.int kc), .val (.ref b1), .val (.ref r3)] [(.int nv), (.int kk), (.int (1 : Int32)), (.ref r3)])) (fun _ ks_ => XS.iload X6.here hx rfl (hb hby at_202) rfl  ks_) ?_
            refine go (u' := T6.setTop (mkF m 206 #[.val (.int p0), .val (.int p1), .val (.int p2), .val (.int p3), .val (.int p4), .val (.int kk), .val (.int nv), .val (.int ka), .val (.int kb), .val (.int kc), .val (.ref b1), .val (.ref r3)] [(.int ka), (.int nv), (.int kk), (.int (1 : Int32)), (.ref r3)])) (fun _ ks_ => XS.iload X6.here hx rfl (hb hby at_204) rfl  ks_) ?_
            refine go (u' := T6.setTop (mkF m 208 #[.val (.int p0), .val (.int p1), .val (.int p2), .val (.int p3), .val (.int p4), .val (.int kk), .val (.int nv), .val (.int ka), .val (.int kb), .val (.int kc), .val (.ref b1), .val (.ref r3)] [(.int kb), (.int ka), (.int nv), (.int kk), (.int (1 : Int32)), (.ref r3)])) (fun _ ks_ => XS.iload X6.here hx rfl (hb hby at_206) rfl  ks_) ?_
            refine go (u' := T6.setTop (mkF m 210 #[.val (.int p0), .val (.int p1), .val (.int p2), .val (.int p3), .val (.int p4), .val (.int kk), .val (.int nv), .val (.int ka), .val (.int kb), .val (.int kc), .val (.ref b1), .val (.ref r3)] [(.int kc), (.int kb), (.int ka), (.int nv), (.int kk), (.int (1 : Int32)), (.ref r3)])) (fun _ ks_ => XS.iload X6.here hx rfl (hb hby at_208) rfl  ks_) ?_
            obtain ⟨_, _, ⟨T7, L7, k7, n7⟩, -, X7, ⟨Lc7, hQ7, l7, y7, z7⟩, st7⟩ := Jvm.LawKit.callS X6 hx (y := (⟨"com/example/chartwright/chartwright/parse/ChartGrammarStartsPinLaw", "ok", "([IIIIIII)Z"⟩ : MethodName)) hown (mvT hZ (ww hw 5 rfl)) (mvT hZ (ww hw 6 rfl)) (mvT hZ (ww hw 7 rfl)) (mvT hZ (ww hw 8 rfl)) (by decide) (backOf (W := 0) (rm2 l Z a0 hw [] r3 (1 : Int32) kk nv ka kb kc (kk + (1 : Int32)).toNatClampNeg (F2 (F1 (own_l []) 0) kk.toNatClampNeg) T3.heap n0 Z3 Fa4 (own_hin (1 : Int32) kk hkr (by decide))) hZ (ww hw 8 rfl) (ww hw 7 rfl) (by decide) (by decide)) (g := (mkF m 210 #[.val (.int p0), .val (.int p1), .val (.int p2), .val (.int p3), .val (.int p4), .val (.int kk), .val (.int nv), .val (.int ka), .val (.int kb), .val (.int kc), .val (.ref b1), .val (.ref r3)] [(.int kc), (.int kb), (.int ka), (.int nv), (.int kk), (.int (1 : Int32)), (.ref r3)])) rfl (by rw [hml]; rfl) (argsL := [(.ref r3), (.int (1 : Int32)), (.int kk), (.int nv), (.int ka), (.int kb), (.int kc)]) (rest := []) (lenOf pd__40__91_IIIIIII_41_Z rfl) rfl (by show 2 * 0 + _ ≤ _; exact Nat.le_of_eq rfl) (hb hby at_210) (fun _ _ => ⟨rfl, eq6, (by decide : 2 + 0 ≤ _), (by decide : 5 + 0 ≤ _)⟩)
            dsimp only [Pt.U, Pt.locs, Pt.cells, Pt.slots] at X7 l7 y7 z7 st7 hQ7
            subst l7 y7 z7
            obtain ⟨rfl, N7q, eq7⟩ := hQ7
            have N7 := Fr.app N6 N7q
            refine go (u' := T7.setTop (mkF m 213 #[.val (.int p0), .val (.int p1), .val (.int p2), .val (.int p3), .val (.int p4), .val (.int kk), .val (.int nv), .val (.int ka), .val (.int kb), .val (.int kc), .val (.ref b1), .val (.ref r3)] [(.int (B ((kk < (1 : Int32)) ∨ (((F2 (F1 (own_l []) 0) kk.toNatClampNeg) (1 : Int32).toNatClampNeg) = (own_below (1 : Int32) nv ka kb kc)))))])) st7 ?_
            refine go (u' := T7.setTop (mkF m 216 #[.val (.int p0), .val (.int p1), .val (.int p2), .val (.int p3), .val (.int p4), .val (.int kk), .val (.int nv), .val (.int ka), .val (.int kb), .val (.int kc), .val (.ref b1), .val (.ref r3)] [])) (fun _ ks_ => XS.ifNo X7.here hx rfl (hb hby at_213) rfl (bT (show ((kk < (1 : Int32)) ∨ (((F2 (F1 (own_l []) 0) kk.toNatClampNeg) (1 : Int32).toNatClampNeg) = (own_below (1 : Int32) nv ka kb kc))) from (own_ok0 kk nv ka kb kc 1 hkr c78_1))).2 ks_) ?_
            refine go (u' := T7.setTop (mkF m 218 #[.val (.int p0), .val (.int p1), .val (.int p2), .val (.int p3), .val (.int p4), .val (.int kk), .val (.int nv), .val (.int ka), .val (.int kb), .val (.int kc), .val (.ref b1), .val (.ref r3)] [(.ref r3)])) (fun _ ks_ => XS.aload X7.here hx rfl (hb hby at_216) rfl rfl ks_) ?_
            refine go (u' := T7.setTop (mkF m 219 #[.val (.int p0), .val (.int p1), .val (.int p2), .val (.int p3), .val (.int p4), .val (.int kk), .val (.int nv), .val (.int ka), .val (.int kb), .val (.int kc), .val (.ref b1), .val (.ref r3)] [(.int (2 : Int32)), (.ref r3)])) (fun _ ks_ => XS.iconst X7.here hx rfl (hb hby at_218) ks_) ?_
            refine go (u' := T7.setTop (mkF m 221 #[.val (.int p0), .val (.int p1), .val (.int p2), .val (.int p3), .val (.int p4), .val (.int kk), .val (.int nv), .val (.int ka), .val (.int kb), .val (.int kc), .val (.ref b1), .val (.ref r3)] [(.int kk), (.int (2 : Int32)), (.ref r3)])) (fun _ ks_ => XS.iload X7.here hx rfl (hb hby at_219) rfl  ks_) ?_
            refine go (u' := T7.setTop (mkF m 223 #[.val (.int p0), .val (.int p1), .val (.int p2), .val (.int p3), .val (.int p4), .val (.int kk), .val (.int nv), .val (.int ka), .val (.int kb), .val (.int kc), .val (.ref b1), .val (.ref r3)] [(.int nv), (.int kk), (.int (2 : Int32)), (.ref r3)])) (fun _ ks_ => XS.iload X7.here hx rfl (hb hby at_221) rfl  ks_) ?_
            refine go (u' := T7.setTop (mkF m 225 #[.val (.int p0), .val (.int p1), .val (.int p2), .val (.int p3), .val (.int p4), .val (.int kk), .val (.int nv), .val (.int ka), .val (.int kb), .val (.int kc), .val (.ref b1), .val (.ref r3)] [(.int ka), (.int nv), (.int kk), (.int (2 : Int32)), (.ref r3)])) (fun _ ks_ => XS.iload X7.here hx rfl (hb hby at_223) rfl  ks_) ?_
            refine go (u' := T7.setTop (mkF m 227 #[.val (.int p0), .val (.int p1), .val (.int p2), .val (.int p3), .val (.int p4), .val (.int kk), .val (.int nv), .val (.int ka), .val (.int kb), .val (.int kc), .val (.ref b1), .val (.ref r3)] [(.int kb), (.int ka), (.int nv), (.int kk), (.int (2 : Int32)), (.ref r3)])) (fun _ ks_ => XS.iload X7.here hx rfl (hb hby at_225) rfl  ks_) ?_
            refine go (u' := T7.setTop (mkF m 229 #[.val (.int p0), .val (.int p1), .val (.int p2), .val (.int p3), .val (.int p4), .val (.int kk), .val (.int nv), .val (.int ka), .val (.int kb), .val (.int kc), .val (.ref b1), .val (.ref r3)] [(.int kc), (.int kb), (.int ka), (.int nv), (.int kk), (.int (2 : Int32)), (.ref r3)])) (fun _ ks_ => XS.iload X7.here hx rfl (hb hby at_227) rfl  ks_) ?_
            obtain ⟨_, _, ⟨T8, L8, k8, n8⟩, -, X8, ⟨Lc8, hQ8, l8, y8, z8⟩, st8⟩ := Jvm.LawKit.callS X7 hx (y := (⟨"com/example/chartwright/chartwright/parse/ChartGrammarStartsPinLaw", "ok", "([IIIIIII)Z"⟩ : MethodName)) hown (mvT hZ (ww hw 5 rfl)) (mvT hZ (ww hw 6 rfl)) (mvT hZ (ww hw 7 rfl)) (mvT hZ (ww hw 8 rfl)) (by decide) (backOf (W := 0) (rm2 l Z a0 hw [] r3 (2 : Int32) kk nv ka kb kc (kk + (1 : Int32)).toNatClampNeg (F2 (F1 (own_l []) 0) kk.toNatClampNeg) T3.heap n0 Z3 Fa4 (own_hin (2 : Int32) kk hkr (by decide))) hZ (ww hw 8 rfl) (ww hw 7 rfl) (by decide) (by decide)) (g := (mkF m 229 #[.val (.int p0), .val (.int p1), .val (.int p2), .val (.int p3), .val (.int p4), .val (.int kk), .val (.int nv), .val (.int ka), .val (.int kb), .val (.int kc), .val (.ref b1), .val (.ref r3)] [(.int kc), (.int kb), (.int ka), (.int nv), (.int kk), (.int (2 : Int32)), (.ref r3)])) rfl (by rw [hml]; rfl) (argsL := [(.ref r3), (.int (2 : Int32)), (.int kk), (.int nv), (.int ka), (.int kb), (.int kc)]) (rest := []) (lenOf pd__40__91_IIIIIII_41_Z rfl) rfl (by show 2 * 0 + _ ≤ _; exact Nat.le_of_eq rfl) (hb hby at_229) (fun _ _ => ⟨rfl, eq7, (by decide : 2 + 0 ≤ _), (by decide : 5 + 0 ≤ _)⟩)
            dsimp only [Pt.U, Pt.locs, Pt.cells, Pt.slots] at X8 l8 y8 z8 st8 hQ8
            subst l8 y8 z8
            obtain ⟨rfl, N8q, eq8⟩ := hQ8
            have N8 := Fr.app N7 N8q
            refine go (u' := T8.setTop (mkF m 232 #[.val (.int p0), .val (.int p1), .val (.int p2), .val (.int p3), .val (.int p4), .val (.int kk), .val (.int nv), .val (.int ka), .val (.int kb), .val (.int kc), .val (.ref b1), .val (.ref r3)] [(.int (B ((kk < (2 : Int32)) ∨ (((F2 (F1 (own_l []) 0) kk.toNatClampNeg) (2 : Int32).toNatClampNeg) = (own_below (2 : Int32) nv ka kb kc)))))])) st8 ?_
            refine go (u' := T8.setTop (mkF m 235 #[.val (.int p0), .val (.int p1), .val (.int p2), .val (.int p3), .val (.int p4), .val (.int kk), .val (.int nv), .val (.int ka), .val (.int kb), .val (.int kc), .val (.ref b1), .val (.ref r3)] [])) (fun _ ks_ => XS.ifNo X8.here hx rfl (hb hby at_232) rfl (bT (show ((kk < (2 : Int32)) ∨ (((F2 (F1 (own_l []) 0) kk.toNatClampNeg) (2 : Int32).toNatClampNeg) = (own_below (2 : Int32) nv ka kb kc))) from (own_ok0 kk nv ka kb kc 2 hkr c78_1))).2 ks_) ?_
            refine go (u' := T8.setTop (mkF m 237 #[.val (.int p0), .val (.int p1), .val (.int p2), .val (.int p3), .val (.int p4), .val (.int kk), .val (.int nv), .val (.int ka), .val (.int kb), .val (.int kc), .val (.ref b1), .val (.ref r3)] [(.ref r3)])) (fun _ ks_ => XS.aload X8.here hx rfl (hb hby at_235) rfl rfl ks_) ?_
            refine go (u' := T8.setTop (mkF m 238 #[.val (.int p0), .val (.int p1), .val (.int p2), .val (.int p3), .val (.int p4), .val (.int kk), .val (.int nv), .val (.int ka), .val (.int kb), .val (.int kc), .val (.ref b1), .val (.ref r3)] [(.int (3 : Int32)), (.ref r3)])) (fun _ ks_ => XS.iconst X8.here hx rfl (hb hby at_237) ks_) ?_
            refine go (u' := T8.setTop (mkF m 240 #[.val (.int p0), .val (.int p1), .val (.int p2), .val (.int p3), .val (.int p4), .val (.int kk), .val (.int nv), .val (.int ka), .val (.int kb), .val (.int kc), .val (.ref b1), .val (.ref r3)] [(.int kk), (.int (3 : Int32)), (.ref r3)])) (fun _ ks_ => XS.iload X8.here hx rfl (hb hby at_238) rfl  ks_) ?_
            refine go (u' := T8.setTop (mkF m 242 #[.val (.int p0), .val (.int p1), .val (.int p2), .val (.int p3), .val (.int p4), .val (.int kk), .val (.int nv), .val (.int ka), .val (.int kb), .val (.int kc), .val (.ref b1), .val (.ref r3)] [(.int nv), (.int kk), (.int (3 : Int32)), (.ref r3)])) (fun _ ks_ => XS.iload X8.here hx rfl (hb hby at_240) rfl  ks_) ?_
            refine go (u' := T8.setTop (mkF m 244 #[.val (.int p0), .val (.int p1), .val (.int p2), .val (.int p3), .val (.int p4), .val (.int kk), .val (.int nv), .val (.int ka), .val (.int kb), .val (.int kc), .val (.ref b1), .val (.ref r3)] [(.int ka), (.int nv), (.int kk), (.int (3 : Int32)), (.ref r3)])) (fun _ ks_ => XS.iload X8.here hx rfl (hb hby at_242) rfl  ks_) ?_
            refine go (u' := T8.setTop (mkF m 246 #[.val (.int p0), .val (.int p1), .val (.int p2), .val (.int p3), .val (.int p4), .val (.int kk), .val (.int nv), .val (.int ka), .val (.int kb), .val (.int kc), .val (.ref b1), .val (.ref r3)] [(.int kb), (.int ka), (.int nv), (.int kk), (.int (3 : Int32)), (.ref r3)])) (fun _ ks_ => XS.iload X8.here hx rfl (hb hby at_244) rfl  ks_) ?_
            refine go (u' := T8.setTop (mkF m 248 #[.val (.int p0), .val (.int p1), .val (.int p2), .val (.int p3), .val (.int p4), .val (.int kk), .val (.int nv), .val (.int ka), .val (.int kb), .val (.int kc), .val (.ref b1), .val (.ref r3)] [(.int kc), (.int kb), (.int ka), (.int nv), (.int kk), (.int (3 : Int32)), (.ref r3)])) (fun _ ks_ => XS.iload X8.here hx rfl (hb hby at_246) rfl  ks_) ?_
            obtain ⟨_, _, ⟨T9, L9, k9, n9⟩, -, X9, ⟨Lc9, hQ9, l9, y9, z9⟩, st9⟩ := Jvm.LawKit.callS X8 hx (y := (⟨"com/example/chartwright/chartwright/parse/ChartGrammarStartsPinLaw", "ok", "([IIIIIII)Z"⟩ : MethodName)) hown (mvT hZ (ww hw 5 rfl)) (mvT hZ (ww hw 6 rfl)) (mvT hZ (ww hw 7 rfl)) (mvT hZ (ww hw 8 rfl)) (by decide) (backOf (W := 0) (rm2 l Z a0 hw [] r3 (3 : Int32) kk nv ka kb kc (kk + (1 : Int32)).toNatClampNeg (F2 (F1 (own_l []) 0) kk.toNatClampNeg) T3.heap n0 Z3 Fa4 (own_hin (3 : Int32) kk hkr (by decide))) hZ (ww hw 8 rfl) (ww hw 7 rfl) (by decide) (by decide)) (g := (mkF m 248 #[.val (.int p0), .val (.int p1), .val (.int p2), .val (.int p3), .val (.int p4), .val (.int kk), .val (.int nv), .val (.int ka), .val (.int kb), .val (.int kc), .val (.ref b1), .val (.ref r3)] [(.int kc), (.int kb), (.int ka), (.int nv), (.int kk), (.int (3 : Int32)), (.ref r3)])) rfl (by rw [hml]; rfl) (argsL := [(.ref r3), (.int (3 : Int32)), (.int kk), (.int nv), (.int ka), (.int kb), (.int kc)]) (rest := []) (lenOf pd__40__91_IIIIIII_41_Z rfl) rfl (by show 2 * 0 + _ ≤ _; exact Nat.le_of_eq rfl) (hb hby at_248) (fun _ _ => ⟨rfl, eq8, (by decide : 2 + 0 ≤ _), (by decide : 5 + 0 ≤ _)⟩)
            dsimp only [Pt.U, Pt.locs, Pt.cells, Pt.slots] at X9 l9 y9 z9 st9 hQ9
            subst l9 y9 z9
            obtain ⟨rfl, N9q, eq9⟩ := hQ9
            have N9 := Fr.app N8 N9q
            refine go (u' := T9.setTop (mkF m 251 #[.val (.int p0), .val (.int p1), .val (.int p2), .val (.int p3), .val (.int p4), .val (.int kk), .val (.int nv), .val (.int ka), .val (.int kb), .val (.int kc), .val (.ref b1), .val (.ref r3)] [(.int (B ((kk < (3 : Int32)) ∨ (((F2 (F1 (own_l []) 0) kk.toNatClampNeg) (3 : Int32).toNatClampNeg) = (own_below (3 : Int32) nv ka kb kc)))))])) st9 ?_
            refine go (u' := T9.setTop (mkF m 254 #[.val (.int p0), .val (.int p1), .val (.int p2), .val (.int p3), .val (.int p4), .val (.int kk), .val (.int nv), .val (.int ka), .val (.int kb), .val (.int kc), .val (.ref b1), .val (.ref r3)] [])) (fun _ ks_ => XS.ifNo X9.here hx rfl (hb hby at_251) rfl (bT (show ((kk < (3 : Int32)) ∨ (((F2 (F1 (own_l []) 0) kk.toNatClampNeg) (3 : Int32).toNatClampNeg) = (own_below (3 : Int32) nv ka kb kc))) from (own_ok0 kk nv ka kb kc 3 hkr c78_1))).2 ks_) ?_
            refine go (u' := T9.setTop (mkF m 256 #[.val (.int p0), .val (.int p1), .val (.int p2), .val (.int p3), .val (.int p4), .val (.int kk), .val (.int nv), .val (.int ka), .val (.int kb), .val (.int kc), .val (.ref b1), .val (.ref r3)] [(.ref r3)])) (fun _ ks_ => XS.aload X9.here hx rfl (hb hby at_254) rfl rfl ks_) ?_
            refine go (u' := T9.setTop (mkF m 257 #[.val (.int p0), .val (.int p1), .val (.int p2), .val (.int p3), .val (.int p4), .val (.int kk), .val (.int nv), .val (.int ka), .val (.int kb), .val (.int kc), .val (.ref b1), .val (.ref r3)] [(.int (4 : Int32)), (.ref r3)])) (fun _ ks_ => XS.iconst X9.here hx rfl (hb hby at_256) ks_) ?_
            refine go (u' := T9.setTop (mkF m 259 #[.val (.int p0), .val (.int p1), .val (.int p2), .val (.int p3), .val (.int p4), .val (.int kk), .val (.int nv), .val (.int ka), .val (.int kb), .val (.int kc), .val (.ref b1), .val (.ref r3)] [(.int kk), (.int (4 : Int32)), (.ref r3)])) (fun _ ks_ => XS.iload X9.here hx rfl (hb hby at_257) rfl  ks_) ?_
            refine go (u' := T9.setTop (mkF m 261 #[.val (.int p0), .val (.int p1), .val (.int p2), .val (.int p3), .val (.int p4), .val (.int kk), .val (.int nv), .val (.int ka), .val (.int kb), .val (.int kc), .val (.ref b1), .val (.ref r3)] [(.int nv), (.int kk), (.int (4 : Int32)), (.ref r3)])) (fun _ ks_ => XS.iload X9.here hx rfl (hb hby at_259) rfl  ks_) ?_
            refine go (u' := T9.setTop (mkF m 263 #[.val (.int p0), .val (.int p1), .val (.int p2), .val (.int p3), .val (.int p4), .val (.int kk), .val (.int nv), .val (.int ka), .val (.int kb), .val (.int kc), .val (.ref b1), .val (.ref r3)] [(.int ka), (.int nv), (.int kk), (.int (4 : Int32)), (.ref r3)])) (fun _ ks_ => XS.iload X9.here hx rfl (hb hby at_261) rfl  ks_) ?_
            refine go (u' := T9.setTop (mkF m 265 #[.val (.int p0), .val (.int p1), .val (.int p2), .val (.int p3), .val (.int p4), .val (.int kk), .val (.int nv), .val (.int ka), .val (.int kb), .val (.int kc), .val (.ref b1), .val (.ref r3)] [(.int kb), (.int ka), (.int nv), (.int kk), (.int (4 : Int32)), (.ref r3)])) (fun _ ks_ => XS.iload X9.here hx rfl (hb hby at_263) rfl  ks_) ?_
            refine go (u' := T9.setTop (mkF m 267 #[.val (.int p0), .val (.int p1), .val (.int p2), .val (.int p3), .val (.int p4), .val (.int kk), .val (.int nv), .val (.int ka), .val (.int kb), .val (.int kc), .val (.ref b1), .val (.ref r3)] [(.int kc), (.int kb), (.int ka), (.int nv), (.int kk), (.int (4 : Int32)), (.ref r3)])) (fun _ ks_ => XS.iload X9.here hx rfl (hb hby at_265) rfl  ks_) ?_
            obtain ⟨_, _, ⟨T10, L10, k10, n10⟩, -, X10, ⟨Lc10, hQ10, l10, y10, z10⟩, st10⟩ := Jvm.LawKit.callS X9 hx (y := (⟨"com/example/chartwright/chartwright/parse/ChartGrammarStartsPinLaw", "ok", "([IIIIIII)Z"⟩ : MethodName)) hown (mvT hZ (ww hw 5 rfl)) (mvT hZ (ww hw 6 rfl)) (mvT hZ (ww hw 7 rfl)) (mvT hZ (ww hw 8 rfl)) (by decide) (backOf (W := 0) (rm2 l Z a0 hw [] r3 (4 : Int32) kk nv ka kb kc (kk + (1 : Int32)).toNatClampNeg (F2 (F1 (own_l []) 0) kk.toNatClampNeg) T3.heap n0 Z3 Fa4 (own_hin (4 : Int32) kk hkr (by decide))) hZ (ww hw 8 rfl) (ww hw 7 rfl) (by decide) (by decide)) (g := (mkF m 267 #[.val (.int p0), .val (.int p1), .val (.int p2), .val (.int p3), .val (.int p4), .val (.int kk), .val (.int nv), .val (.int ka), .val (.int kb), .val (.int kc), .val (.ref b1), .val (.ref r3)] [(.int kc), (.int kb), (.int ka), (.int nv), (.int kk), (.int (4 : Int32)), (.ref r3)])) rfl (by rw [hml]; rfl) (argsL := [(.ref r3), (.int (4 : Int32)), (.int kk), (.int nv), (.int ka), (.int kb), (.int kc)]) (rest := []) (lenOf pd__40__91_IIIIIII_41_Z rfl) rfl (by show 2 * 0 + _ ≤ _; exact Nat.le_of_eq rfl) (hb hby at_267) (fun _ _ => ⟨rfl, eq9, (by decide : 2 + 0 ≤ _), (by decide : 5 + 0 ≤ _)⟩)
            dsimp only [Pt.U, Pt.locs, Pt.cells, Pt.slots] at X10 l10 y10 z10 st10 hQ10
            subst l10 y10 z10
            obtain ⟨rfl, N10q, eq10⟩ := hQ10
            have N10 := Fr.app N9 N10q
            refine go (u' := T10.setTop (mkF m 270 #[.val (.int p0), .val (.int p1), .val (.int p2), .val (.int p3), .val (.int p4), .val (.int kk), .val (.int nv), .val (.int ka), .val (.int kb), .val (.int kc), .val (.ref b1), .val (.ref r3)] [(.int (B ((kk < (4 : Int32)) ∨ (((F2 (F1 (own_l []) 0) kk.toNatClampNeg) (4 : Int32).toNatClampNeg) = (own_below (4 : Int32) nv ka kb kc)))))])) st10 ?_
            refine go (u' := T10.setTop (mkF m 273 #[.val (.int p0), .val (.int p1), .val (.int p2), .val (.int p3), .val (.int p4), .val (.int kk), .val (.int nv), .val (.int ka), .val (.int kb), .val (.int kc), .val (.ref b1), .val (.ref r3)] [])) (fun _ ks_ => XS.ifNo X10.here hx rfl (hb hby at_270) rfl (bT (show ((kk < (4 : Int32)) ∨ (((F2 (F1 (own_l []) 0) kk.toNatClampNeg) (4 : Int32).toNatClampNeg) = (own_below (4 : Int32) nv ka kb kc))) from (own_ok0 kk nv ka kb kc 4 hkr c78_1))).2 ks_) ?_
            refine go (u' := T10.setTop (mkF m 274 #[.val (.int p0), .val (.int p1), .val (.int p2), .val (.int p3), .val (.int p4), .val (.int kk), .val (.int nv), .val (.int ka), .val (.int kb), .val (.int kc), .val (.ref b1), .val (.ref r3)] [(.int (1 : Int32))])) (fun _ ks_ => XS.iconst X10.here hx rfl (hb hby at_273) ks_) ?_
            refine go (u' := T10.setTop (mkF m 278 #[.val (.int p0), .val (.int p1), .val (.int p2), .val (.int p3), .val (.int p4), .val (.int kk), .val (.int nv), .val (.int ka), .val (.int kb), .val (.int kc), .val (.ref b1), .val (.ref r3)] [(.int (1 : Int32))])) (fun _ ks_ => XS.goto X10.here hx rfl (pc0 := 274) (pc' := 278) rfl (hb hby at_274) (by decide) (by decide) ks_) ?_
            rw [hG]
            refine gN X10 hx hlk (t := .boolean) hret (by simp) rfl (hb hby at_278) ?_ (Nat.le_of_ble_eq_true rfl) (Nat.le_of_ble_eq_true rfl)
            show Q_rm0 Z p0 p1 p2 p3 p4 h0 n0 (some (.int (1 : Int32))) T10.heap _
            rw [eq10]
            exact ⟨rfl, N10⟩
          ·
            refine go (u' := s₁.setTop (mkF m 89 #[.val (.int p0), .val (.int p1), .val (.int p2), .val (.int p3), .val (.int p4), .val (.int kk), .val (.int nv), .val (.int ka), .val (.int kb), .val (.int kc), .unset, .unset] [])) (fun _ ks_ => XS.ifYes X0.here hx rfl (pc0 := 78) (pc' := 89) rfl (hb hby at_78) rfl ((if0 _ _).trans (feq c78_1).2) (by decide) (by decide) ks_) ?_
            refine go (u' := s₁.setTop (mkF m 91 #[.val (.int p0), .val (.int p1), .val (.int p2), .val (.int p3), .val (.int p4), .val (.int kk), .val (.int nv), .val (.int ka), .val (.int kb), .val (.int kc), .unset, .unset] [(.int nv)])) (fun _ ks_ => XS.iload X0.here hx rfl (hb hby at_89) rfl  ks_) ?_
            refine go (u' := s₁.setTop (mkF m 92 #[.val (.int p0), .val (.int p1), .val (.int p2), .val (.int p3), .val (.int p4), .val (.int kk), .val (.int nv), .val (.int ka), .val (.int kb), .val (.int kc), .unset, .unset] [(.int (1 : Int32)), (.int nv)])) (fun _ ks_ => XS.iconst X0.here hx rfl (hb hby at_91) ks_) ?_
            by_cases c92_2 : nv = (1 : Int32)
            ·
              refine go (u' := s₁.setTop (mkF m 95 #[.val (.int p0), .val (.int p1), .val (.int p2), .val (.int p3), .val (.int p4), .val (.int kk), .val (.int nv), .val (.int ka), .val (.int kb), .val (.int kc), .unset, .unset] [])) (fun _ ks_ => XS.icmpNo X0.here hx rfl (hb hby at_92) rfl (teq c92_2).2 ks_) ?_
              refine go (u' := s₁.setTop (mkF m 96 #[.val (.int p0), .val (.int p1), .val (.int p2), .val (.int p3), .val (.int p4), .val (.int kk), .val (.int nv), .val (.int ka), .val (.int kb), .val (.int kc), .unset, .unset] [(.int (1 : Int32))])) (fun _ ks_ => XS.iconst X0.here hx rfl (hb hby at_95) ks_) ?_
              obtain ⟨T11, h11, k11, X11, e11, E11, A11, st11⟩ := newP X0 hx hZ (ww hw 0 rfl) e0 (g := (mkF m 96 #[.val (.int p0), .val (.int p1), .val (.int p2), .val (.int p3), .val (.int p4), .val (.int kk), .val (.int nv), .val (.int ka), .val (.int kb), .val (.int kc), .unset, .unset] [(.int (1 : Int32))])) rfl (hb hby at_96) rfl (by decide) (cap := 1) (by decide) (by decide) (by decide) (by decide)
              obtain ⟨b11, g11⟩ : ∃ z, z = h0.size := ⟨_, rfl⟩
              rw [← g11] at A11 st11
              have g_b11 : n0 ≤ b11 := Nat.le_trans Z0 (Nat.le_of_eq g11.symm)
              have sz_b11 : h0.size ≤ b11 := Nat.le_trans (Keep.refl h0 []).1 (Nat.le_of_eq g11.symm)
              have K11 : Keep h0 h11 [] := (Keep.refl h0 []).ext E11
              have Z11 : n0 ≤ h11.size := Nat.le_trans Z0 E11.1
              have Fa12 : PI Z h11 b11 .int 1 (own_l [(0 : Int32)]) := PI.newL A11 (by decide) rfl rfl
              refine go (u' := T11.setTop (mkF m 98 #[.val (.int p0), .val (.int p1), .val (.int p2), .val (.int p3), .val (.int p4), .val (.int kk), .val (.int nv), .val (.int ka), .val (.int kb), .val (.int kc), .unset, .unset] [(.ref b11)])) st11 ?_
              refine go (u' := T11.setTop (mkF m 99 #[.val (.int p0), .val (.int p1), .val (.int p2), .val (.int p3), .val (.int p4), .val (.int kk), .val (.int nv), .val (.int ka), .val (.int kb), .val (.int kc), .unset, .unset] [(.ref b11), (.ref b11)])) (fun _ ks_ => XS.dup X11.here hx rfl (hb hby at_98) rfl rfl ks_) ?_
              refine go (u' := T11.setTop (mkF m 100 #[.val (.int p0), .val (.int p1), .val (.int p2), .val (.int p3), .val (.int p4), .val (.int kk), .val (.int nv), .val (.int ka), .val (.int kb), .val (.int kc), .unset, .unset] [(.int (0 : Int32)), (.ref b11), (.ref b11)])) (fun _ ks_ => XS.iconst X11.here hx rfl (hb hby at_99) ks_) ?_
              refine go (u' := T11.setTop (mkF m 102 #[.val (.int p0), .val (.int p1), .val (.int p2), .val (.int p3), .val (.int p4), .val (.int kk), .val (.int nv), .val (.int ka), .val (.int kb), .val (.int kc), .unset, .unset] [(.int ka), (.int (0 : Int32)), (.ref b11), (.ref b11)])) (fun _ ks_ => XS.iload X11.here hx rfl (hb hby at_100) rfl  ks_) ?_
              obtain ⟨T13, h13, X13, e13, W13, st13⟩ := own_iastore X11 hx hZ e11 Fa12 (j := (0 : Int32)) (x := ka)  (by decide) (by decide) (f := (mkF m 102 #[.val (.int p0), .val (.int p1), .val (.int p2), .val (.int p3), .val (.int p4), .val (.int kk), .val (.int nv), .val (.int ka), .val (.int kb), .val (.int kc), .unset, .unset] [(.int ka), (.int (0 : Int32)), (.ref b11), (.ref b11)])) rfl rfl (hb hby at_102)
              have N13 := Fr.snoc X13 N0 g_b11
              have K13 : Keep h0 h13 [] := K11.wr W13 (Or.inr sz_b11)
              have Z13 : n0 ≤ h13.size := Nat.le_trans Z11 (Keep.of_wr W13).1
              have Fa14 : PI Z h13 b11 .int 1 (own_l [ka]) := Fa12.setL (by decide) W13 rfl (Nat.le_of_ble_eq_true rfl) rfl
              refine go (u' := T13.setTop (mkF m 103 #[.val (.int p0), .val (.int p1), .val (.int p2), .val (.int p3), .val (.int p4), .val (.int kk), .val (.int nv), .val (.int ka), .val (.int kb), .val (.int kc), .unset, .unset] [(.ref b11)])) st13 ?_
              refine go (u' := T13.setTop (mkF m 105 #[.val (.int p0), .val (.int p1), .val (.int p2), .val (.int p3), .val (.int p4), .val (.int kk), .val (.int nv), .val (.int ka), .val (.int kb), .val (.int kc), .val (.ref b11), .unset] [])) (fun _ ks_ => XS.astore X13.here hx rfl (hb hby at_103) rfl rfl (l' := #[.val (.int p0), .val (.int p1), .val (.int p2), .val (.int p3), .val (.int p4), .val (.int kk), .val (.int nv), .val (.int ka), .val (.int kb), .val (.int kc), .val (.ref b11), .unset]) rfl ks_) ?_
              refine go (u' := T13.setTop (mkF m 152 #[.val (.int p0), .val (.int p1), .val (.int p2), .val (.int p3), .val (.int p4), .val (.int kk), .val (.int nv), .val (.int ka), .val (.int kb), .val (.int kc), .val (.ref b11), .unset] [])) (fun _ ks_ => XS.goto X13.here hx rfl (pc0 := 105) (pc' := 152) rfl (hb hby at_105) (by decide) (by decide) ks_) ?_
              refine go (u' := T13.setTop (mkF m 154 #[.val (.int p0), .val (.int p1), .val (.int p2), .val (.int p3), .val (.int p4), .val (.int kk), .val (.int nv), .val (.int ka), .val (.int kb), .val (.int kc), .val (.ref b11), .unset] [(.ref b11)])) (fun _ ks_ => XS.aload X13.here hx rfl (hb hby at_152) rfl rfl ks_) ?_
              refine go (u' := T13.setTop (mkF m 156 #[.val (.int p0), .val (.int p1), .val (.int p2), .val (.int p3), .val (.int p4), .val (.int kk), .val (.int nv), .val (.int ka), .val (.int kb), .val (.int kc), .val (.ref b11), .unset] [(.int kk), (.ref b11)])) (fun _ ks_ => XS.iload X13.here hx rfl (hb hby at_154) rfl  ks_) ?_
              have hk0 := own_nv p1 kk nv hnv (by rw [c92_2]; decide)
              obtain ⟨hka, hkb, hkc⟩ := own_abc p2 p3 p4 kk ka kb kc hkr hk0 hka hkb hkc
              obtain ⟨_, _, ⟨T15, L15, k15, n15⟩, -, X15, ⟨Lc15, hQ15, l15, y15, z15⟩, st15⟩ := Jvm.LawKit.callS X13 hx (y := (⟨"com/example/chartwright/chartwright/parse/ChartGrammar", "starts", "([II)[I"⟩ : MethodName)) hown (mvT hZ (ww hw 1 rfl)) (mvT hZ (ww hw 2 rfl)) (mvT hZ (ww hw 3 rfl)) (mvT hZ (ww hw 4 rfl)) (by decide) (backOf (W := 0) (rm1 l Z a0 hw [] b11 kk 1 (own_l [ka]) h13 n0 Z13 Fa14 hkr (own_he1 hka)) hZ (ww hw 4 rfl) (ww hw 3 rfl) (by decide) (by decide)) (g := (mkF m 156 #[.val (.int p0), .val (.int p1), .val (.int p2), .val (.int p3), .val (.int p4), .val (.int kk), .val (.int nv), .val (.int ka), .val (.int kb), .val (.int kc), .val (.ref b11), .unset] [(.int kk), (.ref b11)])) rfl (by rw [hml]; rfl) (argsL := [(.ref b11), (.int kk)]) (rest := []) (lenOf pd__40__91_II_41__91_I rfl) rfl (by show 2 * 0 + _ ≤ _; exact Nat.le_of_eq rfl) (hb hby at_156) (fun _ _ => ⟨rfl, e13, (by decide : 1 + 1 ≤ _), (by decide : 1 + 5 ≤ _)⟩)
              dsimp only [Pt.U, Pt.locs, Pt.cells, Pt.slots] at X15 l15 y15 z15 st15 hQ15
              subst l15 y15 z15
              obtain ⟨r15, rfl, N15q, Kq15, Fa16, gr_15⟩ := hQ15
              have N15 := Fr.app N13 N15q
              have K15 : Keep h0 T15.heap [] := K13.trans Kq15 all0
              have Z15 : n0 ≤ T15.heap.size := Nat.le_trans Z13 Kq15.1
              have Fa17 : PI Z T15.heap b11 .int 1 (own_l [ka]) := Fa14.keep Kq15 nin0
              have ne_b11_r15 : b11 ≠ r15 := Nat.ne_of_lt (Nat.lt_of_lt_of_le Fa14.lt gr_15)
              have g_r15 : n0 ≤ r15 := Nat.le_trans Z13 gr_15
              have sz_r15 : h0.size ≤ r15 := Nat.le_trans K13.1 gr_15
              refine go (u' := T15.setTop (mkF m 159 #[.val (.int p0), .val (.int p1), .val (.int p2), .val (.int p3), .val (.int p4), .val (.int kk), .val (.int nv), .val (.int ka), .val (.int kb), .val (.int kc), .val (.ref b11), .unset] [(.ref r15)])) st15 ?_
              refine go (u' := T15.setTop (mkF m 161 #[.val (.int p0), .val (.int p1), .val (.int p2), .val (.int p3), .val (.int p4), .val (.int kk), .val (.int nv), .val (.int ka), .val (.int kb), .val (.int kc), .val (.ref b11), .val (.ref r15)] [])) (fun _ ks_ => XS.astore X15.here hx rfl (hb hby at_159) rfl rfl (l' := #[.val (.int p0), .val (.int p1), .val (.int p2), .val (.int p3), .val (.int p4), .val (.int kk), .val (.int nv), .val (.int ka), .val (.int kb), .val (.int kc), .val (.ref b11), .val (.ref r15)]) rfl ks_) ?_
              refine go (u' := T15.setTop (mkF m 163 #[.val (.int p0), .val (.int p1), .val (.int p2), .val (.int p3), .val (.int p4), .val (.int kk), .val (.int nv), .val (.int ka), .val (.int kb), .val (.int kc), .val (.ref b11), .val (.ref r15)] [(.ref r15)])) (fun _ ks_ => XS.aload X15.here hx rfl (hb hby at_161) rfl rfl ks_) ?_
              refine go (u' := T15.setTop (mkF m 166 #[.val (.int p0), .val (.int p1), .val (.int p2), .val (.int p3), .val (.int p4), .val (.int kk), .val (.int nv), .val (.int ka), .val (.int kb), .val (.int kc), .val (.ref b11), .val (.ref r15)] [])) (fun _ ks_ => XS.ifnullNo X15.here hx rfl (hb hby at_163) rfl ks_) ?_
              refine go (u' := T15.setTop (mkF m 168 #[.val (.int p0), .val (.int p1), .val (.int p2), .val (.int p3), .val (.int p4), .val (.int kk), .val (.int nv), .val (.int ka), .val (.int kb), .val (.int kc), .val (.ref b11), .val (.ref r15)] [(.ref r15)])) (fun _ ks_ => XS.aload X15.here hx rfl (hb hby at_166) rfl rfl ks_) ?_
              refine go (u' := T15.setTop (mkF m 169 #[.val (.int p0), .val (.int p1), .val (.int p2), .val (.int p3), .val (.int p4), .val (.int kk), .val (.int nv), .val (.int ka), .val (.int kb), .val (.int kc), .val (.ref b11), .val (.ref r15)] [(.int (kk + (1 : Int32)))])) (own_alen X15 hx hZ (rfl : T15.heap = _) Fa16 (z := (kk + (1 : Int32))) (back32 (own_k1 hkr).1).1 (f := (mkF m 168 #[.val (.int p0), .val (.int p1), .val (.int p2), .val (.int p3), .val (.int p4), .val (.int kk), .val (.int nv), .val (.int ka), .val (.int kb), .val (.int kc), .val (.ref b11), .val (.ref r15)] [(.ref r15)])) rfl rfl (hb hby at_168)) ?_
              refine go (u' := T15.setTop (mkF m 171 #[.val (.int p0), .val (.int p1), .val (.int p2), .val (.int p3), .val (.int p4), .val (.int kk), .val (.int nv), .val (.int ka), .val (.int kb), .val (.int kc), .val (.ref b11), .val (.ref r15)] [(.int kk), (.int (kk + (1 : Int32)))])) (fun _ ks_ => XS.iload X15.here hx rfl (hb hby at_169) rfl  ks_) ?_
              refine go (u' := T15.setTop (mkF m 172 #[.val (.int p0), .val (.int p1), .val (.int p2), .val (.int p3), .val (.int p4), .val (.int kk), .val (.int nv), .val (.int ka), .val (.int kb), .val (.int kc), .val (.ref b11), .val (.ref r15)] [(.int (1 : Int32)), (.int kk), (.int (kk + (1 : Int32)))])) (fun _ ks_ => XS.iconst X15.here hx rfl (hb hby at_171) ks_) ?_
              refine go (u' := T15.setTop (mkF m 173 #[.val (.int p0), .val (.int p1), .val (.int p2), .val (.int p3), .val (.int p4), .val (.int kk), .val (.int nv), .val (.int ka), .val (.int kb), .val (.int kc), .val (.ref b11), .val (.ref r15)] [(.int (kk + (1 : Int32))), (.int (kk + (1 : Int32)))])) (fun _ ks_ => XS.iadd X15.here hx rfl (hb hby at_172) rfl ks_) ?_
              refine go (u' := T15.setTop (mkF m 178 #[.val (.int p0), .val (.int p1), .val (.int p2), .val (.int p3), .val (.int p4), .val (.int kk), .val (.int nv), .val (.int ka), .val (.int kb), .val (.int kc), .val (.ref b11), .val (.ref r15)] [])) (fun _ ks_ => XS.icmpYes X15.here hx rfl (pc0 := 173) (pc' := 178) rfl (hb hby at_173) rfl (teq rfl).1 (by decide) (by decide) ks_) ?_
              refine go (u' := T15.setTop (mkF m 180 #[.val (.int p0), .val (.int p1), .val (.int p2), .val (.int p3), .val (.int p4), .val (.int kk), .val (.int nv), .val (.int ka), .val (.int kb), .val (.int kc), .val (.ref b11), .val (.ref r15)] [(.ref r15)])) (fun _ ks_ => XS.aload X15.here hx rfl (hb hby at_178) rfl rfl ks_) ?_
              refine go (u' := T15.setTop (mkF m 181 #[.val (.int p0), .val (.int p1), .val (.int p2), .val (.int p3), .val (.int p4), .val (.int kk), .val (.int nv), .val (.int ka), .val (.int kb), .val (.int kc), .val (.ref b11), .val (.ref r15)] [(.int (0 : Int32)), (.ref r15)])) (fun _ ks_ => XS.iconst X15.here hx rfl (hb hby at_180) ks_) ?_
              refine go (u' := T15.setTop (mkF m 183 #[.val (.int p0), .val (.int p1), .val (.int p2), .val (.int p3), .val (.int p4), .val (.int kk), .val (.int nv), .val (.int ka), .val (.int kb), .val (.int kc), .val (.ref b11), .val (.ref r15)] [(.int kk), (.int (0 : Int32)), (.ref r15)])) (fun _ ks_ => XS.iload X15.here hx rfl (hb hby at_181) rfl  ks_) ?_
              refine go (u' := T15.setTop (mkF m 185 #[.val (.int p0), .val (.int p1), .val (.int p2), .val (.int p3), .val (.int p4), .val (.int kk), .val (.int nv), .val (.int ka), .val (.int kb), .val (.int kc), .val (.ref b11), .val (.ref r15)] [(.int nv), (.int kk), (.int (0 : Int32)), (.ref r15)])) (fun _ ks_ => XS.iload X15.here hx rfl (hb hby at_183) rfl  ks_) ?_
              refine go (u' := T15.setTop (mkF m 187 #[.val (.int p0), .val (.int p1), .val (.int p2), .val (.int p3), .val (.int p4), .val (.int kk), .val (.int nv), .val (.int ka), .val (.int kb), .val (.int kc), .val (.ref b11), .val (.ref r15)] [(.int ka), (.int nv), (.int kk), (.int (0 : Int32)), (.ref r15)])) (fun _ ks_ => XS.iload X15.here hx rfl (hb hby at_185) rfl  ks_) ?_
              refine go (u' := T15.setTop (mkF m 189 #[.val (.int p0), .val (.int p1), .val (.int p2), .val (.int p3), .val (.int p4), .val (.int kk), .val (.int nv), .val (.int ka), .val (.int kb), .val (.int kc), .val (.ref b11), .val (.ref r15)] [(.int kb), (.int ka), (.int nv), (.int kk), (.int (0 : Int32)), (.ref r15)])) (fun _ ks_ => XS.iload X15.here hx rfl (hb hby at_187) rfl  ks_) ?_
              refine go (u' := T15.setTop (mkF m 191 #[.val (.int p0), .val (.int p1), .val (.int p2), .val (.int p3), .val (.int p4), .val (.int kk), .val (.int nv), .val (.int ka), .val (.int kb), .val (.int kc), .val (.ref b11), .val (.ref r15)] [(.int kc), (.int kb), (.int ka), (.int nv), (.int kk), (.int (0 : Int32)), (.ref r15)])) (fun _ ks_ => XS.iload X15.here hx rfl (hb hby at_189) rfl  ks_) ?_
              obtain ⟨_, _, ⟨T18, L18, k18, n18⟩, -, X18, ⟨Lc18, hQ18, l18, y18, z18⟩, st18⟩ := Jvm.LawKit.callS X15 hx (y := (⟨"com/example/chartwright/chartwright/parse/ChartGrammarStartsPinLaw", "ok", "([IIIIIII)Z"⟩ : MethodName)) hown (mvT hZ (ww hw 5 rfl)) (mvT hZ (ww hw 6 rfl)) (mvT hZ (ww hw 7 rfl)) (mvT hZ (ww hw 8 rfl)) (by decide) (backOf (W := 0) (rm2 l Z a0 hw [] r15 (0 : Int32) kk nv ka kb kc (kk + (1 : Int32)).toNatClampNeg (F2 (F1 (own_l [ka]) 1) kk.toNatClampNeg) T15.heap n0 Z15 Fa16 (own_hin (0 : Int32) kk hkr (by decide))) hZ (ww hw 8 rfl) (ww hw 7 rfl) (by decide) (by decide)) (g := (mkF m 191 #[.val (.int p0), .val (.int p1), .val (.int p2), .val (.int p3), .val (.int p4), .val (.int kk), .val (.int nv), .val (.int ka), .val (.int kb), .val (.int kc), .val (.ref b11), .val (.ref r15)] [(.int kc), (.int kb), (.int ka), (.int nv), (.int kk), (.int (0 : Int32)), (.ref r15)])) rfl (by rw [hml]; rfl) (argsL := [(.ref r15), (.int (0 : Int32)), (.int kk), (.int nv), (.int ka), (.int kb), (.int kc)]) (rest := []) (lenOf pd__40__91_IIIIIII_41_Z rfl) rfl (by show 2 * 0 + _ ≤ _; exact Nat.le_of_eq rfl) (hb hby at_191) (fun _ _ => ⟨rfl, (rfl : T15.heap = _), (by decide : 2 + 0 ≤ _), (by decide : 6 + 0 ≤ _)⟩)
              dsimp only [Pt.U, Pt.locs, Pt.cells, Pt.slots] at X18 l18 y18 z18 st18 hQ18
              subst l18 y18 z18
              obtain ⟨rfl, N18q, eq18⟩ := hQ18
              have N18 := Fr.app N15 N18q
              refine go (u' := T18.setTop (mkF m 194 #[.val (.int p0), .val (.int p1), .val (.int p2), .val (.int p3), .val (.int p4), .val (.int kk), .val (.int nv), .val (.int ka), .val (.int kb), .val (.int kc), .val (.ref b11), .val (.ref r15)] [(.int (B ((kk < (0 : Int32)) ∨ (((F2 (F1 (own_l [ka]) 1) kk.toNatClampNeg) (0 : Int32).toNatClampNeg) = (own_below (0 : Int32) nv ka kb kc)))))])) st18 ?_
              refine go (u' := T18.setTop (mkF m 197 #[.val (.int p0), .val (.int p1), .val (.int p2), .val (.int p3), .val (.int p4), .val (.int kk), .val (.int nv), .val (.int ka), .val (.int kb), .val (.int kc), .val (.ref b11), .val (.ref r15)] [])) (fun _ ks_ => XS.ifNo X18.here hx rfl (hb hby at_194) rfl (bT (show ((kk < (0 : Int32)) ∨ (((F2 (F1 (own_l [ka]) 1) kk.toNatClampNeg) (0 : Int32).toNatClampNeg) = (own_below (0 : Int32) nv ka kb kc))) from (own_ok1 kk nv ka kb kc 0 hkr hka c92_2))).2 ks_) ?_
              refine go (u' := T18.setTop (mkF m 199 #[.val (.int p0), .val (.int p1), .val (.int p2), .val (.int p3), .val (.int p4), .val (.int kk), .val (.int nv), .val (.int ka), .val (.int kb), .val (.int kc), .val (.ref b11), .val (.ref r15)] [(.ref r15)])) (fun _ ks_ => XS.aload X18.here hx rfl (hb hby at_197) rfl rfl ks_) ?_
              refine go (u' := T18.setTop (mkF m 200 #[.val (.int p0), .val (.int p1), .val (.int p2), .val (.int p3), .val (.int p4), .val (.int kk), .val (.int nv), .val (.int ka), .val (.int kb), .val (.int kc), .val (.ref b11), .val (.ref r15)] [(.int (1 : Int32)), (.ref r15)])) (fun _ ks_ => XS.iconst X18.here hx rfl (hb hby at_199) ks_) ?_
              refine go (u' := T18.setTop (mkF m 202 #[.val (.int p0), .val (.int p1), .val (.int p2), .val (.int p3), .val (.int p4), .val (.int kk), .val (.int nv), .val (.int ka), .val (.int kb), .val (.int kc), .val (.ref b11), .val (.ref r15)] [(.int kk), (.int (1 : Int32)), (.ref r15)])) (fun _ ks_ => XS.iload X18.here hx rfl (hb hby at_200) rfl  ks_) ?_
              refine go (u' := T18.setTop (mkF m 204 #[.val (.int p0), .val (.int p1), .val (.int p2), .val (.int p3), .val (.int p4), .val (.int kk), .val (.int nv), .val (.int ka), .val (.int kb), .val (.int kc), .val (.ref b11), .val (.ref r15)] [(.int nv), (.int kk), (.int (1 : Int32)), (.ref r15)])) (fun _ ks_ => XS.iload X18.here hx rfl (hb hby at_202) rfl  ks_) ?_
              refine go (u' := T18.setTop (mkF m 206 #[.val (.int p0), .val (.int p1), .val (.int p2), .val (.int p3), .val (.int p4), .val (.int kk), .val (.int nv), .val (.int ka), .val (.int kb), .val (.int kc), .val (.ref b11), .val (.ref r15)] [(.int ka), (.int nv), (.int kk), (.int (1 : Int32)), (.ref r15)])) (fun _ ks_ => XS.iload X18.here hx rfl (hb hby at_204) rfl  ks_) ?_
              refine go (u' := T18.setTop (mkF m 208 #[.val (.int p0), .val (.int p1), .val (.int p2), .val (.int p3), .val (.int p4), .val (.int kk), .val (.int nv), .val (.int ka), .val (.int kb), .val (.int kc), .val (.ref b11), .val (.ref r15)] [(.int kb), (.int ka), (.int nv), (.int kk), (.int (1 : Int32)), (.ref r15)])) (fun _ ks_ => XS.iload X18.here hx rfl (hb hby at_206) rfl  ks_) ?_
              refine go (u' := T18.setTop (mkF m 210 #[.val (.int p0), .val (.int p1), .val (.int p2), .val (.int p3), .val (.int p4), .val (.int kk), .val (.int nv), .val (.int ka), .val (.int kb), .val (.int kc), .val (.ref b11), .val (.ref r15)] [(.int kc), (.int kb), (.int ka), (.int nv), (.int kk), (.int (1 : Int32)), (.ref r15)])) (fun _ ks_ => XS.iload X18.here hx rfl (hb hby at_208) rfl  ks_) ?_
              obtain ⟨_, _, ⟨T19, L19, k19, n19⟩, -, X19, ⟨Lc19, hQ19, l19, y19, z19⟩, st19⟩ := Jvm.LawKit.callS X18 hx (y := (⟨"com/example/chartwright/chartwright/parse/ChartGrammarStartsPinLaw", "ok", "([IIIIIII)Z"⟩ : MethodName)) hown (mvT hZ (ww hw 5 rfl)) (mvT hZ (ww hw 6 rfl)) (mvT hZ (ww hw 7 rfl)) (mvT hZ (ww hw 8 rfl)) (by decide) (backOf (W := 0) (rm2 l Z a0 hw [] r15 (1 : Int32) kk nv ka kb kc (kk + (1 : Int32)).toNatClampNeg (F2 (F1 (own_l [ka]) 1) kk.toNatClampNeg) T15.heap n0 Z15 Fa16 (own_hin (1 : Int32) kk hkr (by decide))) hZ (ww hw 8 rfl) (ww hw 7 rfl) (by decide) (by decide)) (g := (mkF m 210 #[.val (.int p0), .val (.int p1), .val (.int p2), .val (.int p3), .val (.int p4), .val (.int kk), .val (.int nv), .val (.int ka), .val (.int kb), .val (.int kc), .val (.ref b11), .val (.ref r15)] [(.int kc), (.int kb), (.int ka), (.int nv), (.int kk), (.int (1 : Int32)), (.ref r15)])) rfl (by rw [hml]; rfl) (argsL := [(.ref r15), (.int (1 : Int32)), (.int kk), (.int nv), (.int ka), (.int kb), (.int kc)]) (rest := []) (lenOf pd__40__91_IIIIIII_41_Z rfl) rfl (by show 2 * 0 + _ ≤ _; exact Nat.le_of_eq rfl) (hb hby at_210) (fun _ _ => ⟨rfl, eq18, (by decide : 2 + 0 ≤ _), (by decide : 6 + 0 ≤ _)⟩)
              dsimp only [Pt.U, Pt.locs, Pt.cells, Pt.slots] at X19 l19 y19 z19 st19 hQ19
              subst l19 y19 z19
              obtain ⟨rfl, N19q, eq19⟩ := hQ19
              have N19 := Fr.app N18 N19q
              refine go (u' := T19.setTop (mkF m 213 #[.val (.int p0), .val (.int p1), .val (.int p2), .val (.int p3), .val (.int p4), .val (.int kk), .val (.int nv), .val (.int ka), .val (.int kb), .val (.int kc), .val (.ref b11), .val (.ref r15)] [(.int (B ((kk < (1 : Int32)) ∨ (((F2 (F1 (own_l [ka]) 1) kk.toNatClampNeg) (1 : Int32).toNatClampNeg) = (own_below (1 : Int32) nv ka kb kc)))))])) st19 ?_
              refine go (u' := T19.setTop (mkF m 216 #[.val (.int p0), .val (.int p1), .val (.int p2), .val (.int p3), .val (.int p4), .val (.int kk), .val (.int nv), .val (.int ka), .val (.int kb), .val (.int kc), .val (.ref b11), .val (.ref r15)] [])) (fun _ ks_ => XS.ifNo X19.here hx rfl (hb hby at_213) rfl (bT (show ((kk < (1 : Int32)) ∨ (((F2 (F1 (own_l [ka]) 1) kk.toNatClampNeg) (1 : Int32).toNatClampNeg) = (own_below (1 : Int32) nv ka kb kc))) from (own_ok1 kk nv ka kb kc 1 hkr hka c92_2))).2 ks_) ?_
              refine go (u' := T19.setTop (mkF m 218 #[.val (.int p0), .val (.int p1), .val (.int p2), .val (.int p3), .val (.int p4), .val (.int kk), .val (.int nv), .val (.int ka), .val (.int kb), .val (.int kc), .val (.ref b11), .val (.ref r15)] [(.ref r15)])) (fun _ ks_ => XS.aload X19.here hx rfl (hb hby at_216) rfl rfl ks_) ?_
              refine go (u' := T19.setTop (mkF m 219 #[.val (.int p0), .val (.int p1), .val (.int p2), .val (.int p3), .val (.int p4), .val (.int kk), .val (.int nv), .val (.int ka), .val (.int kb), .val (.int kc), .val (.ref b11), .val (.ref r15)] [(.int (2 : Int32)), (.ref r15)])) (fun _ ks_ => XS.iconst X19.here hx rfl (hb hby at_218) ks_) ?_
              refine go (u' := T19.setTop (mkF m 221 #[.val (.int p0), .val (.int p1), .val (.int p2), .val (.int p3), .val (.int p4), .val (.int kk), .val (.int nv), .val (.int ka), .val (.int kb), .val (.int kc), .val (.ref b11), .val (.ref r15)] [(.int kk), (.int (2 : Int32)), (.ref r15)])) (fun _ ks_ => XS.iload X19.here hx rfl (hb hby at_219) rfl  ks_) ?_
              refine go (u' := T19.setTop (mkF m 223 #[.val (.int p0), .val (.int p1), .val (.int p2), .val (.int p3), .val (.int p4), .val (.int kk), .val (.int nv), .val (.int ka), .val (.int kb), .val (.int kc), .val (.ref b11), .val (.ref r15)] [(.int nv), (.int kk), (.int (2 : Int32)), (.ref r15)])) (fun _ ks_ => XS.iload X19.here hx rfl (hb hby at_221) rfl  ks_) ?_
              refine go (u' := T19.setTop (mkF m 225 #[.val (.int p0), .val (.int p1), .val (.int p2), .val (.int p3), .val (.int p4), .val (.int kk), .val (.int nv), .val (.int ka), .val (.int kb), .val (.int kc), .val (.ref b11), .val (.ref r15)] [(.int ka), (.int nv), (.int kk), (.int (2 : Int32)), (.ref r15)])) (fun _ ks_ => XS.iload X19.here hx rfl (hb hby at_223) rfl  ks_) ?_
              refine go (u' := T19.setTop (mkF m 227 #[.val (.int p0), .val (.int p1), .val (.int p2), .val (.int p3), .val (.int p4), .val (.int kk), .val (.int nv), .val (.int ka), .val (.int kb), .val (.int kc), .val (.ref b11), .val (.ref r15)] [(.int kb), (.int ka), (.int nv), (.int kk), (.int (2 : Int32)), (.ref r15)])) (fun _ ks_ => XS.iload X19.here hx rfl (hb hby at_225) rfl  ks_) ?_
              refine go (u' := T19.setTop (mkF m 229 #[.val (.int p0), .val (.int p1), .val (.int p2), .val (.int p3), .val (.int p4), .val (.int kk), .val (.int nv), .val (.int ka), .val (.int kb), .val (.int kc), .val (.ref b11), .val (.ref r15)] [(.int kc), (.int kb), (.int ka), (.int nv), (.int kk), (.int (2 : Int32)), (.ref r15)])) (fun _ ks_ => XS.iload X19.here hx rfl (hb hby at_227) rfl  ks_) ?_
              obtain ⟨_, _, ⟨T20, L20, k20, n20⟩, -, X20, ⟨Lc20, hQ20, l20, y20, z20⟩, st20⟩ := Jvm.LawKit.callS X19 hx (y := (⟨"com/example/chartwright/chartwright/parse/ChartGrammarStartsPinLaw", "ok", "([IIIIIII)Z"⟩ : MethodName)) hown (mvT hZ (ww hw 5 rfl)) (mvT hZ (ww hw 6 rfl)) (mvT hZ (ww hw 7 rfl)) (mvT hZ (ww hw 8 rfl)) (by decide) (backOf (W := 0) (rm2 l Z a0 hw [] r15 (2 : Int32) kk nv ka kb kc (kk + (1 : Int32)).toNatClampNeg (F2 (F1 (own_l [ka]) 1) kk.toNatClampNeg) T15.heap n0 Z15 Fa16 (own_hin (2 : Int32) kk hkr (by decide))) hZ (ww hw 8 rfl) (ww hw 7 rfl) (by decide) (by decide)) (g := (mkF m 229 #[.val (.int p0), .val (.int p1), .val (.int p2), .val (.int p3), .val (.int p4), .val (.int kk), .val (.int nv), .val (.int ka), .val (.int kb), .val (.int kc), .val (.ref b11), .val (.ref r15)] [(.int kc), (.int kb), (.int ka), (.int nv), (.int kk), (.int (2 : Int32)), (.ref r15)])) rfl (by rw [hml]; rfl) (argsL := [(.ref r15), (.int (2 : Int32)), (.int kk), (.int nv), (.int ka), (.int kb), (.int kc)]) (rest := []) (lenOf pd__40__91_IIIIIII_41_Z rfl) rfl (by show 2 * 0 + _ ≤ _; exact Nat.le_of_eq rfl) (hb hby at_229) (fun _ _ => ⟨rfl, eq19, (by decide : 2 + 0 ≤ _), (by decide : 6 + 0 ≤ _)⟩)
              dsimp only [Pt.U, Pt.locs, Pt.cells, Pt.slots] at X20 l20 y20 z20 st20 hQ20
              subst l20 y20 z20
              obtain ⟨rfl, N20q, eq20⟩ := hQ20
              have N20 := Fr.app N19 N20q
              refine go (u' := T20.setTop (mkF m 232 #[.val (.int p0), .val (.int p1), .val (.int p2), .val (.int p3), .val (.int p4), .val (.int kk), .val (.int nv), .val (.int ka), .val (.int kb), .val (.int kc), .val (.ref b11), .val (.ref r15)] [(.int (B ((kk < (2 : Int32)) ∨ (((F2 (F1 (own_l [ka]) 1) kk.toNatClampNeg) (2 : Int32).toNatClampNeg) = (own_below (2 : Int32) nv ka kb kc)))))])) st20 ?_
              refine go (u' := T20.setTop (mkF m 235 #[.val (.int p0), .val (.int p1), .val (.int p2), .val (.int p3), .val (.int p4), .val (.int kk), .val (.int nv), .val (.int ka), .val (.int kb), .val (.int kc), .val (.ref b11), .val (.ref r15)] [])) (fun _ ks_ => XS.ifNo X20.here hx rfl (hb hby at_232) rfl (bT (show ((kk < (2 : Int32)) ∨ (((F2 (F1 (own_l [ka]) 1) kk.toNatClampNeg) (2 : Int32).toNatClampNeg) = (own_below (2 : Int32) nv ka kb kc))) from (own_ok1 kk nv ka kb kc 2 hkr hka c92_2))).2 ks_) ?_
              refine go (u' := T20.setTop (mkF m 237 #[.val (.int p0), .val (.int p1), .val (.int p2), .val (.int p3), .val (.int p4), .val (.int kk), .val (.int nv), .val (.int ka), .val (.int kb), .val (.int kc), .val (.ref b11), .val (.ref r15)] [(.ref r15)])) (fun _ ks_ => XS.aload X20.here hx rfl (hb hby at_235) rfl rfl ks_) ?_
              refine go (u' := T20.setTop (mkF m 238 #[.val (.int p0), .val (.int p1), .val (.int p2), .val (.int p3), .val (.int p4), .val (.int kk), .val (.int nv), .val (.int ka), .val (.int kb), .val (.int kc), .val (.ref b11), .val (.ref r15)] [(.int (3 : Int32)), (.ref r15)])) (fun _ ks_ => XS.iconst X20.here hx rfl (hb hby at_237) ks_) ?_
              refine go (u' := T20.setTop (mkF m 240 #[.val (.int p0), .val (.int p1), .val (.int p2), .val (.int p3), .val (.int p4), .val (.int kk), .val (.int nv), .val (.int ka), .val (.int kb), .val (.int kc), .val (.ref b11), .val (.ref r15)] [(.int kk), (.int (3 : Int32)), (.ref r15)])) (fun _ ks_ => XS.iload X20.here hx rfl (hb hby at_238) rfl  ks_) ?_
              refine go (u' := T20.setTop (mkF m 242 #[.val (.int p0), .val (.int p1), .val (.int p2), .val (.int p3), .val (.int p4), .val (.int kk), .val (.int nv), .val (.int ka), .val (.int kb), .val (.int kc), .val (.ref b11), .val (.ref r15)] [(.int nv), (.int kk), (.int (3 : Int32)), (.ref r15)])) (fun _ ks_ => XS.iload X20.here hx rfl (hb hby at_240) rfl  ks_) ?_
              refine go (u' := T20.setTop (mkF m 244 #[.val (.int p0), .val (.int p1), .val (.int p2), .val (.int p3), .val (.int p4), .val (.int kk), .val (.int nv), .val (.int ka), .val (.int kb), .val (.int kc), .val (.ref b11), .val (.ref r15)] [(.int ka), (.int nv), (.int kk), (.int (3 : Int32)), (.ref r15)])) (fun _ ks_ => XS.iload X20.here hx rfl (hb hby at_242) rfl  ks_) ?_
              refine go (u' := T20.setTop (mkF m 246 #[.val (.int p0), .val (.int p1), .val (.int p2), .val (.int p3), .val (.int p4), .val (.int kk), .val (.int nv), .val (.int ka), .val (.int kb), .val (.int kc), .val (.ref b11), .val (.ref r15)] [(.int kb), (.int ka), (.int nv), (.int kk), (.int (3 : Int32)), (.ref r15)])) (fun _ ks_ => XS.iload X20.here hx rfl (hb hby at_244) rfl  ks_) ?_
              refine go (u' := T20.setTop (mkF m 248 #[.val (.int p0), .val (.int p1), .val (.int p2), .val (.int p3), .val (.int p4), .val (.int kk), .val (.int nv), .val (.int ka), .val (.int kb), .val (.int kc), .val (.ref b11), .val (.ref r15)] [(.int kc), (.int kb), (.int ka), (.int nv), (.int kk), (.int (3 : Int32)), (.ref r15)])) (fun _ ks_ => XS.iload X20.here hx rfl (hb hby at_246) rfl  ks_) ?_
              obtain ⟨_, _, ⟨T21, L21, k21, n21⟩, -, X21, ⟨Lc21, hQ21, l21, y21, z21⟩, st21⟩ := Jvm.LawKit.callS X20 hx (y := (⟨"com/example/chartwright/chartwright/parse/ChartGrammarStartsPinLaw", "ok", "([IIIIIII)Z"⟩ : MethodName)) hown (mvT hZ (ww hw 5 rfl)) (mvT hZ (ww hw 6 rfl)) (mvT hZ (ww hw 7 rfl)) (mvT hZ (ww hw 8 rfl)) (by decide) (backOf (W := 0) (rm2 l Z a0 hw [] r15 (3 : Int32) kk nv ka kb kc (kk + (1 : Int32)).toNatClampNeg (F2 (F1 (own_l [ka]) 1) kk.toNatClampNeg) T15.heap n0 Z15 Fa16 (own_hin (3 : Int32) kk hkr (by decide))) hZ (ww hw 8 rfl) (ww hw 7 rfl) (by decide) (by decide)) (g := (mkF m 248 #[.val (.int p0), .val (.int p1), .val (.int p2), .val (.int p3), .val (.int p4), .val (.int kk), .val (.int nv), .val (.int ka), .val (.int kb), .val (.int kc), .val (.ref b11), .val (.ref r15)] [(.int kc), (.int kb), (.int ka), (.int nv), (.int kk), (.int (3 : Int32)), (.ref r15)])) rfl (by rw [hml]; rfl) (argsL := [(.ref r15), (.int (3 : Int32)), (.int kk), (.int nv), (.int ka), (.int kb), (.int kc)]) (rest := []) (lenOf pd__40__91_IIIIIII_41_Z rfl) rfl (by show 2 * 0 + _ ≤ _; exact Nat.le_of_eq rfl) (hb hby at_248) (fun _ _ => ⟨rfl, eq20, (by decide : 2 + 0 ≤ _), (by decide : 6 + 0 ≤ _)⟩)
              dsimp only [Pt.U, Pt.locs, Pt.cells, Pt.slots] at X21 l21 y21 z21 st21 hQ21
              subst l21 y21 z21
              obtain ⟨rfl, N21q, eq21⟩ := hQ21
              have N21 := Fr.app N20 N21q
              refine go (u' := T21.setTop (mkF m 251 #[.val (.int p0), .val (.int p1), .val (.int p2), .val (.int p3), .val (.int p4), .val (.int kk), .val (.int nv), .val (.int ka), .val (.int kb), .val (.int kc), .val (.ref b11), .val (.ref r15)] [(.int (B ((kk < (3 : Int32)) ∨ (((F2 (F1 (own_l [ka]) 1) kk.toNatClampNeg) (3 : Int32).toNatClampNeg) = (own_below (3 : Int32) nv ka kb kc)))))])) st21 ?_
              refine go (u' := T21.setTop (mkF m 254 #[.val (.int p0), .val (.int p1), .val (.int p2), .val (.int p3), .val (.int p4), .val (.int kk), .val (.int nv), .val (.int ka), .val (.int kb), .val (.int kc), .val (.ref b11), .val (.ref r15)] [])) (fun _ ks_ => XS.ifNo X21.here hx rfl (hb hby at_251) rfl (bT (show ((kk < (3 : Int32)) ∨ (((F2 (F1 (own_l [ka]) 1) kk.toNatClampNeg) (3 : Int32).toNatClampNeg) = (own_below (3 : Int32) nv ka kb kc))) from (own_ok1 kk nv ka kb kc 3 hkr hka c92_2))).2 ks_) ?_
              refine go (u' := T21.setTop (mkF m 256 #[.val (.int p0), .val (.int p1), .val (.int p2), .val (.int p3), .val (.int p4), .val (.int kk), .val (.int nv), .val (.int ka), .val (.int kb), .val (.int kc), .val (.ref b11), .val (.ref r15)] [(.ref r15)])) (fun _ ks_ => XS.aload X21.here hx rfl (hb hby at_254) rfl rfl ks_) ?_
              refine go (u' := T21.setTop (mkF m 257 #[.val (.int p0), .val (.int p1), .val (.int p2), .val (.int p3), .val (.int p4), .val (.int kk), .val (.int nv), .val (.int ka), .val (.int kb), .val (.int kc), .val (.ref b11), .val (.ref r15)] [(.int (4 : Int32)), (.ref r15)])) (fun _ ks_ => XS.iconst X21.here hx rfl (hb hby at_256) ks_) ?_
              refine go (u' := T21.setTop (mkF m 259 #[.val (.int p0), .val (.int p1), .val (.int p2), .val (.int p3), .val (.int p4), .val (.int kk), .val (.int nv), .val (.int ka), .val (.int kb), .val (.int kc), .val (.ref b11), .val (.ref r15)] [(.int kk), (.int (4 : Int32)), (.ref r15)])) (fun _ ks_ => XS.iload X21.here hx rfl (hb hby at_257) rfl  ks_) ?_
              refine go (u' := T21.setTop (mkF m 261 #[.val (.int p0), .val (.int p1), .val (.int p2), .val (.int p3), .val (.int p4), .val (.int kk), .val (.int nv), .val (.int ka), .val (.int kb), .val (.int kc), .val (.ref b11), .val (.ref r15)] [(.int nv), (.int kk), (.int (4 : Int32)), (.ref r15)])) (fun _ ks_ => XS.iload X21.here hx rfl (hb hby at_259) rfl  ks_) ?_
              refine go (u' := T21.setTop (mkF m 263 #[.val (.int p0), .val (.int p1), .val (.int p2), .val (.int p3), .val (.int p4), .val (.int kk), .val (.int nv), .val (.int ka), .val (.int kb), .val (.int kc), .val (.ref b11), .val (.ref r15)] [(.int ka), (.int nv), (.int kk), (.int (4 : Int32)), (.ref r15)])) (fun _ ks_ => XS.iload X21.here hx rfl (hb hby at_261) rfl  ks_) ?_
              refine go (u' := T21.setTop (mkF m 265 #[.val (.int p0), .val (.int p1), .val (.int p2), .val (.int p3), .val (.int p4), .val (.int kk), .val (.int nv), .val (.int ka), .val (.int kb), .val (.int kc), .val (.ref b11), .val (.ref r15)] [(.int kb), (.int ka), (.int nv), (.int kk), (.int (4 : Int32)), (.ref r15)])) (fun _ ks_ => XS.iload X21.here hx rfl (hb hby at_263) rfl  ks_) ?_
              refine go (u' := T21.setTop (mkF m 267 #[.val (.int p0), .val (.int p1), .val (.int p2), .val (.int p3), .val (.int p4), .val (.int kk), .val (.int nv), .val (.int ka), .val (.int kb), .val (.int kc), .val (.ref b11), .val (.ref r15)] [(.int kc), (.int kb), (.int ka), (.int nv), (.int kk), (.int (4 : Int32)), (.ref r15)])) (fun _ ks_ => XS.iload X21.here hx rfl (hb hby at_265) rfl  ks_) ?_
              obtain ⟨_, _, ⟨T22, L22, k22, n22⟩, -, X22, ⟨Lc22, hQ22, l22, y22, z22⟩, st22⟩ := Jvm.LawKit.callS X21 hx (y := (⟨"com/example/chartwright/chartwright/parse/ChartGrammarStartsPinLaw", "ok", "([IIIIIII)Z"⟩ : MethodName)) hown (mvT hZ (ww hw 5 rfl)) (mvT hZ (ww hw 6 rfl)) (mvT hZ (ww hw 7 rfl)) (mvT hZ (ww hw 8 rfl)) (by decide) (backOf (W := 0) (rm2 l Z a0 hw [] r15 (4 : Int32) kk nv ka kb kc (kk + (1 : Int32)).toNatClampNeg (F2 (F1 (own_l [ka]) 1) kk.toNatClampNeg) T15.heap n0 Z15 Fa16 (own_hin (4 : Int32) kk hkr (by decide))) hZ (ww hw 8 rfl) (ww hw 7 rfl) (by decide) (by decide)) (g := (mkF m 267 #[.val (.int p0), .val (.int p1), .val (.int p2), .val (.int p3), .val (.int p4), .val (.int kk), .val (.int nv), .val (.int ka), .val (.int kb), .val (.int kc), .val (.ref b11), .val (.ref r15)] [(.int kc), (.int kb), (.int ka), (.int nv), (.int kk), (.int (4 : Int32)), (.ref r15)])) rfl (by rw [hml]; rfl) (argsL := [(.ref r15), (.int (4 : Int32)), (.int kk), (.int nv), (.int ka), (.int kb), (.int kc)]) (rest := []) (lenOf pd__40__91_IIIIIII_41_Z rfl) rfl (by show 2 * 0 + _ ≤ _; exact Nat.le_of_eq rfl) (hb hby at_267) (fun _ _ => ⟨rfl, eq21, (by decide : 2 + 0 ≤ _), (by decide : 6 + 0 ≤ _)⟩)
              dsimp only [Pt.U, Pt.locs, Pt.cells, Pt.slots] at X22 l22 y22 z22 st22 hQ22
              subst l22 y22 z22
              obtain ⟨rfl, N22q, eq22⟩ := hQ22
              have N22 := Fr.app N21 N22q
              refine go (u' := T22.setTop (mkF m 270 #[.val (.int p0), .val (.int p1), .val (.int p2), .val (.int p3), .val (.int p4), .val (.int kk), .val (.int nv), .val (.int ka), .val (.int kb), .val (.int kc), .val (.ref b11), .val (.ref r15)] [(.int (B ((kk < (4 : Int32)) ∨ (((F2 (F1 (own_l [ka]) 1) kk.toNatClampNeg) (4 : Int32).toNatClampNeg) = (own_below (4 : Int32) nv ka kb kc)))))])) st22 ?_
              refine go (u' := T22.setTop (mkF m 273 #[.val (.int p0), .val (.int p1), .val (.int p2), .val (.int p3), .val (.int p4), .val (.int kk), .val (.int nv), .val (.int ka), .val (.int kb), .val (.int kc), .val (.ref b11), .val (.ref r15)] [])) (fun _ ks_ => XS.ifNo X22.here hx rfl (hb hby at_270) rfl (bT (show ((kk < (4 : Int32)) ∨ (((F2 (F1 (own_l [ka]) 1) kk.toNatClampNeg) (4 : Int32).toNatClampNeg) = (own_below (4 : Int32) nv ka kb kc))) from (own_ok1 kk nv ka kb kc 4 hkr hka c92_2))).2 ks_) ?_
              refine go (u' := T22.setTop (mkF m 274 #[.val (.int p0), .val (.int p1), .val (.int p2), .val (.int p3), .val (.int p4), .val (.int kk), .val (.int nv), .val (.int ka), .val (.int kb), .val (.int kc), .val (.ref b11), .val (.ref r15)] [(.int (1 : Int32))])) (fun _ ks_ => XS.iconst X22.here hx rfl (hb hby at_273) ks_) ?_
              refine go (u' := T22.setTop (mkF m 278 #[.val (.int p0), .val (.int p1), .val (.int p2), .val (.int p3), .val (.int p4), .val (.int kk), .val (.int nv), .val (.int ka), .val (.int kb), .val (.int kc), .val (.ref b11), .val (.ref r15)] [(.int (1 : Int32))])) (fun _ ks_ => XS.goto X22.here hx rfl (pc0 := 274) (pc' := 278) rfl (hb hby at_274) (by decide) (by decide) ks_) ?_
              rw [hG]
              refine gN X22 hx hlk (t := .boolean) hret (by simp) rfl (hb hby at_278) ?_ (Nat.le_of_ble_eq_true rfl) (Nat.le_of_ble_eq_true rfl)
              show Q_rm0 Z p0 p1 p2 p3 p4 h0 n0 (some (.int (1 : Int32))) T22.heap _
              rw [eq22]
              exact ⟨rfl, N22⟩
            ·
              refine go (u' := s₁.setTop (mkF m 108 #[.val (.int p0), .val (.int p1), .val (.int p2), .val (.int p3), .val (.int p4), .val (.int kk), .val (.int nv), .val (.int ka), .val (.int kb), .val (.int kc), .unset, .unset] [])) (fun _ ks_ => XS.icmpYes X0.here hx rfl (pc0 := 92) (pc' := 108) rfl (hb hby at_92) rfl (feq c92_2).2 (by decide) (by decide) ks_) ?_
              refine go (u' := s₁.setTop (mkF m 110 #[.val (.int p0), .val (.int p1), .val (.int p2), .val (.int p3), .val (.int p4), .val (.int kk), .val (.int nv), .val (.int ka), .val (.int kb), .val (.int kc), .unset, .unset] [(.int nv)])) (fun _ ks_ => XS.iload X0.here hx rfl (hb hby at_108) rfl  ks_) ?_
              refine go (u' := s₁.setTop (mkF m 111 #[.val (.int p0), .val (.int p1), .val (.int p2), .val (.int p3), .val (.int p4), .val (.int kk), .val (.int nv), .val (.int ka), .val (.int kb), .val (.int kc), .unset, .unset] [(.int (2 : Int32)), (.int nv)])) (fun _ ks_ => XS.iconst X0.here hx rfl (hb hby at_110) ks_) ?_
              by_cases c111_3 : nv = (2 : Int32)
              ·
                refine go (u' := s₁.setTop (mkF m 114 #[.val (.int p0), .val (.int p1), .val (.int p2), .val (.int p3), .val (.int p4), .val (.int kk), .val (.int nv), .val (.int ka), .val (.int kb), .val (.int kc), .unset, .unset] [])) (fun _ ks_ => XS.icmpNo X0.here hx rfl (hb hby at_111) rfl (teq c111_3).2 ks_) ?_
                refine go (u' := s₁.setTop (mkF m 115 #[.val (.int p0), .val (.int p1), .val (.int p2), .val (.int p3), .val (.int p4), .val (.int kk), .val (.int nv), .val (.int ka), .val (.int kb), .val (.int kc), .unset, .unset] [(.int (2 : Int32))])) (fun _ ks_ => XS.iconst X0.here hx rfl (hb hby at_114) ks_) ?_
                obtain ⟨T23, h23, k23, X23, e23, E23, A23, st23⟩ := newP X0 hx hZ (ww hw 0 rfl) e0 (g := (mkF m 115 #[.val (.int p0), .val (.int p1), .val (.int p2), .val (.int p3), .val (.int p4), .val (.int kk), .val (.int nv), .val (.int ka), .val (.int kb), .val (.int kc), .unset, .unset] [(.int (2 : Int32))])) rfl (hb hby at_115) rfl (by decide) (cap := 2) (by decide) (by decide) (by decide) (by decide)
                obtain ⟨b23, g23⟩ : ∃ z, z = h0.size := ⟨_, rfl⟩
                rw [← g23] at A23 st23
                have g_b23 : n0 ≤ b23 := Nat.le_trans Z0 (Nat.le_of_eq g23.symm)
                have sz_b23 : h0.size ≤ b23 := Nat.le_trans (Keep.refl h0 []).1 (Nat.le_of_eq g23.symm)
                have K23 : Keep h0 h23 [] := (Keep.refl h0 []).ext E23
                have Z23 : n0 ≤ h23.size := Nat.le_trans Z0 E23.1
                have Fa24 : PI Z h23 b23 .int 2 (own_l [(0 : Int32), (0 : Int32)]) := PI.newL A23 (by decide) rfl rfl
                refine go (u' := T23.setTop (mkF m 117 #[.val (.int p0), .val (.int p1), .val (.int p2), .val (.int p3), .val (.int p4), .val (.int kk), .val (.int nv), .val (.int ka), .val (.int kb), .val (.int kc), .unset, .unset] [(.ref b23)])) st23 ?_
                refine go (u' := T23.setTop (mkF m 118 #[.val (.int p0), .val (.int p1), .val (.int p2), .val (.int p3), .val (.int p4), .val (.int kk), .val (.int nv), .val (.int ka), .val (.int kb), .val (.int kc), .unset, .unset] [(.ref b23), (.ref b23)])) (fun _ ks_ => XS.dup X23.here hx rfl (hb hby at_117) rfl rfl ks_) ?_
                refine go (u' := T23.setTop (mkF m 119 #[.val (.int p0), .val (.int p1), .val (.int p2), .val (.int p3), .val (.int p4), .val (.int kk), .val (.int nv), .val (.int ka), .val (.int kb), .val (.int kc), .unset, .unset] [(.int (0 : Int32)), (.ref b23), (.ref b23)])) (fun _ ks_ => XS.iconst X23.here hx rfl (hb hby at_118) ks_) ?_
                refine go (u' := T23.setTop (mkF m 121 #[.val (.int p0), .val (.int p1), .val (.int p2), .val (.int p3), .val (.int p4), .val (.int kk), .val (.int nv), .val (.int ka), .val (.int kb), .val (.int kc), .unset, .unset] [(.int ka), (.int (0 : Int32)), (.ref b23), (.ref b23)])) (fun _ ks_ => XS.iload X23.here hx rfl (hb hby at_119) rfl  ks_) ?_
                obtain ⟨T25, h25, X25, e25, W25, st25⟩ := own_iastore X23 hx hZ e23 Fa24 (j := (0 : Int32)) (x := ka)  (by decide) (by decide) (f := (mkF m 121 #[.val (.int p0), .val (.int p1), .val (.int p2), .val (.int p3), .val (.int p4), .val (.int kk), .val (.int nv), .val (.int ka), .val (.int kb), .val (.int kc), .unset, .unset] [(.int ka), (.int (0 : Int32)), (.ref b23), (.ref b23)])) rfl rfl (hb hby at_121)
                have N25 := Fr.snoc X25 N0 g_b23
                have K25 : Keep h0 h25 [] := K23.wr W25 (Or.inr sz_b23)
                have Z25 : n0 ≤ h25.size := Nat.le_trans Z23 (Keep.of_wr W25).1
                have Fa26 : PI Z h25 b23 .int 2 (own_l [ka, (0 : Int32)]) := Fa24.setL (by decide) W25 rfl (Nat.le_of_ble_eq_true rfl) rfl
                refine go (u' := T25.setTop (mkF m 122 #[.val (.int p0), .val (.int p1), .val (.int p2), .val (.int p3), .val (.int p4), .val (.int kk), .val (.int nv), .val (.int ka), .val (.int kb), .val (.int kc), .unset, .unset] [(.ref b23)])) st25 ?_
                refine go (u' := T25.setTop (mkF m 123 #[.val (.int p0), .val (.int p1), .val (.int p2), .val (.int p3), .val (.int p4), .val (.int kk), .val (.int nv), .val (.int ka), .val (.int kb), .val (.int kc), .unset, .unset] [(.ref b23), (.ref b23)])) (fun _ ks_ => XS.dup X25.here hx rfl (hb hby at_122) rfl rfl ks_) ?_
                refine go (u' := T25.setTop (mkF m 124 #[.val (.int p0), .val (.int p1), .val (.int p2), .val (.int p3), .val (.int p4), .val (.int kk), .val (.int nv), .val (.int ka), .val (.int kb), .val (.int kc), .unset, .unset] [(.int (1 : Int32)), (.ref b23), (.ref b23)])) (fun _ ks_ => XS.iconst X25.here hx rfl (hb hby at_123) ks_) ?_
                refine go (u' := T25.setTop (mkF m 126 #[.val (.int p0), .val (.int p1), .val (.int p2), .val (.int p3), .val (.int p4), .val (.int kk), .val (.int nv), .val (.int ka), .val (.int kb), .val (.int kc), .unset, .unset] [(.int kb), (.int (1 : Int32)), (.ref b23), (.ref b23)])) (fun _ ks_ => XS.iload X25.here hx rfl (hb hby at_124) rfl  ks_) ?_
                obtain ⟨T27, h27, X27, e27, W27, st27⟩ := own_iastore X25 hx hZ e25 Fa26 (j := (1 : Int32)) (x := kb)  (by decide) (by decide) (f := (mkF m 126 #[.val (.int p0), .val (.int p1), .val (.int p2), .val (.int p3), .val (.int p4), .val (.int kk), .val (.int nv), .val (.int ka), .val (.int kb), .val (.int kc), .unset, .unset] [(.int kb), (.int (1 : Int32)), (.ref b23), (.ref b23)])) rfl rfl (hb hby at_126)
                have N27 := Fr.snoc X27 N25 g_b23
                have K27 : Keep h0 h27 [] := K25.wr W27 (Or.inr sz_b23)
                have Z27 : n0 ≤ h27.size := Nat.le_trans Z25 (Keep.of_wr W27).1
                have Fa28 : PI Z h27 b23 .int 2 (own_l [ka, kb]) := Fa26.setL (by decide) W27 rfl (Nat.le_of_ble_eq_true rfl) rfl
                refine go (u' := T27.setTop (mkF m 127 #[.val (.int p0), .val (.int p1), .val (.int p2), .val (.int p3), .val (.int p4), .val (.int kk), .val (.int nv), .val (.int ka), .val (.int kb), .val (.int kc), .unset, .unset] [(.ref b23)])) st27 ?_
                refine go (u' := T27.setTop (mkF m 129 #[.val (.int p0), .val (.int p1), .val (.int p2), .val (.int p3), .val (.int p4), .val (.int kk), .val (.int nv), .val (.int ka), .val (.int kb), .val (.int kc), .val (.ref b23), .unset] [])) (fun _ ks_ => XS.astore X27.here hx rfl (hb hby at_127) rfl rfl (l' := #[.val (.int p0), .val (.int p1), .val (.int p2), .val (.int p3), .val (.int p4), .val (.int kk), .val (.int nv), .val (.int ka), .val (.int kb), .val (.int kc), .val (.ref b23), .unset]) rfl ks_) ?_
                refine go (u' := T27.setTop (mkF m 152 #[.val (.int p0), .val (.int p1), .val (.int p2), .val (.int p3), .val (.int p4), .val (.int kk), .val (.int nv), .val (.int ka), .val (.int kb), .val (.int kc), .val (.ref b23), .unset] [])) (fun _ ks_ => XS.goto X27.here hx rfl (pc0 := 129) (pc' := 152) rfl (hb hby at_129) (by decide) (by decide) ks_) ?_
                refine go (u' := T27.setTop (mkF m 154 #[.val (.int p0), .val (.int p1), .val (.int p2), .val (.int p3), .val (.int p4), .val (.int kk), .val (.int nv), .val (.int ka), .val (.int kb), .val (.int kc), .val (.ref b23), .unset] [(.ref b23)])) (fun _ ks_ => XS.aload X27.here hx rfl (hb hby at_152) rfl rfl ks_) ?_
                refine go (u' := T27.setTop (mkF m 156 #[.val (.int p0), .val (.int p1), .val (.int p2), .val (.int p3), .val (.int p4), .val (.int kk), .val (.int nv), .val (.int ka), .val (.int kb), .val (.int kc), .val (.ref b23), .unset] [(.int kk), (.ref b23)])) (fun _ ks_ => XS.iload X27.here hx rfl (hb hby at_154) rfl  ks_) ?_
                have hk0 := own_nv p1 kk nv hnv (by rw [c111_3]; decide)
                obtain ⟨hka, hkb, hkc⟩ := own_abc p2 p3 p4 kk ka kb kc hkr hk0 hka hkb hkc
                obtain ⟨_, _, ⟨T29, L29, k29, n29⟩, -, X29, ⟨Lc29, hQ29, l29, y29, z29⟩, st29⟩ := Jvm.LawKit.callS X27 hx (y := (⟨"com/example/chartwright/chartwright/parse/ChartGrammar", "starts", "([II)[I"⟩ : MethodName)) hown (mvT hZ (ww hw 1 rfl)) (mvT hZ (ww hw 2 rfl)) (mvT hZ (ww hw 3 rfl)) (mvT hZ (ww hw 4 rfl)) (by decide) (backOf (W := 0) (rm1 l Z a0 hw [] b23 kk 2 (own_l [ka, kb]) h27 n0 Z27 Fa28 hkr (own_he2 hka hkb)) hZ (ww hw 4 rfl) (ww hw 3 rfl) (by decide) (by decide)) (g := (mkF m 156 #[.val (.int p0), .val (.int p1), .val (.int p2), .val (.int p3), .val (.int p4), .val (.int kk), .val (.int nv), .val (.int ka), .val (.int kb), .val (.int kc), .val (.ref b23), .unset] [(.int kk), (.ref b23)])) rfl (by rw [hml]; rfl) (argsL := [(.ref b23), (.int kk)]) (rest := []) (lenOf pd__40__91_II_41__91_I rfl) rfl (by show 2 * 0 + _ ≤ _; exact Nat.le_of_eq rfl) (hb hby at_156) (fun _ _ => ⟨rfl, e27, (by decide : 1 + 1 ≤ _), (by decide : 2 + 5 ≤ _)⟩)
                dsimp only [Pt.U, Pt.locs, Pt.cells, Pt.slots] at X29 l29 y29 z29 st29 hQ29
                subst l29 y29 z29
                obtain ⟨r29, rfl, N29q, Kq29, Fa30, gr_29⟩ := hQ29
                have N29 := Fr.app N27 N29q
                have K29 : Keep h0 T29.heap [] := K27.trans Kq29 all0
                have Z29 : n0 ≤ T29.heap.size := Nat.le_trans Z27 Kq29.1
                have Fa31 : PI Z T29.heap b23 .int 2 (own_l [ka, kb]) := Fa28.keep Kq29 nin0
                have ne_b23_r29 : b23 ≠ r29 := Nat.ne_of_lt (Nat.lt_of_lt_of_le Fa28.lt gr_29)
                have g_r29 : n0 ≤ r29 := Nat.le_trans Z27 gr_29
                have sz_r29 : h0.size ≤ r29 := Nat.le_trans K27.1 gr_29
                refine go (u' := T29.setTop (mkF m 159 #[.val (.int p0), .val (.int p1), .val (.int p2), .val (.int p3), .val (.int p4), .val (.int kk), .val (.int nv), .val (.int ka), .val (.int kb), .val (.int kc), .val (.ref b23), .unset] [(.ref r29)])) st29 ?_
                refine go (u' := T29.setTop (mkF m 161 #[.val (.int p0), .val (.int p1), .val (.int p2), .val (.int p3), .val (.int p4), .val (.int kk), .val (.int nv), .val (.int ka), .val (.int kb), .val (.int kc), .val (.ref b23), .val (.ref r29)] [])) (fun _ ks_ => XS.astore X29.here hx rfl (hb hby at_159) rfl rfl (l' := #[.val (.int p0), .val (.int p1), .val (.int p2), .val (.int p3), .val (.int p4), .val (.int kk), .val (.int nv), .val (.int ka), .val (.int kb), .val (.int kc), .val (.ref b23), .val (.ref r29)]) rfl ks_) ?_
                refine go (u' := T29.setTop (mkF m 163 #[.val (.int p0), .val (.int p1), .val (.int p2), .val (.int p3), .val (.int p4), .val (.int kk), .val (.int nv), .val (.int ka), .val (.int kb), .val (.int kc), .val (.ref b23), .val (.ref r29)] [(.ref r29)])) (fun _ ks_ => XS.aload X29.here hx rfl (hb hby at_161) rfl rfl ks_) ?_
                refine go (u' := T29.setTop (mkF m 166 #[.val (.int p0), .val (.int p1), .val (.int p2), .val (.int p3), .val (.int p4), .val (.int kk), .val (.int nv), .val (.int ka), .val (.int kb), .val (.int kc), .val (.ref b23), .val (.ref r29)] [])) (fun _ ks_ => XS.ifnullNo X29.here hx rfl (hb hby at_163) rfl ks_) ?_
                refine go (u' := T29.setTop (mkF m 168 #[.val (.int p0), .val (.int p1), .val (.int p2), .val (.int p3), .val (.int p4), .val (.int kk), .val (.int nv), .val (.int ka), .val (.int kb), .val (.int kc), .val (.ref b23), .val (.ref r29)] [(.ref r29)])) (fun _ ks_ => XS.aload X29.here hx rfl (hb hby at_166) rfl rfl ks_) ?_
                refine go (u' := T29.setTop (mkF m 169 #[.val (.int p0), .val (.int p1), .val (.int p2), .val (.int p3), .val (.int p4), .val (.int kk), .val (.int nv), .val (.int ka), .val (.int kb), .val (.int kc), .val (.ref b23), .val (.ref r29)] [(.int (kk + (1 : Int32)))])) (own_alen X29 hx hZ (rfl : T29.heap = _) Fa30 (z := (kk + (1 : Int32))) (back32 (own_k1 hkr).1).1 (f := (mkF m 168 #[.val (.int p0), .val (.int p1), .val (.int p2), .val (.int p3), .val (.int p4), .val (.int kk), .val (.int nv), .val (.int ka), .val (.int kb), .val (.int kc), .val (.ref b23), .val (.ref r29)] [(.ref r29)])) rfl rfl (hb hby at_168)) ?_
                refine go (u' := T29.setTop (mkF m 171 #[.val (.int p0), .val (.int p1), .val (.int p2), .val (.int p3), .val (.int p4), .val (.int kk), .val (.int nv), .val (.int ka), .val (.int kb), .val (.int kc), .val (.ref b23), .val (.ref r29)] [(.int kk), (.int (kk + (1 : Int32)))])) (fun _ ks_ => XS.iload X29.here hx rfl (hb hby at_169) rfl  ks_) ?_
                refine go (u' := T29.setTop (mkF m 172 #[.val (.int p0), .val (.int p1), .val (.int p2), .val (.int p3), .val (.int p4), .val (.int kk), .val (.int nv), .val (.int ka), .val (.int kb), .val (.int kc), .val (.ref b23), .val (.ref r29)] [(.int (1 : Int32)), (.int kk), (.int (kk + (1 : Int32)))])) (fun _ ks_ => XS.iconst X29.here hx rfl (hb hby at_171) ks_) ?_
                refine go (u' := T29.setTop (mkF m 173 #[.val (.int p0), .val (.int p1), .val (.int p2), .val (.int p3), .val (.int p4), .val (.int kk), .val (.int nv), .val (.int ka), .val (.int kb), .val (.int kc), .val (.ref b23), .val (.ref r29)] [(.int (kk + (1 : Int32))), (.int (kk + (1 : Int32)))])) (fun _ ks_ => XS.iadd X29.here hx rfl (hb hby at_172) rfl ks_) ?_
                refine go (u' := T29.setTop (mkF m 178 #[.val (.int p0), .val (.int p1), .val (.int p2), .val (.int p3), .val (.int p4), .val (.int kk), .val (.int nv), .val (.int ka), .val (.int kb), .val (.int kc), .val (.ref b23), .val (.ref r29)] [])) (fun _ ks_ => XS.icmpYes X29.here hx rfl (pc0 := 173) (pc' := 178) rfl (hb hby at_173) rfl (teq rfl).1 (by decide) (by decide) ks_) ?_
                refine go (u' := T29.setTop (mkF m 180 #[.val (.int p0), .val (.int p1), .val (.int p2), .val (.int p3), .val (.int p4), .val (.int kk), .val (.int nv), .val (.int ka), .val (.int kb), .val (.int kc), .val (.ref b23), .val (.ref r29)] [(.ref r29)])) (fun _ ks_ => XS.aload X29.here hx rfl (hb hby at_178) rfl rfl ks_) ?_
                refine go (u' := T29.setTop (mkF m 181 #[.val (.int p0), .val (.int p1), .val (.int p2), .val (.int p3), .val (.int p4), .val (.int kk), .val (.int nv), .val (.int ka), .val (.int kb), .val (.int kc), .val (.ref b23), .val (.ref r29)] [(.int (0 : Int32)), (.ref r29)])) (fun _ ks_ => XS.iconst X29.here hx rfl (hb hby at_180) ks_) ?_
                refine go (u' := T29.setTop (mkF m 183 #[.val (.int p0), .val (.int p1), .val (.int p2), .val (.int p3), .val (.int p4), .val (.int kk), .val (.int nv), .val (.int ka), .val (.int kb), .val (.int kc), .val (.ref b23), .val (.ref r29)] [(.int kk), (.int (0 : Int32)), (.ref r29)])) (fun _ ks_ => XS.iload X29.here hx rfl (hb hby at_181) rfl  ks_) ?_
                refine go (u' := T29.setTop (mkF m 185 #[.val (.int p0), .val (.int p1), .val (.int p2), .val (.int p3), .val (.int p4), .val (.int kk), .val (.int nv), .val (.int ka), .val (.int kb), .val (.int kc), .val (.ref b23), .val (.ref r29)] [(.int nv), (.int kk), (.int (0 : Int32)), (.ref r29)])) (fun _ ks_ => XS.iload X29.here hx rfl (hb hby at_183) rfl  ks_) ?_
                refine go (u' := T29.setTop (mkF m 187 #[.val (.int p0), .val (.int p1), .val (.int p2), .val (.int p3), .val (.int p4), .val (.int kk), .val (.int nv), .val (.int ka), .val (.int kb), .val (.int kc), .val (.ref b23), .val (.ref r29)] [(.int ka), (.int nv), (.int kk), (.int (0 : Int32)), (.ref r29)])) (fun _ ks_ => XS.iload X29.here hx rfl (hb hby at_185) rfl  ks_) ?_
                refine go (u' := T29.setTop (mkF m 189 #[.val (.int p0), .val (.int p1), .val (.int p2), .val (.int p3), .val (.int p4), .val (.int kk), .val (.int nv), .val (.int ka), .val (.int kb), .val (.int kc), .val (.ref b23), .val (.ref r29)] [(.int kb), (.int ka), (.int nv), (.int kk), (.int (0 : Int32)), (.ref r29)])) (fun _ ks_ => XS.iload X29.here hx rfl (hb hby at_187) rfl  ks_) ?_
                refine go (u' := T29.setTop (mkF m 191 #[.val (.int p0), .val (.int p1), .val (.int p2), .val (.int p3), .val (.int p4), .val (.int kk), .val (.int nv), .val (.int ka), .val (.int kb), .val (.int kc), .val (.ref b23), .val (.ref r29)] [(.int kc), (.int kb), (.int ka), (.int nv), (.int kk), (.int (0 : Int32)), (.ref r29)])) (fun _ ks_ => XS.iload X29.here hx rfl (hb hby at_189) rfl  ks_) ?_
                obtain ⟨_, _, ⟨T32, L32, k32, n32⟩, -, X32, ⟨Lc32, hQ32, l32, y32, z32⟩, st32⟩ := Jvm.LawKit.callS X29 hx (y := (⟨"com/example/chartwright/chartwright/parse/ChartGrammarStartsPinLaw", "ok", "([IIIIIII)Z"⟩ : MethodName)) hown (mvT hZ (ww hw 5 rfl)) (mvT hZ (ww hw 6 rfl)) (mvT hZ (ww hw 7 rfl)) (mvT hZ (ww hw 8 rfl)) (by decide) (backOf (W := 0) (rm2 l Z a0 hw [] r29 (0 : Int32) kk nv ka kb kc (kk + (1 : Int32)).toNatClampNeg (F2 (F1 (own_l [ka, kb]) 2) kk.toNatClampNeg) T29.heap n0 Z29 Fa30 (own_hin (0 : Int32) kk hkr (by decide))) hZ (ww hw 8 rfl) (ww hw 7 rfl) (by decide) (by decide)) (g := (mkF m 191 #[.val (.int p0), .val (.int p1), .val (.int p2), .val (.int p3), .val (.int p4), .val (.int kk), .val (.int nv), .val (.int ka), .val (.int kb), .val (.int kc), .val (.ref b23), .val (.ref r29)] [(.int kc), (.int kb), (.int ka), (.int nv), (.int kk), (.int (0 : Int32)), (.ref r29)])) rfl (by rw [hml]; rfl) (argsL := [(.ref r29), (.int (0 : Int32)), (.int kk), (.int nv), (.int ka), (.int kb), (.int kc)]) (rest := []) (lenOf pd__40__91_IIIIIII_41_Z rfl) rfl (by show 2 * 0 + _ ≤ _; exact Nat.le_of_eq rfl) (hb hby at_191) (fun _ _ => ⟨rfl, (rfl : T29.heap = _), (by decide : 2 + 0 ≤ _), (by decide : 7 + 0 ≤ _)⟩)
                dsimp only [Pt.U, Pt.locs, Pt.cells, Pt.slots] at X32 l32 y32 z32 st32 hQ32
                subst l32 y32 z32
                obtain ⟨rfl, N32q, eq32⟩ := hQ32
                have N32 := Fr.app N29 N32q
                refine go (u' := T32.setTop (mkF m 194 #[.val (.int p0), .val (.int p1), .val (.int p2), .val (.int p3), .val (.int p4), .val (.int kk), .val (.int nv), .val (.int ka), .val (.int kb), .val (.int kc), .val (.ref b23), .val (.ref r29)] [(.int (B ((kk < (0 : Int32)) ∨ (((F2 (F1 (own_l [ka, kb]) 2) kk.toNatClampNeg) (0 : Int32).toNatClampNeg) = (own_below (0 : Int32) nv ka kb kc)))))])) st32 ?_
                refine go (u' := T32.setTop (mkF m 197 #[.val (.int p0), .val (.int p1), .val (.int p2), .val (.int p3), .val (.int p4), .val (.int kk), .val (.int nv), .val (.int ka), .val (.int kb), .val (.int kc), .val (.ref b23), .val (.ref r29)] [])) (fun _ ks_ => XS.ifNo X32.here hx rfl (hb hby at_194) rfl (bT (show ((kk < (0 : Int32)) ∨ (((F2 (F1 (own_l [ka, kb]) 2) kk.toNatClampNeg) (0 : Int32).toNatClampNeg) = (own_below (0 : Int32) nv ka kb kc))) from (own_ok2 kk nv ka kb kc 0 hkr hka hkb c111_3))).2 ks_) ?_
                refine go (u' := T32.setTop (mkF m 199 #[.val (.int p0), .val (.int p1), .val (.int p2), .val (.int p3), .val (.int p4), .val (.int kk), .val (.int nv), .val (.int ka), .val (.int kb), .val (.int kc), .val (.ref b23), .val (.ref r29)] [(.ref r29)])) (fun _ ks_ => XS.aload X32.here hx rfl (hb hby at_197) rfl rfl ks_) ?_
                refine go (u' := T32.setTop (mkF m 200 #[.val (.int p0), .val (.int p1), .val (.int p2), .val (.int p3), .val (.int p4), .val (.int kk), .val (.int nv), .val (.int ka), .val (.int kb), .val (.int kc), .val (.ref b23), .val (.ref r29)] [(.int (1 : Int32)), (.ref r29)])) (fun _ ks_ => XS.iconst X32.here hx rfl (hb hby at_199) ks_) ?_
                refine go (u' := T32.setTop (mkF m 202 #[.val (.int p0), .val (.int p1), .val (.int p2), .val (.int p3), .val (.int p4), .val (.int kk), .val (.int nv), .val (.int ka), .val (.int kb), .val (.int kc), .val (.ref b23), .val (.ref r29)] [(.int kk), (.int (1 : Int32)), (.ref r29)])) (fun _ ks_ => XS.iload X32.here hx rfl (hb hby at_200) rfl  ks_) ?_
                refine go (u' := T32.setTop (mkF m 204 #[.val (.int p0), .val (.int p1), .val (.int p2), .val (.int p3), .val (.int p4), .val (.int kk), .val (.int nv), .val (.int ka), .val (.int kb), .val (.int kc), .val (.ref b23), .val (.ref r29)] [(.int nv), (.int kk), (.int (1 : Int32)), (.ref r29)])) (fun _ ks_ => XS.iload X32.here hx rfl (hb hby at_202) rfl  ks_) ?_
                refine go (u' := T32.setTop (mkF m 206 #[.val (.int p0), .val (.int p1), .val (.int p2), .val (.int p3), .val (.int p4), .val (.int kk), .val (.int nv), .val (.int ka), .val (.int kb), .val (.int kc), .val (.ref b23), .val (.ref r29)] [(.int ka), (.int nv), (.int kk), (.int (1 : Int32)), (.ref r29)])) (fun _ ks_ => XS.iload X32.here hx rfl (hb hby at_204) rfl  ks_) ?_
                refine go (u' := T32.setTop (mkF m 208 #[.val (.int p0), .val (.int p1), .val (.int p2), .val (.int p3), .val (.int p4), .val (.int kk), .val (.int nv), .val (.int ka), .val (.int kb), .val (.int kc), .val (.ref b23), .val (.ref r29)] [(.int kb), (.int ka), (.int nv), (.int kk), (.int (1 : Int32)), (.ref r29)])) (fun _ ks_ => XS.iload X32.here hx rfl (hb hby at_206) rfl  ks_) ?_
                refine go (u' := T32.setTop (mkF m 210 #[.val (.int p0), .val (.int p1), .val (.int p2), .val (.int p3), .val (.int p4), .val (.int kk), .val (.int nv), .val (.int ka), .val (.int kb), .val (.int kc), .val (.ref b23), .val (.ref r29)] [(.int kc), (.int kb), (.int ka), (.int nv), (.int kk), (.int (1 : Int32)), (.ref r29)])) (fun _ ks_ => XS.iload X32.here hx rfl (hb hby at_208) rfl  ks_) ?_
                obtain ⟨_, _, ⟨T33, L33, k33, n33⟩, -, X33, ⟨Lc33, hQ33, l33, y33, z33⟩, st33⟩ := Jvm.LawKit.callS X32 hx (y := (⟨"com/example/chartwright/chartwright/parse/ChartGrammarStartsPinLaw", "ok", "([IIIIIII)Z"⟩ : MethodName)) hown (mvT hZ (ww hw 5 rfl)) (mvT hZ (ww hw 6 rfl)) (mvT hZ (ww hw 7 rfl)) (mvT hZ (ww hw 8 rfl)) (by decide) (backOf (W := 0) (rm2 l Z a0 hw [] r29 (1 : Int32) kk nv ka kb kc (kk + (1 : Int32)).toNatClampNeg (F2 (F1 (own_l [ka, kb]) 2) kk.toNatClampNeg) T29.heap n0 Z29 Fa30 (own_hin (1 : Int32) kk hkr (by decide))) hZ (ww hw 8 rfl) (ww hw 7 rfl) (by decide) (by decide)) (g := (mkF m 210 #[.val (.int p0), .val (.int p1), .val (.int p2), .val (.int p3), .val (.int p4), .val (.int kk), .val (.int nv), .val (.int ka), .val (.int kb), .val (.int kc), .val (.ref b23), .val (.ref r29)] [(.int kc), (.int kb), (.int ka), (.int nv), (.int kk), (.int (1 : Int32)), (.ref r29)])) rfl (by rw [hml]; rfl) (argsL := [(.ref r29), (.int (1 : Int32)), (.int kk), (.int nv), (.int ka), (.int kb), (.int kc)]) (rest := []) (lenOf pd__40__91_IIIIIII_41_Z rfl) rfl (by show 2 * 0 + _ ≤ _; exact Nat.le_of_eq rfl) (hb hby at_210) (fun _ _ => ⟨rfl, eq32, (by decide : 2 + 0 ≤ _), (by decide : 7 + 0 ≤ _)⟩)
                dsimp only [Pt.U, Pt.locs, Pt.cells, Pt.slots] at X33 l33 y33 z33 st33 hQ33
                subst l33 y33 z33
                obtain ⟨rfl, N33q, eq33⟩ := hQ33
                have N33 := Fr.app N32 N33q
                refine go (u' := T33.setTop (mkF m 213 #[.val (.int p0), .val (.int p1), .val (.int p2), .val (.int p3), .val (.int p4), .val (.int kk), .val (.int nv), .val (.int ka), .val (.int kb), .val (.int kc), .val (.ref b23), .val (.ref r29)] [(.int (B ((kk < (1 : Int32)) ∨ (((F2 (F1 (own_l [ka, kb]) 2) kk.toNatClampNeg) (1 : Int32).toNatClampNeg) = (own_below (1 : Int32) nv ka kb kc)))))])) st33 ?_
                refine go (u' := T33.setTop (mkF m 216 #[.val (.int p0), .val (.int p1), .val (.int p2), .val (.int p3), .val (.int p4), .val (.int kk), .val (.int nv), .val (.int ka), .val (.int kb), .val (.int kc), .val (.ref b23), .val (.ref r29)] [])) (fun _ ks_ => XS.ifNo X33.here hx rfl (hb hby at_213) rfl (bT (show ((kk < (1 : Int32)) ∨ (((F2 (F1 (own_l [ka, kb]) 2) kk.toNatClampNeg) (1 : Int32).toNatClampNeg) = (own_below (1 : Int32) nv ka kb kc))) from (own_ok2 kk nv ka kb kc 1 hkr hka hkb c111_3))).2 ks_) ?_
                refine go (u' := T33.setTop (mkF m 218 #[.val (.int p0), .val (.int p1), .val (.int p2), .val (.int p3), .val (.int p4), .val (.int kk), .val (.int nv), .val (.int ka), .val (.int kb), .val (.int kc), .val (.ref b23), .val (.ref r29)] [(.ref r29)])) (fun _ ks_ => XS.aload X33.here hx rfl (hb hby at_216) rfl rfl ks_) ?_
                refine go (u' := T33.setTop (mkF m 219 #[.val (.int p0), .val (.int p1), .val (.int p2), .val (.int p3), .val (.int p4), .val (.int kk), .val (.int nv), .val (.int ka), .val (.int kb), .val (.int kc), .val (.ref b23), .val (.ref r29)] [(.int (2 : Int32)), (.ref r29)])) (fun _ ks_ => XS.iconst X33.here hx rfl (hb hby at_218) ks_) ?_
                refine go (u' := T33.setTop (mkF m 221 #[.val (.int p0), .val (.int p1), .val (.int p2), .val (.int p3), .val (.int p4), .val (.int kk), .val (.int nv), .val (.int ka), .val (.int kb), .val (.int kc), .val (.ref b23), .val (.ref r29)] [(.int kk), (.int (2 : Int32)), (.ref r29)])) (fun _ ks_ => XS.iload X33.here hx rfl (hb hby at_219) rfl  ks_) ?_
                refine go (u' := T33.setTop (mkF m 223 #[.val (.int p0), .val (.int p1), .val (.int p2), .val (.int p3), .val (.int p4), .val (.int kk), .val (.int nv), .val (.int ka), .val (.int kb), .val (.int kc), .val (.ref b23), .val (.ref r29)] [(.int nv), (.int kk), (.int (2 : Int32)), (.ref r29)])) (fun _ ks_ => XS.iload X33.here hx rfl (hb hby at_221) rfl  ks_) ?_
                refine go (u' := T33.setTop (mkF m 225 #[.val (.int p0), .val (.int p1), .val (.int p2), .val (.int p3), .val (.int p4), .val (.int kk), .val (.int nv), .val (.int ka), .val (.int kb), .val (.int kc), .val (.ref b23), .val (.ref r29)] [(.int ka), (.int nv), (.int kk), (.int (2 : Int32)), (.ref r29)])) (fun _ ks_ => XS.iload X33.here hx rfl (hb hby at_223) rfl  ks_) ?_
                refine go (u' := T33.setTop (mkF m 227 #[.val (.int p0), .val (.int p1), .val (.int p2), .val (.int p3), .val (.int p4), .val (.int kk), .val (.int nv), .val (.int ka), .val (.int kb), .val (.int kc), .val (.ref b23), .val (.ref r29)] [(.int kb), (.int ka), (.int nv), (.int kk), (.int (2 : Int32)), (.ref r29)])) (fun _ ks_ => XS.iload X33.here hx rfl (hb hby at_225) rfl  ks_) ?_
                refine go (u' := T33.setTop (mkF m 229 #[.val (.int p0), .val (.int p1), .val (.int p2), .val (.int p3), .val (.int p4), .val (.int kk), .val (.int nv), .val (.int ka), .val (.int kb), .val (.int kc), .val (.ref b23), .val (.ref r29)] [(.int kc), (.int kb), (.int ka), (.int nv), (.int kk), (.int (2 : Int32)), (.ref r29)])) (fun _ ks_ => XS.iload X33.here hx rfl (hb hby at_227) rfl  ks_) ?_
                obtain ⟨_, _, ⟨T34, L34, k34, n34⟩, -, X34, ⟨Lc34, hQ34, l34, y34, z34⟩, st34⟩ := Jvm.LawKit.callS X33 hx (y := (⟨"com/example/chartwright/chartwright/parse/ChartGrammarStartsPinLaw", "ok", "([IIIIIII)Z"⟩ : MethodName)) hown (mvT hZ (ww hw 5 rfl)) (mvT hZ (ww hw 6 rfl)) (mvT hZ (ww hw 7 rfl)) (mvT hZ (ww hw 8 rfl)) (by decide) (backOf (W := 0) (rm2 l Z a0 hw [] r29 (2 : Int32) kk nv ka kb kc (kk + (1 : Int32)).toNatClampNeg (F2 (F1 (own_l [ka, kb]) 2) kk.toNatClampNeg) T29.heap n0 Z29 Fa30 (own_hin (2 : Int32) kk hkr (by decide))) hZ (ww hw 8 rfl) (ww hw 7 rfl) (by decide) (by decide)) (g := (mkF m 229 #[.val (.int p0), .val (.int p1), .val (.int p2), .val (.int p3), .val (.int p4), .val (.int kk), .val (.int nv), .val (.int ka), .val (.int kb), .val (.int kc), .val (.ref b23), .val (.ref r29)] [(.int kc), (.int kb), (.int ka), (.int nv), (.int kk), (.int (2 : Int32)), (.ref r29)])) rfl (by rw [hml]; rfl) (argsL := [(.ref r29), (.int (2 : Int32)), (.int kk), (.int nv), (.int ka), (.int kb), (.int kc)]) (rest := []) (lenOf pd__40__91_IIIIIII_41_Z rfl) rfl (by show 2 * 0 + _ ≤ _; exact Nat.le_of_eq rfl) (hb hby at_229) (fun _ _ => ⟨rfl, eq33, (by decide : 2 + 0 ≤ _), (by decide : 7 + 0 ≤ _)⟩)
                dsimp only [Pt.U, Pt.locs, Pt.cells, Pt.slots] at X34 l34 y34 z34 st34 hQ34
                subst l34 y34 z34
                obtain ⟨rfl, N34q, eq34⟩ := hQ34
                have N34 := Fr.app N33 N34q
                refine go (u' := T34.setTop (mkF m 232 #[.val (.int p0), .val (.int p1), .val (.int p2), .val (.int p3), .val (.int p4), .val (.int kk), .val (.int nv), .val (.int ka), .val (.int kb), .val (.int kc), .val (.ref b23), .val (.ref r29)] [(.int (B ((kk < (2 : Int32)) ∨ (((F2 (F1 (own_l [ka, kb]) 2) kk.toNatClampNeg) (2 : Int32).toNatClampNeg) = (own_below (2 : Int32) nv ka kb kc)))))])) st34 ?_
                refine go (u' := T34.setTop (mkF m 235 #[.val (.int p0), .val (.int p1), .val (.int p2), .val (.int p3), .val (.int p4), .val (.int kk), .val (.int nv), .val (.int ka), .val (.int kb), .val (.int kc), .val (.ref b23), .val (.ref r29)] [])) (fun _ ks_ => XS.ifNo X34.here hx rfl (hb hby at_232) rfl (bT (show ((kk < (2 : Int32)) ∨ (((F2 (F1 (own_l [ka, kb]) 2) kk.toNatClampNeg) (2 : Int32).toNatClampNeg) = (own_below (2 : Int32) nv ka kb kc))) from (own_ok2 kk nv ka kb kc 2 hkr hka hkb c111_3))).2 ks_) ?_
                refine go (u' := T34.setTop (mkF m 237 #[.val (.int p0), .val (.int p1), .val (.int p2), .val (.int p3), .val (.int p4), .val (.int kk), .val (.int nv), .val (.int ka), .val (.int kb), .val (.int kc), .val (.ref b23), .val (.ref r29)] [(.ref r29)])) (fun _ ks_ => XS.aload X34.here hx rfl (hb hby at_235) rfl rfl ks_) ?_
                refine go (u' := T34.setTop (mkF m 238 #[.val (.int p0), .val (.int p1), .val (.int p2), .val (.int p3), .val (.int p4), .val (.int kk), .val (.int nv), .val (.int ka), .val (.int kb), .val (.int kc), .val (.ref b23), .val (.ref r29)] [(.int (3 : Int32)), (.ref r29)])) (fun _ ks_ => XS.iconst X34.here hx rfl (hb hby at_237) ks_) ?_
                refine go (u' := T34.setTop (mkF m 240 #[.val (.int p0), .val (.int p1), .val (.int p2), .val (.int p3), .val (.int p4), .val (.int kk), .val (.int nv), .val (.int ka), .val (.int kb), .val (.int kc), .val (.ref b23), .val (.ref r29)] [(.int kk), (.int (3 : Int32)), (.ref r29)])) (fun _ ks_ => XS.iload X34.here hx rfl (hb hby at_238) rfl  ks_) ?_
                refine go (u' := T34.setTop (mkF m 242 #[.val (.int p0), .val (.int p1), .val (.int p2), .val (.int p3), .val (.int p4), .val (.int kk), .val (.int nv), .val (.int ka), .val (.int kb), .val (.int kc), .val (.ref b23), .val (.ref r29)] [(.int nv), (.int kk), (.int (3 : Int32)), (.ref r29)])) (fun _ ks_ => XS.iload X34.here hx rfl (hb hby at_240) rfl  ks_) ?_
                refine go (u' := T34.setTop (mkF m 244 #[.val (.int p0), .val (.int p1), .val (.int p2), .val (.int p3), .val (.int p4), .val (.int kk), .val (.int nv), .val (.int ka), .val (.int kb), .val (.int kc), .val (.ref b23), .val (.ref r29)] [(.int ka), (.int nv), (.int kk), (.int (3 : Int32)), (.ref r29)])) (fun _ ks_ => XS.iload X34.here hx rfl (hb hby at_242) rfl  ks_) ?_
                refine go (u' := T34.setTop (mkF m 246 #[.val (.int p0), .val (.int p1), .val (.int p2), .val (.int p3), .val (.int p4), .val (.int kk), .val (.int nv), .val (.int ka), .val (.int kb), .val (.int kc), .val (.ref b23), .val (.ref r29)] [(.int kb), (.int ka), (.int nv), (.int kk), (.int (3 : Int32)), (.ref r29)])) (fun _ ks_ => XS.iload X34.here hx rfl (hb hby at_244) rfl  ks_) ?_
                refine go (u' := T34.setTop (mkF m 248 #[.val (.int p0), .val (.int p1), .val (.int p2), .val (.int p3), .val (.int p4), .val (.int kk), .val (.int nv), .val (.int ka), .val (.int kb), .val (.int kc), .val (.ref b23), .val (.ref r29)] [(.int kc), (.int kb), (.int ka), (.int nv), (.int kk), (.int (3 : Int32)), (.ref r29)])) (fun _ ks_ => XS.iload X34.here hx rfl (hb hby at_246) rfl  ks_) ?_
                obtain ⟨_, _, ⟨T35, L35, k35, n35⟩, -, X35, ⟨Lc35, hQ35, l35, y35, z35⟩, st35⟩ := Jvm.LawKit.callS X34 hx (y := (⟨"com/example/chartwright/chartwright/parse/ChartGrammarStartsPinLaw", "ok", "([IIIIIII)Z"⟩ : MethodName)) hown (mvT hZ (ww hw 5 rfl)) (mvT hZ (ww hw 6 rfl)) (mvT hZ (ww hw 7 rfl)) (mvT hZ (ww hw 8 rfl)) (by decide) (backOf (W := 0) (rm2 l Z a0 hw [] r29 (3 : Int32) kk nv ka kb kc (kk + (1 : Int32)).toNatClampNeg (F2 (F1 (own_l [ka, kb]) 2) kk.toNatClampNeg) T29.heap n0 Z29 Fa30 (own_hin (3 : Int32) kk hkr (by decide))) hZ (ww hw 8 rfl) (ww hw 7 rfl) (by decide) (by decide)) (g := (mkF m 248 #[.val (.int p0), .val (.int p1), .val (.int p2), .val (.int p3), .val (.int p4), .val (.int kk), .val (.int nv), .val (.int ka), .val (.int kb), .val (.int kc), .val (.ref b23), .val (.ref r29)] [(.int kc), (.int kb), (.int ka), (.int nv), (.int kk), (.int (3 : Int32)), (.ref r29)])) rfl (by rw [hml]; rfl) (argsL := [(.ref r29), (.int (3 : Int32)), (.int kk), (.int nv), (.int ka), (.int kb), (.int kc)]) (rest := []) (lenOf pd__40__91_IIIIIII_41_Z rfl) rfl (by show 2 * 0 + _ ≤ _; exact Nat.le_of_eq rfl) (hb hby at_248) (fun _ _ => ⟨rfl, eq34, (by decide : 2 + 0 ≤ _), (by decide : 7 + 0 ≤ _)⟩)
                dsimp only [Pt.U, Pt.locs, Pt.cells, Pt.slots] at X35 l35 y35 z35 st35 hQ35
                subst l35 y35 z35
                obtain ⟨rfl, N35q, eq35⟩ := hQ35
                have N35 := Fr.app N34 N35q
                refine go (u' := T35.setTop (mkF m 251 #[.val (.int p0), .val (.int p1), .val (.int p2), .val (.int p3), .val (.int p4), .val (.int kk), .val (.int nv), .val (.int ka), .val (.int kb), .val (.int kc), .val (.ref b23), .val (.ref r29)] [(.int (B ((kk < (3 : Int32)) ∨ (((F2 (F1 (own_l [ka, kb]) 2) kk.toNatClampNeg) (3 : Int32).toNatClampNeg) = (own_below (3 : Int32) nv ka kb kc)))))])) st35 ?_
                refine go (u' := T35.setTop (mkF m 254 #[.val (.int p0), .val (.int p1), .val (.int p2), .val (.int p3), .val (.int p4), .val (.int kk), .val (.int nv), .val (.int ka), .val (.int kb), .val (.int kc), .val (.ref b23), .val (.ref r29)] [])) (fun _ ks_ => XS.ifNo X35.here hx rfl (hb hby at_251) rfl (bT (show ((kk < (3 : Int32)) ∨ (((F2 (F1 (own_l [ka, kb]) 2) kk.toNatClampNeg) (3 : Int32).toNatClampNeg) = (own_below (3 : Int32) nv ka kb kc))) from (own_ok2 kk nv ka kb kc 3 hkr hka hkb c111_3))).2 ks_) ?_
                refine go (u' := T35.setTop (mkF m 256 #[.val (.int p0), .val (.int p1), .val (.int p2), .val (.int p3), .val (.int p4), .val (.int kk), .val (.int nv), .val (.int ka), .val (.int kb), .val (.int kc), .val (.ref b23), .val (.ref r29)] [(.ref r29)])) (fun _ ks_ => XS.aload X35.here hx rfl (hb hby at_254) rfl rfl ks_) ?_
                refine go (u' := T35.setTop (mkF m 257 #[.val (.int p0), .val (.int p1), .val (.int p2), .val (.int p3), .val (.int p4), .val (.int kk), .val (.int nv), .val (.int ka), .val (.int kb), .val (.int kc), .val (.ref b23), .val (.ref r29)] [(.int (4 : Int32)), (.ref r29)])) (fun _ ks_ => XS.iconst X35.here hx rfl (hb hby at_256) ks_) ?_
                refine go (u' := T35.setTop (mkF m 259 #[.val (.int p0), .val (.int p1), .val (.int p2), .val (.int p3), .val (.int p4), .val (.int kk), .val (.int nv), .val (.int ka), .val (.int kb), .val (.int kc), .val (.ref b23), .val (.ref r29)] [(.int kk), (.int (4 : Int32)), (.ref r29)])) (fun _ ks_ => XS.iload X35.here hx rfl (hb hby at_257) rfl  ks_) ?_
                refine go (u' := T35.setTop (mkF m 261 #[.val (.int p0), .val (.int p1), .val (.int p2), .val (.int p3), .val (.int p4), .val (.int kk), .val (.int nv), .val (.int ka), .val (.int kb), .val (.int kc), .val (.ref b23), .val (.ref r29)] [(.int nv), (.int kk), (.int (4 : Int32)), (.ref r29)])) (fun _ ks_ => XS.iload X35.here hx rfl (hb hby at_259) rfl  ks_) ?_
                refine go (u' := T35.setTop (mkF m 263 #[.val (.int p0), .val (.int p1), .val (.int p2), .val (.int p3), .val (.int p4), .val (.int kk), .val (.int nv), .val (.int ka), .val (.int kb), .val (.int kc), .val (.ref b23), .val (.ref r29)] [(.int ka), (.int nv), (.int kk), (.int (4 : Int32)), (.ref r29)])) (fun _ ks_ => XS.iload X35.here hx rfl (hb hby at_261) rfl  ks_) ?_
                refine go (u' := T35.setTop (mkF m 265 #[.val (.int p0), .val (.int p1), .val (.int p2), .val (.int p3), .val (.int p4), .val (.int kk), .val (.int nv), .val (.int ka), .val (.int kb), .val (.int kc), .val (.ref b23), .val (.ref r29)] [(.int kb), (.int ka), (.int nv), (.int kk), (.int (4 : Int32)), (.ref r29)])) (fun _ ks_ => XS.iload X35.here hx rfl (hb hby at_263) rfl  ks_) ?_
                refine go (u' := T35.setTop (mkF m 267 #[.val (.int p0), .val (.int p1), .val (.int p2), .val (.int p3), .val (.int p4), .val (.int kk), .val (.int nv), .val (.int ka), .val (.int kb), .val (.int kc), .val (.ref b23), .val (.ref r29)] [(.int kc), (.int kb), (.int ka), (.int nv), (.int kk), (.int (4 : Int32)), (.ref r29)])) (fun _ ks_ => XS.iload X35.here hx rfl (hb hby at_265) rfl  ks_) ?_
                obtain ⟨_, _, ⟨T36, L36, k36, n36⟩, -, X36, ⟨Lc36, hQ36, l36, y36, z36⟩, st36⟩ := Jvm.LawKit.callS X35 hx (y := (⟨"com/example/chartwright/chartwright/parse/ChartGrammarStartsPinLaw", "ok", "([IIIIIII)Z"⟩ : MethodName)) hown (mvT hZ (ww hw 5 rfl)) (mvT hZ (ww hw 6 rfl)) (mvT hZ (ww hw 7 rfl)) (mvT hZ (ww hw 8 rfl)) (by decide) (backOf (W := 0) (rm2 l Z a0 hw [] r29 (4 : Int32) kk nv ka kb kc (kk + (1 : Int32)).toNatClampNeg (F2 (F1 (own_l [ka, kb]) 2) kk.toNatClampNeg) T29.heap n0 Z29 Fa30 (own_hin (4 : Int32) kk hkr (by decide))) hZ (ww hw 8 rfl) (ww hw 7 rfl) (by decide) (by decide)) (g := (mkF m 267 #[.val (.int p0), .val (.int p1), .val (.int p2), .val (.int p3), .val (.int p4), .val (.int kk), .val (.int nv), .val (.int ka), .val (.int kb), .val (.int kc), .val (.ref b23), .val (.ref r29)] [(.int kc), (.int kb), (.int ka), (.int nv), (.int kk), (.int (4 : Int32)), (.ref r29)])) rfl (by rw [hml]; rfl) (argsL := [(.ref r29), (.int (4 : Int32)), (.int kk), (.int nv), (.int ka), (.int kb), (.int kc)]) (rest := []) (lenOf pd__40__91_IIIIIII_41_Z rfl) rfl (by show 2 * 0 + _ ≤ _; exact Nat.le_of_eq rfl) (hb hby at_267) (fun _ _ => ⟨rfl, eq35, (by decide : 2 + 0 ≤ _), (by decide : 7 + 0 ≤ _)⟩)
                dsimp only [Pt.U, Pt.locs, Pt.cells, Pt.slots] at X36 l36 y36 z36 st36 hQ36
                subst l36 y36 z36
                obtain ⟨rfl, N36q, eq36⟩ := hQ36
                have N36 := Fr.app N35 N36q
                refine go (u' := T36.setTop (mkF m 270 #[.val (.int p0), .val (.int p1), .val (.int p2), .val (.int p3), .val (.int p4), .val (.int kk), .val (.int nv), .val (.int ka), .val (.int kb), .val (.int kc), .val (.ref b23), .val (.ref r29)] [(.int (B ((kk < (4 : Int32)) ∨ (((F2 (F1 (own_l [ka, kb]) 2) kk.toNatClampNeg) (4 : Int32).toNatClampNeg) = (own_below (4 : Int32) nv ka kb kc)))))])) st36 ?_
                refine go (u' := T36.setTop (mkF m 273 #[.val (.int p0), .val (.int p1), .val (.int p2), .val (.int p3), .val (.int p4), .val (.int kk), .val (.int nv), .val (.int ka), .val (.int kb), .val (.int kc), .val (.ref b23), .val (.ref r29)] [])) (fun _ ks_ => XS.ifNo X36.here hx rfl (hb hby at_270) rfl (bT (show ((kk < (4 : Int32)) ∨ (((F2 (F1 (own_l [ka, kb]) 2) kk.toNatClampNeg) (4 : Int32).toNatClampNeg) = (own_below (4 : Int32) nv ka kb kc))) from (own_ok2 kk nv ka kb kc 4 hkr hka hkb c111_3))).2 ks_) ?_
                refine go (u' := T36.setTop (mkF m 274 #[.val (.int p0), .val (.int p1), .val (.int p2), .val (.int p3), .val (.int p4), .val (.int kk), .val (.int nv), .val (.int ka), .val (.int kb), .val (.int kc), .val (.ref b23), .val (.ref r29)] [(.int (1 : Int32))])) (fun _ ks_ => XS.iconst X36.here hx rfl (hb hby at_273) ks_) ?_
                refine go (u' := T36.setTop (mkF m 278 #[.val (.int p0), .val (.int p1), .val (.int p2), .val (.int p3), .val (.int p4), .val (.int kk), .val (.int nv), .val (.int ka), .val (.int kb), .val (.int kc), .val (.ref b23), .val (.ref r29)] [(.int (1 : Int32))])) (fun _ ks_ => XS.goto X36.here hx rfl (pc0 := 274) (pc' := 278) rfl (hb hby at_274) (by decide) (by decide) ks_) ?_
                rw [hG]
                refine gN X36 hx hlk (t := .boolean) hret (by simp) rfl (hb hby at_278) ?_ (Nat.le_of_ble_eq_true rfl) (Nat.le_of_ble_eq_true rfl)
                show Q_rm0 Z p0 p1 p2 p3 p4 h0 n0 (some (.int (1 : Int32))) T36.heap _
                rw [eq36]
                exact ⟨rfl, N36⟩
              ·
                refine go (u' := s₁.setTop (mkF m 132 #[.val (.int p0), .val (.int p1), .val (.int p2), .val (.int p3), .val (.int p4), .val (.int kk), .val (.int nv), .val (.int ka), .val (.int kb), .val (.int kc), .unset, .unset] [])) (fun _ ks_ => XS.icmpYes X0.here hx rfl (pc0 := 111) (pc' := 132) rfl (hb hby at_111) rfl (feq c111_3).2 (by decide) (by decide) ks_) ?_
                refine go (u' := s₁.setTop (mkF m 133 #[.val (.int p0), .val (.int p1), .val (.int p2), .val (.int p3), .val (.int p4), .val (.int kk), .val (.int nv), .val (.int ka), .val (.int kb), .val (.int kc), .unset, .unset] [(.int (3 : Int32))])) (fun _ ks_ => XS.iconst X0.here hx rfl (hb hby at_132) ks_) ?_
                obtain ⟨T37, h37, k37, X37, e37, E37, A37, st37⟩ := newP X0 hx hZ (ww hw 0 rfl) e0 (g := (mkF m 133 #[.val (.int p0), .val (.int p1), .val (.int p2), .val (.int p3), .val (.int p4), .val (.int kk), .val (.int nv), .val (.int ka), .val (.int kb), .val (.int kc), .unset, .unset] [(.int (3 : Int32))])) rfl (hb hby at_133) rfl (by decide) (cap := 3) (by decide) (by decide) (by decide) (by decide)
                obtain ⟨b37, g37⟩ : ∃ z, z = h0.size := ⟨_, rfl⟩
                rw [← g37] at A37 st37
                have g_b37 : n0 ≤ b37 := Nat.le_trans Z0 (Nat.le_of_eq g37.symm)
                have sz_b37 : h0.size ≤ b37 := Nat.le_trans (Keep.refl h0 []).1 (Nat.le_of_eq g37.symm)
                have K37 : Keep h0 h37 [] := (Keep.refl h0 []).ext E37
                have Z37 : n0 ≤ h37.size := Nat.le_trans Z0 E37.1
                have Fa38 : PI Z h37 b37 .int 3 (own_l [(0 : Int32), (0 : Int32), (0 : Int32)]) := PI.newL A37 (by decide) rfl rfl
                refine go (u' := T37.setTop (mkF m 135 #[.val (.int p0), .val (.int p1), .val (.int p2), .val (.int p3), .val (.int p4), .val (.int kk), .val (.int nv), .val (.int ka), .val (.int kb), .val (.int kc), .unset, .unset] [(.ref b37)])) st37 ?_
                refine go (u' := T37.setTop (mkF m 136 #[.val (.int p0), .val (.int p1), .val (.int p2), .val (.int p3), .val (.int p4), .val (.int kk), .val (.int nv), .val (.int ka), .val (.int kb), .val (.int kc), .unset, .unset] [(.ref b37), (.ref b37)])) (fun _ ks_ => XS.dup X37.here hx rfl (hb hby at_135) rfl rfl ks_) ?_
                refine go (u' := T37.setTop (mkF m 137 #[.val (.int p0), .val (.int p1), .val (.int p2), .val (.int p3), .val (.int p4), .val (.int kk), .val (.int nv), .val (.int ka), .val (.int kb), .val (.int kc), .unset, .unset] [(.int (0 : Int32)), (.ref b37), (.ref b37)])) (fun _ ks_ => XS.iconst X37.here hx rfl (hb hby at_136) ks_) ?_
                refine go (u' := T37.setTop (mkF m 139 #[.val (.int p0), .val (.int p1), .val (.int p2), .val (.int p3), .val (.int p4), .val (.int kk), .val (.int nv), .val (.int ka), .val (.int kb), .val (.int kc), .unset, .unset] [(.int ka), (.int (0 : Int32)), (.ref b37), (.ref b37)])) (fun _ ks_ => XS.iload X37.here hx rfl (hb hby at_137) rfl  ks_) ?_
                obtain ⟨T39, h39, X39, e39, W39, st39⟩ := own_iastore X37 hx hZ e37 Fa38 (j := (0 : Int32)) (x := ka)  (by decide) (by decide) (f := (mkF m 139 #[.val (.int p0), .val (.int p1), .val (.int p2), .val (.int p3), .val (.int p4), .val (.int kk), .val (.int nv), .val (.int ka), .val (.int kb), .val (.int kc), .unset, .unset] [(.int ka), (.int (0 : Int32)), (.ref b37), (.ref b37)])) rfl rfl (hb hby at_139)
                have N39 := Fr.snoc X39 N0 g_b37
                have K39 : Keep h0 h39 [] := K37.wr W39 (Or.inr sz_b37)
                have Z39 : n0 ≤ h39.size := Nat.le_trans Z37 (Keep.of_wr W39).1
                have Fa40 : PI Z h39 b37 .int 3 (own_l [ka, (0 : Int32), (0 : Int32)]) := Fa38.setL (by decide) W39 rfl (Nat.le_of_ble_eq_true rfl) rfl
                refine go (u' := T39.setTop (mkF m 140 #[.val (.int p0), .val (.int p1), .val (.int p2), .val (.int p3), .val (.int p4), .val (.int kk), .val (.int nv), .val (.int ka), .val (.int kb), .val (.int kc), .unset, .unset] [(.ref b37)])) st39 ?_
                refine go (u' := T39.setTop (mkF m 141 #[.val (.int p0), .val (.int p1), .val (.int p2), .val (.int p3), .val (.int p4), .val (.int kk), .val (.int nv), .val (.int ka), .val (.int kb), .val (.int kc), .unset, .unset] [(.ref b37), (.ref b37)])) (fun _ ks_ => XS.dup X39.here hx rfl (hb hby at_140) rfl rfl ks_) ?_
                refine go (u' := T39.setTop (mkF m 142 #[.val (.int p0), .val (.int p1), .val (.int p2), .val (.int p3), .val (.int p4), .val (.int kk), .val (.int nv), .val (.int ka), .val (.int kb), .val (.int kc), .unset, .unset] [(.int (1 : Int32)), (.ref b37), (.ref b37)])) (fun _ ks_ => XS.iconst X39.here hx rfl (hb hby at_141) ks_) ?_
                refine go (u' := T39.setTop (mkF m 144 #[.val (.int p0), .val (.int p1), .val (.int p2), .val (.int p3), .val (.int p4), .val (.int kk), .val (.int nv), .val (.int ka), .val (.int kb), .val (.int kc), .unset, .unset] [(.int kb), (.int (1 : Int32)), (.ref b37), (.ref b37)])) (fun _ ks_ => XS.iload X39.here hx rfl (hb hby at_142) rfl  ks_) ?_
                obtain ⟨T41, h41, X41, e41, W41, st41⟩ := own_iastore X39 hx hZ e39 Fa40 (j := (1 : Int32)) (x := kb)  (by decide) (by decide) (f := (mkF m 144 #[.val (.int p0), .val (.int p1), .val (.int p2), .val (.int p3), .val (.int p4), .val (.int kk), .val (.int nv), .val (.int ka), .val (.int kb), .val (.int kc), .unset, .unset] [(.int kb), (.int (1 : Int32)), (.ref b37), (.ref b37)])) rfl rfl (hb hby at_144)
                have N41 := Fr.snoc X41 N39 g_b37
                have K41 : Keep h0 h41 [] := K39.wr W41 (Or.inr sz_b37)
                have Z41 : n0 ≤ h41.size := Nat.le_trans Z39 (Keep.of_wr W41).1
                have Fa42 : PI Z h41 b37 .int 3 (own_l [ka, kb, (0 : Int32)]) := Fa40.setL (by decide) W41 rfl (Nat.le_of_ble_eq_true rfl) rfl
                refine go (u' := T41.setTop (mkF m 145 #[.val (.int p0), .val (.int p1), .val (.int p2), .val (.int p3), .val (.int p4), .val (.int kk), .val (.int nv), .val (.int ka), .val (.int kb), .val (.int kc), .unset, .unset] [(.ref b37)])) st41 ?_
                refine go (u' := T41.setTop (mkF m 146 #[.val (.int p0), .val (.int p1), .val (.int p2), .val (.int p3), .val (.int p4), .val (.int kk), .val (.int nv), .val (.int ka), .val (.int kb), .val (.int kc), .unset, .unset] [(.ref b37), (.ref b37)])) (fun _ ks_ => XS.dup X41.here hx rfl (hb hby at_145) rfl rfl ks_) ?_
                refine go (u' := T41.setTop (mkF m 147 #[.val (.int p0), .val (.int p1), .val (.int p2), .val (.int p3), .val (.int p4), .val (.int kk), .val (.int nv), .val (.int ka), .val (.int kb), .val (.int kc), .unset, .unset] [(.int (2 : Int32)), (.ref b37), (.ref b37)])) (fun _ ks_ => XS.iconst X41.here hx rfl (hb hby at_146) ks_) ?_
                refine go (u' := T41.setTop (mkF m 149 #[.val (.int p0), .val (.int p1), .val (.int p2), .val (.int p3), .val (.int p4), .val (.int kk), .val (.int nv), .val (.int ka), .val (.int kb), .val (.int kc), .unset, .unset] [(.int kc), (.int (2 : Int32)), (.ref b37), (.ref b37)])) (fun _ ks_ => XS.iload X41.here hx rfl (hb hby at_147) rfl  ks_) ?_
                obtain ⟨T43, h43, X43, e43, W43, st43⟩ := own_iastore X41 hx hZ e41 Fa42 (j := (2 : Int32)) (x := kc)  (by decide) (by decide) (f := (mkF m 149 #[.val (.int p0), .val (.int p1), .val (.int p2), .val (.int p3), .val (.int p4), .val (.int kk), .val (.int nv), .val (.int ka), .val (.int kb), .val (.int kc), .unset, .unset] [(.int kc), (.int (2 : Int32)), (.ref b37), (.ref b37)])) rfl rfl (hb hby at_149)
                have N43 := Fr.snoc X43 N41 g_b37
                have K43 : Keep h0 h43 [] := K41.wr W43 (Or.inr sz_b37)
                have Z43 : n0 ≤ h43.size := Nat.le_trans Z41 (Keep.of_wr W43).1
                have Fa44 : PI Z h43 b37 .int 3 (own_l [ka, kb, kc]) := Fa42.setL (by decide) W43 rfl (Nat.le_of_ble_eq_true rfl) rfl
                refine go (u' := T43.setTop (mkF m 150 #[.val (.int p0), .val (.int p1), .val (.int p2), .val (.int p3), .val (.int p4), .val (.int kk), .val (.int nv), .val (.int ka), .val (.int kb), .val (.int kc), .unset, .unset] [(.ref b37)])) st43 ?_
                refine go (u' := T43.setTop (mkF m 152 #[.val (.int p0), .val (.int p1), .val (.int p2), .val (.int p3), .val (.int p4), .val (.int kk), .val (.int nv), .val (.int ka), .val (.int kb), .val (.int kc), .val (.ref b37), .unset] [])) (fun _ ks_ => XS.astore X43.here hx rfl (hb hby at_150) rfl rfl (l' := #[.val (.int p0), .val (.int p1), .val (.int p2), .val (.int p3), .val (.int p4), .val (.int kk), .val (.int nv), .val (.int ka), .val (.int kb), .val (.int kc), .val (.ref b37), .unset]) rfl ks_) ?_
                refine go (u' := T43.setTop (mkF m 154 #[.val (.int p0), .val (.int p1), .val (.int p2), .val (.int p3), .val (.int p4), .val (.int kk), .val (.int nv), .val (.int ka), .val (.int kb), .val (.int kc), .val (.ref b37), .unset] [(.ref b37)])) (fun _ ks_ => XS.aload X43.here hx rfl (hb hby at_152) rfl rfl ks_) ?_
                refine go (u' := T43.setTop (mkF m 156 #[.val (.int p0), .val (.int p1), .val (.int p2), .val (.int p3), .val (.int p4), .val (.int kk), .val (.int nv), .val (.int ka), .val (.int kb), .val (.int kc), .val (.ref b37), .unset] [(.int kk), (.ref b37)])) (fun _ ks_ => XS.iload X43.here hx rfl (hb hby at_154) rfl  ks_) ?_
                have hk0 := own_nv p1 kk nv hnv c78_1
                have hn3 := own_nv3 p1 kk nv hnv c78_1 c92_2 c111_3
                obtain ⟨hka, hkb, hkc⟩ := own_abc p2 p3 p4 kk ka kb kc hkr hk0 hka hkb hkc
                obtain ⟨_, _, ⟨T45, L45, k45, n45⟩, -, X45, ⟨Lc45, hQ45, l45, y45, z45⟩, st45⟩ := Jvm.LawKit.callS X43 hx (y := (⟨"com/example/chartwright/chartwright/parse/ChartGrammar", "starts", "([II)[I"⟩ : MethodName)) hown (mvT hZ (ww hw 1 rfl)) (mvT hZ (ww hw 2 rfl)) (mvT hZ (ww hw 3 rfl)) (mvT hZ (ww hw 4 rfl)) (by decide) (backOf (W := 0) (rm1 l Z a0 hw [] b37 kk 3 (own_l [ka, kb, kc]) h43 n0 Z43 Fa44 hkr (own_he3 hka hkb hkc)) hZ (ww hw 4 rfl) (ww hw 3 rfl) (by decide) (by decide)) (g := (mkF m 156 #[.val (.int p0), .val (.int p1), .val (.int p2), .val (.int p3), .val (.int p4), .val (.int kk), .val (.int nv), .val (.int ka), .val (.int kb), .val (.int kc), .val (.ref b37), .unset] [(.int kk), (.ref b37)])) rfl (by rw [hml]; rfl) (argsL := [(.ref b37), (.int kk)]) (rest := []) (lenOf pd__40__91_II_41__91_I rfl) rfl (by show 2 * 0 + _ ≤ _; exact Nat.le_of_eq rfl) (hb hby at_156) (fun _ _ => ⟨rfl, e43, (by decide : 1 + 1 ≤ _), (by decide : 3 + 5 ≤ _)⟩)
                dsimp only [Pt.U, Pt.locs, Pt.cells, Pt.slots] at X45 l45 y45 z45 st45 hQ45
                subst l45 y45 z45
                obtain ⟨r45, rfl, N45q, Kq45, Fa46, gr_45⟩ := hQ45
                have N45 := Fr.app N43 N45q
                have K45 : Keep h0 T45.heap [] := K43.trans Kq45 all0
                have Z45 : n0 ≤ T45.heap.size := Nat.le_trans Z43 Kq45.1
                have Fa47 : PI Z T45.heap b37 .int 3 (own_l [ka, kb, kc]) := Fa44.keep Kq45 nin0
                have ne_b37_r45 : b37 ≠ r45 := Nat.ne_of_lt (Nat.lt_of_lt_of_le Fa44.lt gr_45)
                have g_r45 : n0 ≤ r45 := Nat.le_trans Z43 gr_45
                have sz_r45 : h0.size ≤ r45 := Nat.le_trans K43.1 gr_45
                refine go (u' := T45.setTop (mkF m 159 #[.val (.int p0), .val (.int p1), .val (.int p2), .val (.int p3), .val (.int p4), .val (.int kk), .val (.int nv), .val (.int ka), .val (.int kb), .val (.int kc), .val (.ref b37), .unset] [(.ref r45)])) st45 ?_
                refine go (u' := T45.setTop (mkF m 161 #[.val (.int p0), .val (.int p1), .val (.int p2), .val (.int p3), .val (.int p4), .val (.int kk), .val (.int nv), .val (.int ka), .val (.int kb), .val (.int kc), .val (.ref b37), .val (.ref r45)] [])) (fun _ ks_ => XS.astore X45.here hx rfl (hb hby at_159) rfl rfl (l' := #[.val (.int p0), .val (.int p1), .val (.int p2), .val (.int p3), .val (.int p4), .val (.int kk), .val (.int nv), .val (.int ka), .val (.int kb), .val (.int kc), .val (.ref b37), .val (.ref r45)]) rfl ks_) ?_
                refine go (u' := T45.setTop (mkF m 163 #[.val (.int p0), .val (.int p1), .val (.int p2), .val (.int p3), .val (.int p4), .val (.int kk), .val (.int nv), .val (.int ka), .val (.int kb), .val (.int kc), .val (.ref b37), .val (.ref r45)] [(.ref r45)])) (fun _ ks_ => XS.aload X45.here hx rfl (hb hby at_161) rfl rfl ks_) ?_
                refine go (u' := T45.setTop (mkF m 166 #[.val (.int p0), .val (.int p1), .val (.int p2), .val (.int p3), .val (.int p4), .val (.int kk), .val (.int nv), .val (.int ka), .val (.int kb), .val (.int kc), .val (.ref b37), .val (.ref r45)] [])) (fun _ ks_ => XS.ifnullNo X45.here hx rfl (hb hby at_163) rfl ks_) ?_
                refine go (u' := T45.setTop (mkF m 168 #[.val (.int p0), .val (.int p1), .val (.int p2), .val (.int p3), .val (.int p4), .val (.int kk), .val (.int nv), .val (.int ka), .val (.int kb), .val (.int kc), .val (.ref b37), .val (.ref r45)] [(.ref r45)])) (fun _ ks_ => XS.aload X45.here hx rfl (hb hby at_166) rfl rfl ks_) ?_
                refine go (u' := T45.setTop (mkF m 169 #[.val (.int p0), .val (.int p1), .val (.int p2), .val (.int p3), .val (.int p4), .val (.int kk), .val (.int nv), .val (.int ka), .val (.int kb), .val (.int kc), .val (.ref b37), .val (.ref r45)] [(.int (kk + (1 : Int32)))])) (own_alen X45 hx hZ (rfl : T45.heap = _) Fa46 (z := (kk + (1 : Int32))) (back32 (own_k1 hkr).1).1 (f := (mkF m 168 #[.val (.int p0), .val (.int p1), .val (.int p2), .val (.int p3), .val (.int p4), .val (.int kk), .val (.int nv), .val (.int ka), .val (.int kb), .val (.int kc), .val (.ref b37), .val (.ref r45)] [(.ref r45)])) rfl rfl (hb hby at_168)) ?_
                refine go (u' := T45.setTop (mkF m 171 #[.val (.int p0), .val (.int p1), .val (.int p2), .val (.int p3), .val (.int p4), .val (.int kk), .val (.int nv), .val (.int ka), .val (.int kb), .val (.int kc), .val (.ref b37), .val (.ref r45)] [(.int kk), (.int (kk + (1 : Int32)))])) (fun _ ks_ => XS.iload X45.here hx rfl (hb hby at_169) rfl  ks_) ?_
                refine go (u' := T45.setTop (mkF m 172 #[.val (.int p0), .val (.int p1), .val (.int p2), .val (.int p3), .val (.int p4), .val (.int kk), .val (.int nv), .val (.int ka), .val (.int kb), .val (.int kc), .val (.ref b37), .val (.ref r45)] [(.int (1 : Int32)), (.int kk), (.int (kk + (1 : Int32)))])) (fun _ ks_ => XS.iconst X45.here hx rfl (hb hby at_171) ks_) ?_
                refine go (u' := T45.setTop (mkF m 173 #[.val (.int p0), .val (.int p1), .val (.int p2), .val (.int p3), .val (.int p4), .val (.int kk), .val (.int nv), .val (.int ka), .val (.int kb), .val (.int kc), .val (.ref b37), .val (.ref r45)] [(.int (kk + (1 : Int32))), (.int (kk + (1 : Int32)))])) (fun _ ks_ => XS.iadd X45.here hx rfl (hb hby at_172) rfl ks_) ?_
                refine go (u' := T45.setTop (mkF m 178 #[.val (.int p0), .val (.int p1), .val (.int p2), .val (.int p3), .val (.int p4), .val (.int kk), .val (.int nv), .val (.int ka), .val (.int kb), .val (.int kc), .val (.ref b37), .val (.ref r45)] [])) (fun _ ks_ => XS.icmpYes X45.here hx rfl (pc0 := 173) (pc' := 178) rfl (hb hby at_173) rfl (teq rfl).1 (by decide) (by decide) ks_) ?_
                refine go (u' := T45.setTop (mkF m 180 #[.val (.int p0), .val (.int p1), .val (.int p2), .val (.int p3), .val (.int p4), .val (.int kk), .val (.int nv), .val (.int ka), .val (.int kb), .val (.int kc), .val (.ref b37), .val (.ref r45)] [(.ref r45)])) (fun _ ks_ => XS.aload X45.here hx rfl (hb hby at_178) rfl rfl ks_) ?_
                refine go (u' := T45.setTop (mkF m 181 #[.val (.int p0), .val (.int p1), .val (.int p2), .val (.int p3), .val (.int p4), .val (.int kk), .val (.int nv), .val (.int ka), .val (.int kb), .val (.int kc), .val (.ref b37), .val (.ref r45)] [(.int (0 : Int32)), (.ref r45)])) (fun _ ks_ => XS.iconst X45.here hx rfl (hb hby at_180) ks_) ?_
                refine go (u' := T45.setTop (mkF m 183 #[.val (.int p0), .val (.int p1), .val (.int p2), .val (.int p3), .val (.int p4), .val (.int kk), .val (.int nv), .val (.int ka), .val (.int kb), .val (.int kc), .val (.ref b37), .val (.ref r45)] [(.int kk), (.int (0 : Int32)), (.ref r45)])) (fun _ ks_ => XS.iload X45.here hx rfl (hb hby at_181) rfl  ks_) ?_
                refine go (u' := T45.setTop (mkF m 185 #[.val (.int p0), .val (.int p1), .val (.int p2), .val (.int p3), .val (.int p4), .val (.int kk), .val (.int nv), .val (.int ka), .val (.int kb), .val (.int kc), .val (.ref b37), .val (.ref r45)] [(.int nv), (.int kk), (.int (0 : Int32)), (.ref r45)])) (fun _ ks_ => XS.iload X45.here hx rfl (hb hby at_183) rfl  ks_) ?_
                refine go (u' := T45.setTop (mkF m 187 #[.val (.int p0), .val (.int p1), .val (.int p2), .val (.int p3), .val (.int p4), .val (.int kk), .val (.int nv), .val (.int ka), .val (.int kb), .val (.int kc), .val (.ref b37), .val (.ref r45)] [(.int ka), (.int nv), (.int kk), (.int (0 : Int32)), (.ref r45)])) (fun _ ks_ => XS.iload X45.here hx rfl (hb hby at_185) rfl  ks_) ?_
                refine go (u' := T45.setTop (mkF m 189 #[.val (.int p0), .val (.int p1), .val (.int p2), .val (.int p3), .val (.int p4), .val (.int kk), .val (.int nv), .val (.int ka), .val (.int kb), .val (.int kc), .val (.ref b37), .val (.ref r45)] [(.int kb), (.int ka), (.int nv), (.int kk), (.int (0 : Int32)), (.ref r45)])) (fun _ ks_ => XS.iload X45.here hx rfl (hb hby at_187) rfl  ks_) ?_
                refine go (u' := T45.setTop (mkF m 191 #[.val (.int p0), .val (.int p1), .val (.int p2), .val (.int p3), .val (.int p4), .val (.int kk), .val (.int nv), .val (.int ka), .val (.int kb), .val (.int kc), .val (.ref b37), .val (.ref r45)] [(.int kc), (.int kb), (.int ka), (.int nv), (.int kk), (.int (0 : Int32)), (.ref r45)])) (fun _ ks_ => XS.iload X45.here hx rfl (hb hby at_189) rfl  ks_) ?_
                obtain ⟨_, _, ⟨T48, L48, k48, n48⟩, -, X48, ⟨Lc48, hQ48, l48, y48, z48⟩, st48⟩ := Jvm.LawKit.callS X45 hx (y := (⟨"com/example/chartwright/chartwright/parse/ChartGrammarStartsPinLaw", "ok", "([IIIIIII)Z"⟩ : MethodName)) hown (mvT hZ (ww hw 5 rfl)) (mvT hZ (ww hw 6 rfl)) (mvT hZ (ww hw 7 rfl)) (mvT hZ (ww hw 8 rfl)) (by decide) (backOf (W := 0) (rm2 l Z a0 hw [] r45 (0 : Int32) kk nv ka kb kc (kk + (1 : Int32)).toNatClampNeg (F2 (F1 (own_l [ka, kb, kc]) 3) kk.toNatClampNeg) T45.heap n0 Z45 Fa46 (own_hin (0 : Int32) kk hkr (by decide))) hZ (ww hw 8 rfl) (ww hw 7 rfl) (by decide) (by decide)) (g := (mkF m 191 #[.val (.int p0), .val (.int p1), .val (.int p2), .val (.int p3), .val (.int p4), .val (.int kk), .val (.int nv), .val (.int ka), .val (.int kb), .val (.int kc), .val (.ref b37), .val (.ref r45)] [(.int kc), (.int kb), (.int ka), (.int nv), (.int kk), (.int (0 : Int32)), (.ref r45)])) rfl (by rw [hml]; rfl) (argsL := [(.ref r45), (.int (0 : Int32)), (.int kk), (.int nv), (.int ka), (.int kb), (.int kc)]) (rest := []) (lenOf pd__40__91_IIIIIII_41_Z rfl) rfl (by show 2 * 0 + _ ≤ _; exact Nat.le_of_eq rfl) (hb hby at_191) (fun _ _ => ⟨rfl, (rfl : T45.heap = _), (by decide : 2 + 0 ≤ _), (by decide : 8 + 0 ≤ _)⟩)
                dsimp only [Pt.U, Pt.locs, Pt.cells, Pt.slots] at X48 l48 y48 z48 st48 hQ48
                subst l48 y48 z48
                obtain ⟨rfl, N48q, eq48⟩ := hQ48
                have N48 := Fr.app N45 N48q
                refine go (u' := T48.setTop (mkF m 194 #[.val (.int p0), .val (.int p1), .val (.int p2), .val (.int p3), .val (.int p4), .val (.int kk), .val (.int nv), .val (.int ka), .val (.int kb), .val (.int kc), .val (.ref b37), .val (.ref r45)] [(.int (B ((kk < (0 : Int32)) ∨ (((F2 (F1 (own_l [ka, kb, kc]) 3) kk.toNatClampNeg) (0 : Int32).toNatClampNeg) = (own_below (0 : Int32) nv ka kb kc)))))])) st48 ?_
                refine go (u' := T48.setTop (mkF m 197 #[.val (.int p0), .val (.int p1), .val (.int p2), .val (.int p3), .val (.int p4), .val (.int kk), .val (.int nv), .val (.int ka), .val (.int kb), .val (.int kc), .val (.ref b37), .val (.ref r45)] [])) (fun _ ks_ => XS.ifNo X48.here hx rfl (hb hby at_194) rfl (bT (show ((kk < (0 : Int32)) ∨ (((F2 (F1 (own_l [ka, kb, kc]) 3) kk.toNatClampNeg) (0 : Int32).toNatClampNeg) = (own_below (0 : Int32) nv ka kb kc))) from (own_ok3 kk nv ka kb kc 0 hkr hka hkb hkc hn3))).2 ks_) ?_
                refine go (u' := T48.setTop (mkF m 199 #[.val (.int p0), .val (.int p1), .val (.int p2), .val (.int p3), .val (.int p4), .val (.int kk), .val (.int nv), .val (.int ka), .val (.int kb), .val (.int kc), .val (.ref b37), .val (.ref r45)] [(.ref r45)])) (fun _ ks_ => XS.aload X48.here hx rfl (hb hby at_197) rfl rfl ks_) ?_
                refine go (u' := T48.setTop (mkF m 200 #[.val (.int p0), .val (.int p1), .val (.int p2), .val (.int p3), .val (.int p4), .val (.int kk), .val (.int nv), .val (.int ka), .val (.int kb), .val (.int kc), .val (.ref b37), .val (.ref r45)] [(.int (1 : Int32)), (.ref r45)])) (fun _ ks_ => XS.iconst X48.here hx rfl (hb hby at_199) ks_) ?_
                refine go (u' := T48.setTop (mkF m 202 #[.val (.int p0), .val (.int p1), .val (.int p2), .val (.int p3), .val (.int p4), .val (.int kk), .val (.int nv), .val (.int ka), .val (.int kb), .val (.int kc), .val (.ref b37), .val (.ref r45)] [(.int kk), (.int (1 : Int32)), (.ref r45)])) (fun _ ks_ => XS.iload X48.here hx rfl (hb hby at_200) rfl  ks_) ?_
                refine go (u' := T48.setTop (mkF m 204 #[.val (.int p0), .val (.int p1), .val (.int p2), .val (.int p3), .val (.int p4), .val (.int kk), .val (.int nv), .val (.int ka), .val (.int kb), .val (.int kc), .val (.ref b37), .val (.ref r45)] [(.int nv), (.int kk), (.int (1 : Int32)), (.ref r45)])) (fun _ ks_ => XS.iload X48.here hx rfl (hb hby at_202) rfl  ks_) ?_
                refine go (u' := T48.setTop (mkF m 206 #[.val (.int p0), .val (.int p1), .val (.int p2), .val (.int p3), .val (.int p4), .val (.int kk), .val (.int nv), .val (.int ka), .val (.int kb), .val (.int kc), .val (.ref b37), .val (.ref r45)] [(.int ka), (.int nv), (.int kk), (.int (1 : Int32)), (.ref r45)])) (fun _ ks_ => XS.iload X48.here hx rfl (hb hby at_204) rfl  ks_) ?_
                refine go (u' := T48.setTop (mkF m 208 #[.val (.int p0), .val (.int p1), .val (.int p2), .val (.int p3), .val (.int p4), .val (.int kk), .val (.int nv), .val (.int ka), .val (.int kb), .val (.int kc), .val (.ref b37), .val (.ref r45)] [(.int kb), (.int ka), (.int nv), (.int kk), (.int (1 : Int32)), (.ref r45)])) (fun _ ks_ => XS.iload X48.here hx rfl (hb hby at_206) rfl  ks_) ?_
                refine go (u' := T48.setTop (mkF m 210 #[.val (.int p0), .val (.int p1), .val (.int p2), .val (.int p3), .val (.int p4), .val (.int kk), .val (.int nv), .val (.int ka), .val (.int kb), .val (.int kc), .val (.ref b37), .val (.ref r45)] [(.int kc), (.int kb), (.int ka), (.int nv), (.int kk), (.int (1 : Int32)), (.ref r45)])) (fun _ ks_ => XS.iload X48.here hx rfl (hb hby at_208) rfl  ks_) ?_
                obtain ⟨_, _, ⟨T49, L49, k49, n49⟩, -, X49, ⟨Lc49, hQ49, l49, y49, z49⟩, st49⟩ := Jvm.LawKit.callS X48 hx (y := (⟨"com/example/chartwright/chartwright/parse/ChartGrammarStartsPinLaw", "ok", "([IIIIIII)Z"⟩ : MethodName)) hown (mvT hZ (ww hw 5 rfl)) (mvT hZ (ww hw 6 rfl)) (mvT hZ (ww hw 7 rfl)) (mvT hZ (ww hw 8 rfl)) (by decide) (backOf (W := 0) (rm2 l Z a0 hw [] r45 (1 : Int32) kk nv ka kb kc (kk + (1 : Int32)).toNatClampNeg (F2 (F1 (own_l [ka, kb, kc]) 3) kk.toNatClampNeg) T45.heap n0 Z45 Fa46 (own_hin (1 : Int32) kk hkr (by decide))) hZ (ww hw 8 rfl) (ww hw 7 rfl) (by decide) (by decide)) (g := (mkF m 210 #[.val (.int p0), .val (.int p1), .val (.int p2), .val (.int p3), .val (.int p4), .val (.int kk), .val (.int nv), .val (.int ka), .val (.int kb), .val (.int kc), .val (.ref b37), .val (.ref r45)] [(.int kc), (.int kb), (.int ka), (.int nv), (.int kk), (.int (1 : Int32)), (.ref r45)])) rfl (by rw [hml]; rfl) (argsL := [(.ref r45), (.int (1 : Int32)), (.int kk), (.int nv), (.int ka), (.int kb), (.int kc)]) (rest := []) (lenOf pd__40__91_IIIIIII_41_Z rfl) rfl (by show 2 * 0 + _ ≤ _; exact Nat.le_of_eq rfl) (hb hby at_210) (fun _ _ => ⟨rfl, eq48, (by decide : 2 + 0 ≤ _), (by decide : 8 + 0 ≤ _)⟩)
                dsimp only [Pt.U, Pt.locs, Pt.cells, Pt.slots] at X49 l49 y49 z49 st49 hQ49
                subst l49 y49 z49
                obtain ⟨rfl, N49q, eq49⟩ := hQ49
                have N49 := Fr.app N48 N49q
                refine go (u' := T49.setTop (mkF m 213 #[.val (.int p0), .val (.int p1), .val (.int p2), .val (.int p3), .val (.int p4), .val (.int kk), .val (.int nv), .val (.int ka), .val (.int kb), .val (.int kc), .val (.ref b37), .val (.ref r45)] [(.int (B ((kk < (1 : Int32)) ∨ (((F2 (F1 (own_l [ka, kb, kc]) 3) kk.toNatClampNeg) (1 : Int32).toNatClampNeg) = (own_below (1 : Int32) nv ka kb kc)))))])) st49 ?_
                refine go (u' := T49.setTop (mkF m 216 #[.val (.int p0), .val (.int p1), .val (.int p2), .val (.int p3), .val (.int p4), .val (.int kk), .val (.int nv), .val (.int ka), .val (.int kb), .val (.int kc), .val (.ref b37), .val (.ref r45)] [])) (fun _ ks_ => XS.ifNo X49.here hx rfl (hb hby at_213) rfl (bT (show ((kk < (1 : Int32)) ∨ (((F2 (F1 (own_l [ka, kb, kc]) 3) kk.toNatClampNeg) (1 : Int32).toNatClampNeg) = (own_below (1 : Int32) nv ka kb kc))) from (own_ok3 kk nv ka kb kc 1 hkr hka hkb hkc hn3))).2 ks_) ?_
                refine go (u' := T49.setTop (mkF m 218 #[.val (.int p0), .val (.int p1), .val (.int p2), .val (.int p3), .val (.int p4), .val (.int kk), .val (.int nv), .val (.int ka), .val (.int kb), .val (.int kc), .val (.ref b37), .val (.ref r45)] [(.ref r45)])) (fun _ ks_ => XS.aload X49.here hx rfl (hb hby at_216) rfl rfl ks_) ?_
                refine go (u' := T49.setTop (mkF m 219 #[.val (.int p0), .val (.int p1), .val (.int p2), .val (.int p3), .val (.int p4), .val (.int kk), .val (.int nv), .val (.int ka), .val (.int kb), .val (.int kc), .val (.ref b37), .val (.ref r45)] [(.int (2 : Int32)), (.ref r45)])) (fun _ ks_ => XS.iconst X49.here hx rfl (hb hby at_218) ks_) ?_
                refine go (u' := T49.setTop (mkF m 221 #[.val (.int p0), .val (.int p1), .val (.int p2), .val (.int p3), .val (.int p4), .val (.int kk), .val (.int nv), .val (.int ka), .val (.int kb), .val (.int kc), .val (.ref b37), .val (.ref r45)] [(.int kk), (.int (2 : Int32)), (.ref r45)])) (fun _ ks_ => XS.iload X49.here hx rfl (hb hby at_219) rfl  ks_) ?_
                refine go (u' := T49.setTop (mkF m 223 #[.val (.int p0), .val (.int p1), .val (.int p2), .val (.int p3), .val (.int p4), .val (.int kk), .val (.int nv), .val (.int ka), .val (.int kb), .val (.int kc), .val (.ref b37), .val (.ref r45)] [(.int nv), (.int kk), (.int (2 : Int32)), (.ref r45)])) (fun _ ks_ => XS.iload X49.here hx rfl (hb hby at_221) rfl  ks_) ?_
                refine go (u' := T49.setTop (mkF m 225 #[.val (.int p0), .val (.int p1), .val (.int p2), .val (.int p3), .val (.int p4), .val (.int kk), .val (.int nv), .val (.int ka), .val (.int kb), .val (.int kc), .val (.ref b37), .val (.ref r45)] [(.int ka), (.int nv), (.int kk), (.int (2 : Int32)), (.ref r45)])) (fun _ ks_ => XS.iload X49.here hx rfl (hb hby at_223) rfl  ks_) ?_
                refine go (u' := T49.setTop (mkF m 227 #[.val (.int p0), .val (.int p1), .val (.int p2), .val (.int p3), .val (.int p4), .val (.int kk), .val (.int nv), .val (.int ka), .val (.int kb), .val (.int kc), .val (.ref b37), .val (.ref r45)] [(.int kb), (.int ka), (.int nv), (.int kk), (.int (2 : Int32)), (.ref r45)])) (fun _ ks_ => XS.iload X49.here hx rfl (hb hby at_225) rfl  ks_) ?_
                refine go (u' := T49.setTop (mkF m 229 #[.val (.int p0), .val (.int p1), .val (.int p2), .val (.int p3), .val (.int p4), .val (.int kk), .val (.int nv), .val (.int ka), .val (.int kb), .val (.int kc), .val (.ref b37), .val (.ref r45)] [(.int kc), (.int kb), (.int ka), (.int nv), (.int kk), (.int (2 : Int32)), (.ref r45)])) (fun _ ks_ => XS.iload X49.here hx rfl (hb hby at_227) rfl  ks_) ?_
                obtain ⟨_, _, ⟨T50, L50, k50, n50⟩, -, X50, ⟨Lc50, hQ50, l50, y50, z50⟩, st50⟩ := Jvm.LawKit.callS X49 hx (y := (⟨"com/example/chartwright/chartwright/parse/ChartGrammarStartsPinLaw", "ok", "([IIIIIII)Z"⟩ : MethodName)) hown (mvT hZ (ww hw 5 rfl)) (mvT hZ (ww hw 6 rfl)) (mvT hZ (ww hw 7 rfl)) (mvT hZ (ww hw 8 rfl)) (by decide) (backOf (W := 0) (rm2 l Z a0 hw [] r45 (2 : Int32) kk nv ka kb kc (kk + (1 : Int32)).toNatClampNeg (F2 (F1 (own_l [ka, kb, kc]) 3) kk.toNatClampNeg) T45.heap n0 Z45 Fa46 (own_hin (2 : Int32) kk hkr (by decide))) hZ (ww hw 8 rfl) (ww hw 7 rfl) (by decide) (by decide)) (g := (mkF m 229 #[.val (.int p0), .val (.int p1), .val (.int p2), .val (.int p3), .val (.int p4), .val (.int kk), .val (.int nv), .val (.int ka), .val (.int kb), .val (.int kc), .val (.ref b37), .val (.ref r45)] [(.int kc), (.int kb), (.int ka), (.int nv), (.int kk), (.int (2 : Int32)), (.ref r45)])) rfl (by rw [hml]; rfl) (argsL := [(.ref r45), (.int (2 : Int32)), (.int kk), (.int nv), (.int ka), (.int kb), (.int kc)]) (rest := []) (lenOf pd__40__91_IIIIIII_41_Z rfl) rfl (by show 2 * 0 + _ ≤ _; exact Nat.le_of_eq rfl) (hb hby at_229) (fun _ _ => ⟨rfl, eq49, (by decide : 2 + 0 ≤ _), (by decide : 8 + 0 ≤ _)⟩)
                dsimp only [Pt.U, Pt.locs, Pt.cells, Pt.slots] at X50 l50 y50 z50 st50 hQ50
                subst l50 y50 z50
                obtain ⟨rfl, N50q, eq50⟩ := hQ50
                have N50 := Fr.app N49 N50q
                refine go (u' := T50.setTop (mkF m 232 #[.val (.int p0), .val (.int p1), .val (.int p2), .val (.int p3), .val (.int p4), .val (.int kk), .val (.int nv), .val (.int ka), .val (.int kb), .val (.int kc), .val (.ref b37), .val (.ref r45)] [(.int (B ((kk < (2 : Int32)) ∨ (((F2 (F1 (own_l [ka, kb, kc]) 3) kk.toNatClampNeg) (2 : Int32).toNatClampNeg) = (own_below (2 : Int32) nv ka kb kc)))))])) st50 ?_
                refine go (u' := T50.setTop (mkF m 235 #[.val (.int p0), .val (.int p1), .val (.int p2), .val (.int p3), .val (.int p4), .val (.int kk), .val (.int nv), .val (.int ka), .val (.int kb), .val (.int kc), .val (.ref b37), .val (.ref r45)] [])) (fun _ ks_ => XS.ifNo X50.here hx rfl (hb hby at_232) rfl (bT (show ((kk < (2 : Int32)) ∨ (((F2 (F1 (own_l [ka, kb, kc]) 3) kk.toNatClampNeg) (2 : Int32).toNatClampNeg) = (own_below (2 : Int32) nv ka kb kc))) from (own_ok3 kk nv ka kb kc 2 hkr hka hkb hkc hn3))).2 ks_) ?_
                refine go (u' := T50.setTop (mkF m 237 #[.val (.int p0), .val (.int p1), .val (.int p2), .val (.int p3), .val (.int p4), .val (.int kk), .val (.int nv), .val (.int ka), .val (.int kb), .val (.int kc), .val (.ref b37), .val (.ref r45)] [(.ref r45)])) (fun _ ks_ => XS.aload X50.here hx rfl (hb hby at_235) rfl rfl ks_) ?_
                refine go (u' := T50.setTop (mkF m 238 #[.val (.int p0), .val (.int p1), .val (.int p2), .val (.int p3), .val (.int p4), .val (.int kk), .val (.int nv), .val (.int ka), .val (.int kb), .val (.int kc), .val (.ref b37), .val (.ref r45)] [(.int (3 : Int32)), (.ref r45)])) (fun _ ks_ => XS.iconst X50.here hx rfl (hb hby at_237) ks_) ?_
                refine go (u' := T50.setTop (mkF m 240 #[.val (.int p0), .val (.int p1), .val (.int p2), .val (.int p3), .val (.int p4), .val (.int kk), .val (.int nv), .val (.int ka), .val (.int kb), .val (.int kc), .val (.ref b37), .val (.ref r45)] [(.int kk), (.int (3 : Int32)), (.ref r45)])) (fun _ ks_ => XS.iload X50.here hx rfl (hb hby at_238) rfl  ks_) ?_
                refine go (u' := T50.setTop (mkF m 242 #[.val (.int p0), .val (.int p1), .val (.int p2), .val (.int p3), .val (.int p4), .val (.int kk), .val (.int nv), .val (.int ka), .val (.int kb), .val (.int kc), .val (.ref b37), .val (.ref r45)] [(.int nv), (.int kk), (.int (3 : Int32)), (.ref r45)])) (fun _ ks_ => XS.iload X50.here hx rfl (hb hby at_240) rfl  ks_) ?_
                refine go (u' := T50.setTop (mkF m 244 #[.val (.int p0), .val (.int p1), .val (.int p2), .val (.int p3), .val (.int p4), .val (.int kk), .val (.int nv), .val (.int ka), .val (.int kb), .val (.int kc), .val (.ref b37), .val (.ref r45)] [(.int ka), (.int nv), (.int kk), (.int (3 : Int32)), (.ref r45)])) (fun _ ks_ => XS.iload X50.here hx rfl (hb hby at_242) rfl  ks_) ?_
                refine go (u' := T50.setTop (mkF m 246 #[.val (.int p0), .val (.int p1), .val (.int p2), .val (.int p3), .val (.int p4), .val (.int kk), .val (.int nv), .val (.int ka), .val (.int kb), .val (.int kc), .val (.ref b37), .val (.ref r45)] [(.int kb), (.int ka), (.int nv), (.int kk), (.int (3 : Int32)), (.ref r45)])) (fun _ ks_ => XS.iload X50.here hx rfl (hb hby at_244) rfl  ks_) ?_
                refine go (u' := T50.setTop (mkF m 248 #[.val (.int p0), .val (.int p1), .val (.int p2), .val (.int p3), .val (.int p4), .val (.int kk), .val (.int nv), .val (.int ka), .val (.int kb), .val (.int kc), .val (.ref b37), .val (.ref r45)] [(.int kc), (.int kb), (.int ka), (.int nv), (.int kk), (.int (3 : Int32)), (.ref r45)])) (fun _ ks_ => XS.iload X50.here hx rfl (hb hby at_246) rfl  ks_) ?_
                obtain ⟨_, _, ⟨T51, L51, k51, n51⟩, -, X51, ⟨Lc51, hQ51, l51, y51, z51⟩, st51⟩ := Jvm.LawKit.callS X50 hx (y := (⟨"com/example/chartwright/chartwright/parse/ChartGrammarStartsPinLaw", "ok", "([IIIIIII)Z"⟩ : MethodName)) hown (mvT hZ (ww hw 5 rfl)) (mvT hZ (ww hw 6 rfl)) (mvT hZ (ww hw 7 rfl)) (mvT hZ (ww hw 8 rfl)) (by decide) (backOf (W := 0) (rm2 l Z a0 hw [] r45 (3 : Int32) kk nv ka kb kc (kk + (1 : Int32)).toNatClampNeg (F2 (F1 (own_l [ka, kb, kc]) 3) kk.toNatClampNeg) T45.heap n0 Z45 Fa46 (own_hin (3 : Int32) kk hkr (by decide))) hZ (ww hw 8 rfl) (ww hw 7 rfl) (by decide) (by decide)) (g := (mkF m 248 #[.val (.int p0), .val (.int p1), .val (.int p2), .val (.int p3), .val (.int p4), .val (.int kk), .val (.int nv), .val (.int ka), .val (.int kb), .val (.int kc), .val (.ref b37), .val (.ref r45)] [(.int kc), (.int kb), (.int ka), (.int nv), (.int kk), (.int (3 : Int32)), (.ref r45)])) rfl (by rw [hml]; rfl) (argsL := [(.ref r45), (.int (3 : Int32)), (.int kk), (.int nv), (.int ka), (.int kb), (.int kc)]) (rest := []) (lenOf pd__40__91_IIIIIII_41_Z rfl) rfl (by show 2 * 0 + _ ≤ _; exact Nat.le_of_eq rfl) (hb hby at_248) (fun _ _ => ⟨rfl, eq50, (by decide : 2 + 0 ≤ _), (by decide : 8 + 0 ≤ _)⟩)
                dsimp only [Pt.U, Pt.locs, Pt.cells, Pt.slots] at X51 l51 y51 z51 st51 hQ51
                subst l51 y51 z51
                obtain ⟨rfl, N51q, eq51⟩ := hQ51
                have N51 := Fr.app N50 N51q
                refine go (u' := T51.setTop (mkF m 251 #[.val (.int p0), .val (.int p1), .val (.int p2), .val (.int p3), .val (.int p4), .val (.int kk), .val (.int nv), .val (.int ka), .val (.int kb), .val (.int kc), .val (.ref b37), .val (.ref r45)] [(.int (B ((kk < (3 : Int32)) ∨ (((F2 (F1 (own_l [ka, kb, kc]) 3) kk.toNatClampNeg) (3 : Int32).toNatClampNeg) = (own_below (3 : Int32) nv ka kb kc)))))])) st51 ?_
                refine go (u' := T51.setTop (mkF m 254 #[.val (.int p0), .val (.int p1), .val (.int p2), .val (.int p3), .val (.int p4), .val (.int kk), .val (.int nv), .val (.int ka), .val (.int kb), .val (.int kc), .val (.ref b37), .val (.ref r45)] [])) (fun _ ks_ => XS.ifNo X51.here hx rfl (hb hby at_251) rfl (bT (show ((kk < (3 : Int32)) ∨ (((F2 (F1 (own_l [ka, kb, kc]) 3) kk.toNatClampNeg) (3 : Int32).toNatClampNeg) = (own_below (3 : Int32) nv ka kb kc))) from (own_ok3 kk nv ka kb kc 3 hkr hka hkb hkc hn3))).2 ks_) ?_
                refine go (u' := T51.setTop (mkF m 256 #[.val (.int p0), .val (.int p1), .val (.int p2), .val (.int p3), .val (.int p4), .val (.int kk), .val (.int nv), .val (.int ka), .val (.int kb), .val (.int kc), .val (.ref b37), .val (.ref r45)] [(.ref r45)])) (fun _ ks_ => XS.aload X51.here hx rfl (hb hby at_254) rfl rfl ks_) ?_
                refine go (u' := T51.setTop (mkF m 257 #[.val (.int p0), .val (.int p1), .val (.int p2), .val (.int p3), .val (.int p4), .val (.int kk), .val (.int nv), .val (.int ka), .val (.int kb), .val (.int kc), .val (.ref b37), .val (.ref r45)] [(.int (4 : Int32)), (.ref r45)])) (fun _ ks_ => XS.iconst X51.here hx rfl (hb hby at_256) ks_) ?_
                refine go (u' := T51.setTop (mkF m 259 #[.val (.int p0), .val (.int p1), .val (.int p2), .val (.int p3), .val (.int p4), .val (.int kk), .val (.int nv), .val (.int ka), .val (.int kb), .val (.int kc), .val (.ref b37), .val (.ref r45)] [(.int kk), (.int (4 : Int32)), (.ref r45)])) (fun _ ks_ => XS.iload X51.here hx rfl (hb hby at_257) rfl  ks_) ?_
                refine go (u' := T51.setTop (mkF m 261 #[.val (.int p0), .val (.int p1), .val (.int p2), .val (.int p3), .val (.int p4), .val (.int kk), .val (.int nv), .val (.int ka), .val (.int kb), .val (.int kc), .val (.ref b37), .val (.ref r45)] [(.int nv), (.int kk), (.int (4 : Int32)), (.ref r45)])) (fun _ ks_ => XS.iload X51.here hx rfl (hb hby at_259) rfl  ks_) ?_
                refine go (u' := T51.setTop (mkF m 263 #[.val (.int p0), .val (.int p1), .val (.int p2), .val (.int p3), .val (.int p4), .val (.int kk), .val (.int nv), .val (.int ka), .val (.int kb), .val (.int kc), .val (.ref b37), .val (.ref r45)] [(.int ka), (.int nv), (.int kk), (.int (4 : Int32)), (.ref r45)])) (fun _ ks_ => XS.iload X51.here hx rfl (hb hby at_261) rfl  ks_) ?_
                refine go (u' := T51.setTop (mkF m 265 #[.val (.int p0), .val (.int p1), .val (.int p2), .val (.int p3), .val (.int p4), .val (.int kk), .val (.int nv), .val (.int ka), .val (.int kb), .val (.int kc), .val (.ref b37), .val (.ref r45)] [(.int kb), (.int ka), (.int nv), (.int kk), (.int (4 : Int32)), (.ref r45)])) (fun _ ks_ => XS.iload X51.here hx rfl (hb hby at_263) rfl  ks_) ?_
                refine go (u' := T51.setTop (mkF m 267 #[.val (.int p0), .val (.int p1), .val (.int p2), .val (.int p3), .val (.int p4), .val (.int kk), .val (.int nv), .val (.int ka), .val (.int kb), .val (.int kc), .val (.ref b37), .val (.ref r45)] [(.int kc), (.int kb), (.int ka), (.int nv), (.int kk), (.int (4 : Int32)), (.ref r45)])) (fun _ ks_ => XS.iload X51.here hx rfl (hb hby at_265) rfl  ks_) ?_
                obtain ⟨_, _, ⟨T52, L52, k52, n52⟩, -, X52, ⟨Lc52, hQ52, l52, y52, z52⟩, st52⟩ := Jvm.LawKit.callS X51 hx (y := (⟨"com/example/chartwright/chartwright/parse/ChartGrammarStartsPinLaw", "ok", "([IIIIIII)Z"⟩ : MethodName)) hown (mvT hZ (ww hw 5 rfl)) (mvT hZ (ww hw 6 rfl)) (mvT hZ (ww hw 7 rfl)) (mvT hZ (ww hw 8 rfl)) (by decide) (backOf (W := 0) (rm2 l Z a0 hw [] r45 (4 : Int32) kk nv ka kb kc (kk + (1 : Int32)).toNatClampNeg (F2 (F1 (own_l [ka, kb, kc]) 3) kk.toNatClampNeg) T45.heap n0 Z45 Fa46 (own_hin (4 : Int32) kk hkr (by decide))) hZ (ww hw 8 rfl) (ww hw 7 rfl) (by decide) (by decide)) (g := (mkF m 267 #[.val (.int p0), .val (.int p1), .val (.int p2), .val (.int p3), .val (.int p4), .val (.int kk), .val (.int nv), .val (.int ka), .val (.int kb), .val (.int kc), .val (.ref b37), .val (.ref r45)] [(.int kc), (.int kb), (.int ka), (.int nv), (.int kk), (.int (4 : Int32)), (.ref r45)])) rfl (by rw [hml]; rfl) (argsL := [(.ref r45), (.int (4 : Int32)), (.int kk), (.int nv), (.int ka), (.int kb), (.int kc)]) (rest := []) (lenOf pd__40__91_IIIIIII_41_Z rfl) rfl (by show 2 * 0 + _ ≤ _; exact Nat.le_of_eq rfl) (hb hby at_267) (fun _ _ => ⟨rfl, eq51, (by decide : 2 + 0 ≤ _), (by decide : 8 + 0 ≤ _)⟩)
                dsimp only [Pt.U, Pt.locs, Pt.cells, Pt.slots] at X52 l52 y52 z52 st52 hQ52
                subst l52 y52 z52
                obtain ⟨rfl, N52q, eq52⟩ := hQ52
                have N52 := Fr.app N51 N52q
                refine go (u' := T52.setTop (mkF m 270 #[.val (.int p0), .val (.int p1), .val (.int p2), .val (.int p3), .val (.int p4), .val (.int kk), .val (.int nv), .val (.int ka), .val (.int kb), .val (.int kc), .val (.ref b37), .val (.ref r45)] [(.int (B ((kk < (4 : Int32)) ∨ (((F2 (F1 (own_l [ka, kb, kc]) 3) kk.toNatClampNeg) (4 : Int32).toNatClampNeg) = (own_below (4 : Int32) nv ka kb kc)))))])) st52 ?_
                refine go (u' := T52.setTop (mkF m 273 #[.val (.int p0), .val (.int p1), .val (.int p2), .val (.int p3), .val (.int p4), .val (.int kk), .val (.int nv), .val (.int ka), .val (.int kb), .val (.int kc), .val (.ref b37), .val (.ref r45)] [])) (fun _ ks_ => XS.ifNo X52.here hx rfl (hb hby at_270) rfl (bT (show ((kk < (4 : Int32)) ∨ (((F2 (F1 (own_l [ka, kb, kc]) 3) kk.toNatClampNeg) (4 : Int32).toNatClampNeg) = (own_below (4 : Int32) nv ka kb kc))) from (own_ok3 kk nv ka kb kc 4 hkr hka hkb hkc hn3))).2 ks_) ?_
                refine go (u' := T52.setTop (mkF m 274 #[.val (.int p0), .val (.int p1), .val (.int p2), .val (.int p3), .val (.int p4), .val (.int kk), .val (.int nv), .val (.int ka), .val (.int kb), .val (.int kc), .val (.ref b37), .val (.ref r45)] [(.int (1 : Int32))])) (fun _ ks_ => XS.iconst X52.here hx rfl (hb hby at_273) ks_) ?_
                refine go (u' := T52.setTop (mkF m 278 #[.val (.int p0), .val (.int p1), .val (.int p2), .val (.int p3), .val (.int p4), .val (.int kk), .val (.int nv), .val (.int ka), .val (.int kb), .val (.int kc), .val (.ref b37), .val (.ref r45)] [(.int (1 : Int32))])) (fun _ ks_ => XS.goto X52.here hx rfl (pc0 := 274) (pc' := 278) rfl (hb hby at_274) (by decide) (by decide) ks_) ?_
                rw [hG]
                refine gN X52 hx hlk (t := .boolean) hret (by simp) rfl (hb hby at_278) ?_ (Nat.le_of_ble_eq_true rfl) (Nat.le_of_ble_eq_true rfl)
                show Q_rm0 Z p0 p1 p2 p3 p4 h0 n0 (some (.int (1 : Int32))) T52.heap _
                rw [eq52]
                exact ⟨rfl, N52⟩
        by_cases c59_4 : kk = (0 : Int32)
        ·
          refine go (u' := s₁.setTop (mkF m 62 #[.val (.int p0), .val (.int p1), .val (.int p2), .val (.int p3), .val (.int p4), .val (.int kk), .val (.int nv), .val (.int ka), .val (.int kb), .unset, .unset, .unset] [])) (fun _ ks_ => XS.ifNo X0.here hx rfl (hb hby at_59) rfl ((if0 _ _).trans (teq c59_4).2) ks_) ?_
          refine go (u' := s₁.setTop (mkF m 63 #[.val (.int p0), .val (.int p1), .val (.int p2), .val (.int p3), .val (.int p4), .val (.int kk), .val (.int nv), .val (.int ka), .val (.int kb), .unset, .unset, .unset] [(.int (0 : Int32))])) (fun _ ks_ => XS.iconst X0.here hx rfl (hb hby at_62) ks_) ?_
          refine go (u' := s₁.setTop (mkF m 74 #[.val (.int p0), .val (.int p1), .val (.int p2), .val (.int p3), .val (.int p4), .val (.int kk), .val (.int nv), .val (.int ka), .val (.int kb), .unset, .unset, .unset] [(.int (0 : Int32))])) (fun _ ks_ => XS.goto X0.here hx rfl (pc0 := 63) (pc' := 74) rfl (hb hby at_63) (by decide) (by decide) ks_) ?_
          exact J74_4 _ ((if_pos c59_4)).symm
        ·
          refine go (u' := s₁.setTop (mkF m 66 #[.val (.int p0), .val (.int p1), .val (.int p2), .val (.int p3), .val (.int p4), .val (.int kk), .val (.int nv), .val (.int ka), .val (.int kb), .unset, .unset, .unset] [])) (fun _ ks_ => XS.ifYes X0.here hx rfl (pc0 := 59) (pc' := 66) rfl (hb hby at_59) rfl ((if0 _ _).trans (feq c59_4).2) (by decide) (by decide) ks_) ?_
          refine go (u' := s₁.setTop (mkF m 68 #[.val (.int p0), .val (.int p1), .val (.int p2), .val (.int p3), .val (.int p4), .val (.int kk), .val (.int nv), .val (.int ka), .val (.int kb), .unset, .unset, .unset] [(.int p4)])) (fun _ ks_ => XS.iload X0.here hx rfl (hb hby at_66) rfl  ks_) ?_
          refine go (u' := s₁.setTop (mkF m 70 #[.val (.int p0), .val (.int p1), .val (.int p2), .val (.int p3), .val (.int p4), .val (.int kk), .val (.int nv), .val (.int ka), .val (.int kb), .unset, .unset, .unset] [(.int (2147483647 : Int32)), (.int p4)])) (X0.ldcInt hx hown (mvT hZ (ww hw 12 rfl)) (g := (mkF m 68 #[.val (.int p0), .val (.int p1), .val (.int p2), .val (.int p3), .val (.int p4), .val (.int kk), .val (.int nv), .val (.int ka), .val (.int kb), .unset, .unset, .unset] [(.int p4)])) rfl (hb hby at_68)) ?_
          refine go (u' := s₁.setTop (mkF m 71 #[.val (.int p0), .val (.int p1), .val (.int p2), .val (.int p3), .val (.int p4), .val (.int kk), .val (.int nv), .val (.int ka), .val (.int kb), .unset, .unset, .unset] [(.int (p4 &&& (2147483647 : Int32)))])) (fun _ ks_ => XS.iand X0.here hx rfl (hb hby at_70) rfl ks_) ?_
          refine go (u' := s₁.setTop (mkF m 73 #[.val (.int p0), .val (.int p1), .val (.int p2), .val (.int p3), .val (.int p4), .val (.int kk), .val (.int nv), .val (.int ka), .val (.int kb), .unset, .unset, .unset] [(.int kk), (.int (p4 &&& (2147483647 : Int32)))])) (fun _ ks_ => XS.iload X0.here hx rfl (hb hby at_71) rfl  ks_) ?_
          refine go (u' := s₁.setTop (mkF m 74 #[.val (.int p0), .val (.int p1), .val (.int p2), .val (.int p3), .val (.int p4), .val (.int kk), .val (.int nv), .val (.int ka), .val (.int kb), .unset, .unset, .unset] [(.int ((p4 &&& (2147483647 : Int32)) % kk))])) (fun _ ks_ => iremM (g := (mkF m 73 #[.val (.int p0), .val (.int p1), .val (.int p2), .val (.int p3), .val (.int p4), .val (.int kk), .val (.int nv), .val (.int ka), .val (.int kb), .unset, .unset, .unset] [(.int kk), (.int (p4 &&& (2147483647 : Int32)))])) X0 hx rfl (hb hby at_73) rfl c59_4 ks_) ?_
          exact J74_4 _ ((if_neg c59_4)).symm
      by_cases c41_5 : kk = (0 : Int32)
      ·
        refine go (u' := s₁.setTop (mkF m 44 #[.val (.int p0), .val (.int p1), .val (.int p2), .val (.int p3), .val (.int p4), .val (.int kk), .val (.int nv), .val (.int ka), .unset, .unset, .unset, .unset] [])) (fun _ ks_ => XS.ifNo X0.here hx rfl (hb hby at_41) rfl ((if0 _ _).trans (teq c41_5).2) ks_) ?_
        refine go (u' := s₁.setTop (mkF m 45 #[.val (.int p0), .val (.int p1), .val (.int p2), .val (.int p3), .val (.int p4), .val (.int kk), .val (.int nv), .val (.int ka), .unset, .unset, .unset, .unset] [(.int (0 : Int32))])) (fun _ ks_ => XS.iconst X0.here hx rfl (hb hby at_44) ks_) ?_
        refine go (u' := s₁.setTop (mkF m 55 #[.val (.int p0), .val (.int p1), .val (.int p2), .val (.int p3), .val (.int p4), .val (.int kk), .val (.int nv), .val (.int ka), .unset, .unset, .unset, .unset] [(.int (0 : Int32))])) (fun _ ks_ => XS.goto X0.here hx rfl (pc0 := 45) (pc' := 55) rfl (hb hby at_45) (by decide) (by decide) ks_) ?_
        exact J55_3 _ ((if_pos c41_5)).symm
      ·
        refine go (u' := s₁.setTop (mkF m 48 #[.val (.int p0), .val (.int p1), .val (.int p2), .val (.int p3), .val (.int p4), .val (.int kk), .val (.int nv), .val (.int ka), .unset, .unset, .unset, .unset] [])) (fun _ ks_ => XS.ifYes X0.here hx rfl (pc0 := 41) (pc' := 48) rfl (hb hby at_41) rfl ((if0 _ _).trans (feq c41_5).2) (by decide) (by decide) ks_) ?_
        refine go (u' := s₁.setTop (mkF m 49 #[.val (.int p0), .val (.int p1), .val (.int p2), .val (.int p3), .val (.int p4), .val (.int kk), .val (.int nv), .val (.int ka), .unset, .unset, .unset, .unset] [(.int p3)])) (fun _ ks_ => XS.iloadN X0.here hx rfl (hb hby at_48) rfl  ks_) ?_
        refine go (u' := s₁.setTop (mkF m 51 #[.val (.int p0), .val (.int p1), .val (.int p2), .val (.int p3), .val (.int p4), .val (.int kk), .val (.int nv), .val (.int ka), .unset, .unset, .unset, .unset] [(.int (2147483647 : Int32)), (.int p3)])) (X0.ldcInt hx hown (mvT hZ (ww hw 12 rfl)) (g := (mkF m 49 #[.val (.int p0), .val (.int p1), .val (.int p2), .val (.int p3), .val (.int p4), .val (.int kk), .val (.int nv), .val (.int ka), .unset, .unset, .unset, .unset] [(.int p3)])) rfl (hb hby at_49)) ?_
        refine go (u' := s₁.setTop (mkF m 52 #[.val (.int p0), .val (.int p1), .val (.int p2), .val (.int p3), .val (.int p4), .val (.int kk), .val (.int nv), .val (.int ka), .unset, .unset, .unset, .unset] [(.int (p3 &&& (2147483647 : Int32)))])) (fun _ ks_ => XS.iand X0.here hx rfl (hb hby at_51) rfl ks_) ?_
        refine go (u' := s₁.setTop (mkF m 54 #[.val (.int p0), .val (.int p1), .val (.int p2), .val (.int p3), .val (.int p4), .val (.int kk), .val (.int nv), .val (.int ka), .unset, .unset, .unset, .unset] [(.int kk), (.int (p3 &&& (2147483647 : Int32)))])) (fun _ ks_ => XS.iload X0.here hx rfl (hb hby at_52) rfl  ks_) ?_
        refine go (u' := s₁.setTop (mkF m 55 #[.val (.int p0), .val (.int p1), .val (.int p2), .val (.int p3), .val (.int p4), .val (.int kk), .val (.int nv), .val (.int ka), .unset, .unset, .unset, .unset] [(.int ((p3 &&& (2147483647 : Int32)) % kk))])) (fun _ ks_ => iremM (g := (mkF m 54 #[.val (.int p0), .val (.int p1), .val (.int p2), .val (.int p3), .val (.int p4), .val (.int kk), .val (.int nv), .val (.int ka), .unset, .unset, .unset, .unset] [(.int kk), (.int (p3 &&& (2147483647 : Int32)))])) X0 hx rfl (hb hby at_54) rfl c41_5 ks_) ?_
        exact J55_3 _ ((if_neg c41_5)).symm
    by_cases c23_6 : kk = (0 : Int32)
    ·
      refine go (u' := s₁.setTop (mkF m 26 #[.val (.int p0), .val (.int p1), .val (.int p2), .val (.int p3), .val (.int p4), .val (.int kk), .val (.int nv), .unset, .unset, .unset, .unset, .unset] [])) (fun _ ks_ => XS.ifNo X0.here hx rfl (hb hby at_23) rfl ((if0 _ _).trans (teq c23_6).2) ks_) ?_
      refine go (u' := s₁.setTop (mkF m 27 #[.val (.int p0), .val (.int p1), .val (.int p2), .val (.int p3), .val (.int p4), .val (.int kk), .val (.int nv), .unset, .unset, .unset, .unset, .unset] [(.int (0 : Int32))])) (fun _ ks_ => XS.iconst X0.here hx rfl (hb hby at_26) ks_) ?_
      refine go (u' := s₁.setTop (mkF m 37 #[.val (.int p0), .val (.int p1), .val (.int p2), .val (.int p3), .val (.int p4), .val (.int kk), .val (.int nv), .unset, .unset, .unset, .unset, .unset] [(.int (0 : Int32))])) (fun _ ks_ => XS.goto X0.here hx rfl (pc0 := 27) (pc' := 37) rfl (hb hby at_27) (by decide) (by decide) ks_) ?_
      exact J37_2 _ ((if_pos c23_6)).symm
    ·
      refine go (u' := s₁.setTop (mkF m 30 #[.val (.int p0), .val (.int p1), .val (.int p2), .val (.int p3), .val (.int p4), .val (.int kk), .val (.int nv), .unset, .unset, .unset, .unset, .unset] [])) (fun _ ks_ => XS.ifYes X0.here hx rfl (pc0 := 23) (pc' := 30) rfl (hb hby at_23) rfl ((if0 _ _).trans (feq c23_6).2) (by decide) (by decide) ks_) ?_
      refine go (u' := s₁.setTop (mkF m 31 #[.val (.int p0), .val (.int p1), .val (.int p2), .val (.int p3), .val (.int p4), .val (.int kk), .val (.int nv), .unset, .unset, .unset, .unset, .unset] [(.int p2)])) (fun _ ks_ => XS.iloadN X0.here hx rfl (hb hby at_30) rfl  ks_) ?_
      refine go (u' := s₁.setTop (mkF m 33 #[.val (.int p0), .val (.int p1), .val (.int p2), .val (.int p3), .val (.int p4), .val (.int kk), .val (.int nv), .unset, .unset, .unset, .unset, .unset] [(.int (2147483647 : Int32)), (.int p2)])) (X0.ldcInt hx hown (mvT hZ (ww hw 12 rfl)) (g := (mkF m 31 #[.val (.int p0), .val (.int p1), .val (.int p2), .val (.int p3), .val (.int p4), .val (.int kk), .val (.int nv), .unset, .unset, .unset, .unset, .unset] [(.int p2)])) rfl (hb hby at_31)) ?_
      refine go (u' := s₁.setTop (mkF m 34 #[.val (.int p0), .val (.int p1), .val (.int p2), .val (.int p3), .val (.int p4), .val (.int kk), .val (.int nv), .unset, .unset, .unset, .unset, .unset] [(.int (p2 &&& (2147483647 : Int32)))])) (fun _ ks_ => XS.iand X0.here hx rfl (hb hby at_33) rfl ks_) ?_
      refine go (u' := s₁.setTop (mkF m 36 #[.val (.int p0), .val (.int p1), .val (.int p2), .val (.int p3), .val (.int p4), .val (.int kk), .val (.int nv), .unset, .unset, .unset, .unset, .unset] [(.int kk), (.int (p2 &&& (2147483647 : Int32)))])) (fun _ ks_ => XS.iload X0.here hx rfl (hb hby at_34) rfl  ks_) ?_
      refine go (u' := s₁.setTop (mkF m 37 #[.val (.int p0), .val (.int p1), .val (.int p2), .val (.int p3), .val (.int p4), .val (.int kk), .val (.int nv), .unset, .unset, .unset, .unset, .unset] [(.int ((p2 &&& (2147483647 : Int32)) % kk))])) (fun _ ks_ => iremM (g := (mkF m 36 #[.val (.int p0), .val (.int p1), .val (.int p2), .val (.int p3), .val (.int p4), .val (.int kk), .val (.int nv), .unset, .unset, .unset, .unset, .unset] [(.int kk), (.int (p2 &&& (2147483647 : Int32)))])) X0 hx rfl (hb hby at_36) rfl c23_6 ks_) ?_
      exact J37_2 _ ((if_neg c23_6)).symm
  by_cases c15_7 : kk = (0 : Int32)
  ·
    refine go (u' := s₁.setTop (mkF m 18 #[.val (.int p0), .val (.int p1), .val (.int p2), .val (.int p3), .val (.int p4), .val (.int kk), .val (.int (p1 &&& (3 : Int32))), .unset, .unset, .unset, .unset, .unset] [])) (fun _ ks_ => XS.ifNo X0.here hx rfl (hb hby at_15) rfl ((if0 _ _).trans (teq c15_7).2) ks_) ?_
    refine go (u' := s₁.setTop (mkF m 19 #[.val (.int p0), .val (.int p1), .val (.int p2), .val (.int p3), .val (.int p4), .val (.int kk), .val (.int (p1 &&& (3 : Int32))), .unset, .unset, .unset, .unset, .unset] [(.int (0 : Int32))])) (fun _ ks_ => XS.iconst X0.here hx rfl (hb hby at_18) ks_) ?_
    refine go (u' := s₁.setTop (mkF m 21 #[.val (.int p0), .val (.int p1), .val (.int p2), .val (.int p3), .val (.int p4), .val (.int kk), .val (.int (0 : Int32)), .unset, .unset, .unset, .unset, .unset] [])) (fun _ ks_ => XS.istore X0.here hx rfl (hb hby at_19) rfl  (l' := #[.val (.int p0), .val (.int p1), .val (.int p2), .val (.int p3), .val (.int p4), .val (.int kk), .val (.int (0 : Int32)), .unset, .unset, .unset, .unset, .unset]) rfl ks_) ?_
    exact J21_1 _ ((if_pos c15_7)).symm
  ·
    refine go (u' := s₁.setTop (mkF m 21 #[.val (.int p0), .val (.int p1), .val (.int p2), .val (.int p3), .val (.int p4), .val (.int kk), .val (.int (p1 &&& (3 : Int32))), .unset, .unset, .unset, .unset, .unset] [])) (fun _ ks_ => XS.ifYes X0.here hx rfl (pc0 := 15) (pc' := 21) rfl (hb hby at_15) rfl ((if0 _ _).trans (feq c15_7).2) (by decide) (by decide) ks_) ?_
    exact J21_1 _ ((if_neg c15_7)).symm
set_option maxRecDepth 65536 in
set_option maxHeartbeats 40000000 in
theorem comes_1 {Post : Tables → Env → Array Value → State → Outcome → State → Prop} (hpost : ∀ tb e args s v u, (limb_1_1.after args s (.returned v) u = true ∧ limb_1_2.after args s (.returned v) u = true ∧ True) → FrameEnd s (.returned v) u (Jvm.fieldLocs frame_1_writes args s ++ Jvm.arrayLocs frame_1_arrays args s ++ Jvm.staticLocs frame_1_statics s) 16 128 → Post tb e args s (.returned v) u) :
    ArmFor flags0 classFile x code maxLocals ret World_1 tables_1 room_1 Calls_1 rest_1 Pre_1 Post := by
  intro l hfl _ _ p e ha hc hk s m args below hf hA hF happ hP
  obtain ⟨hcalls, hrest, hpre⟩ := hP
  obtain ⟨-, -, -, hnamed, -, -, -, hat⟩ := (Spec.applies_iff hf).mp happ
  obtain ⟨hg, hn⟩ := and_e (Cond.before_iff.mp (show (Jvm.Cond.and given_1 narrow_1).before args s = true from hpre))
  obtain ⟨hcount, r0⟩ := and_e hg
  obtain ⟨a0, r1⟩ := and_e r0
  obtain ⟨a1, r2⟩ := and_e r1
  obtain ⟨a2, r3⟩ := and_e r2
  obtain ⟨a3, r4⟩ := and_e r3
  obtain ⟨w0, w1, w2, w3, w4, rfl⟩ : ∃ w0 w1 w2 w3 w4 : Value, args = #[w0, w1, w2, w3, w4] := by
    have hs : args.size = 5 := by simpa [Cond.value, given_1] using hcount
    obtain ⟨L⟩ := args
    match L, hs with
    | [w0, w1, w2, w3, w4], _ => exact ⟨w0, w1, w2, w3, w4, rfl⟩
  have hw := fun d (hd : d ∈ tables_1) => atoms_spec (ws := Jvm.Cond.code x code maxLocals ret :: tables_1) hat d (List.mem_cons_of_mem _ hd)
  have hfit : Fit s := fun {y c} hc i hi => by
    obtain ⟨ha, rfl⟩ := Array.getElem?_eq_some_iff.mp hc
    have q := List.all_eq_true.mp ((Array.all_eq_true_iff_forall_mem.mp hF) _ (Array.getElem_mem ha)) i (List.mem_range.mpr hi)
    simpa [Array.getElem?_eq_getElem hi] using q
  obtain ⟨x0, e0⟩ := is_v a0
  obtain rfl : w0 = (.int x0) := Option.some.inj e0
  obtain ⟨x1, e1⟩ := is_v a1
  obtain rfl : w1 = (.int x1) := Option.some.inj e1
  obtain ⟨x2, e2⟩ := is_v a2
  obtain rfl : w2 = (.int x2) := Option.some.inj e2
  obtain ⟨x3, e3⟩ := is_v a3
  obtain rfl : w3 = (.int x3) := Option.some.inj e3
  obtain ⟨x4, e4⟩ := is_v r4
  obtain rfl : w4 = (.int x4) := Option.some.inj e4
  obtain ⟨n, o, h1, h2, h3, _, L, rfl, ⟨rfl, N⟩, hq⟩ := rm0 l s _ hw tables_1 x0 x1 x2 x3 x4 s.heap s.heap.size (Nat.le_refl _)  p e ha hc hk s m _ below hf ((Spec.applies_iff_loose hf).mp happ).1 ⟨rfl, State.Warmed39.refl s, rfl⟩ trivial
  refine ⟨n, _, h1, h2, h3, hpost _ _ _ _ _ _ ⟨Cond.after_iff.mpr rfl, Cond.after_iff.mpr (eq_i res_at (Term.int_eval (1)) rfl), trivial⟩ ⟨hq.1, hq.2.1, (hq.2.2.sift fun y hy => Or.inr (N y hy)).mono (by decide) (by decide)⟩⟩
theorem main_1_1 : Claimed_1_1 := comes_1 fun _ _ _ _ _ _ h hF => ⟨h.1, hF⟩
theorem main_1_2 : Claimed_1_2 := comes_1 fun _ _ _ _ _ _ h hF => ⟨h.2.1, hF⟩
end Jvm.Pilot.@@N@@
namespace Jvm.Pilot.@@N@@
open Jvm Jvm.ClassFile Sem Op Lib Jvm.Free Jvm.Stand Jvm.Pilot.@@N@@.Jvm.D
/-! MADE BY PROGRAM (witnessworld.py) out of the Statement's table words and the real class files: 9 classes; the members and pool entries that the words name. The judged class is class 1, her method 1. -/
namespace start1
open Jvm.ClassFile
def u (s : String) : CpInfo := .utf8 (stringToUtf16 s)
/-- a pool by its gaps: so many unusable entries, then the entry; so many at the end -/
def gap : Nat → List CpInfo → List CpInfo
  | 0, r => r
  | n + 1, r => .unusable :: gap n r
def poolList (es : List (Nat × CpInfo)) (last : Nat) : List CpInfo := es.foldr (fun e r => gap e.1 (e.2 :: r)) (gap last [])
def pool (es : List (Nat × CpInfo)) (last : Nat) : Array CpInfo := ⟨poolList es last⟩
def fileOf (pool : Array CpInfo) (this : Nat) (attrs : Array Attribute := #[]) (ms : Array MethodInfo := #[]) (fl : Nat := 33) (sup : Nat := 0) (ifs : Array Nat := #[]) (fds : Array FieldInfo := #[]) : ClassFile where
  minorVersion := 0
  majorVersion := 65
  constantPool := pool
  accessFlags := fl
  thisClass := this
  superClass := sup
  interfaces := ifs
  fields := fds
  methods := ms
  attributes := attrs
def plain (name : String) (sup : Option ClassId) : Class where
  name := name
  kind := .ordinary
  loader := none
  accessFlags := 33
  super := sup
  interfaces := #[]
  cf := none
  fields := #[]
  methods := #[]
  instanceTypes := #[]
  staticTypes := #[]
  resolved := #[]
  callSites := []
  init := .initialized
  statics := none
  mirror := none

def pool0 : Array CpInfo := pool [(5, u "<init>"), (0, u "()V"), (1, .class_ 10), (1, u "java/lang/Object")] 113

def k0m0 : Method := { name := "<init>", desc := "()V", sig := { parameters := [], returnType := none }, accessFlags := 1, code := none }
/-- java/lang/Object -/
def k0 : Class := { plain "java/lang/Object" none with
  accessFlags := 33
  interfaces := #[]
  cf := some (fileOf pool0 8 #[] #[{ accessFlags := 1, nameIndex := 5, descriptorIndex := 6, attributes := #[] }] 33 0 #[] #[])
  fields := #[]
  methods := #[k0m0]
  instanceTypes := #[]
  staticTypes := #[]
  resolved := Array.replicate 124 none
  statics := none }

def pool1 : Array CpInfo := pool [(2, .class_ 4), (1, u "java/lang/Object"), (0, u "<init>"), (0, u "()V"), (0, .integer 2147483647), (0, .methodref 9 10), (0, .class_ 11), (0, .nameAndType 12 13), (0, u "com/example/chartwright/chartwright/parse/ChartGrammar"), (0, u "starts"), (0, u "([II)[I"), (0, .methodref 15 16), (0, .class_ 17), (0, .nameAndType 18 19), (0, u "com/example/chartwright/chartwright/parse/ChartGrammarStartsPinLaw"), (0, u "ok"), (0, u "([IIIIIII)Z"), (0, .methodref 15 21), (0, .nameAndType 22 23), (0, u "below"), (0, u "(IIIII)I"), (2, u "law"), (0, u "(IIIII)Z")] 5

def k1m0 : Method := { name := "<init>", desc := "()V", sig := { parameters := [], returnType := none }, accessFlags := 2, code := none }
def k1c1 : Code := { maxStack := 7, maxLocals := 12, code := code, exceptionTable := #[], attributes := #[] }
def k1m1 : Method := { name := "law", desc := "(IIIII)Z", sig := { parameters := [.int, .int, .int, .int, .int], returnType := some .boolean }, accessFlags := 9, code := some k1c1 }
def k1c2 : Code := { maxStack := 6, maxLocals := 7, code := method_3_code, exceptionTable := #[], attributes := #[] }
def k1m2 : Method := { name := "ok", desc := "([IIIIIII)Z", sig := { parameters := [(.array .int), .int, .int, .int, .int, .int, .int], returnType := some .boolean }, accessFlags := 10, code := some k1c2 }
def k1c3 : Code := { maxStack := 2, maxLocals := 6, code := method_4_code, exceptionTable := #[], attributes := #[] }
def k1m3 : Method := { name := "below", desc := "(IIIII)I", sig := { parameters := [.int, .int, .int, .int, .int], returnType := some .int }, accessFlags := 10, code := some k1c3 }
/-- com/example/chartwright/chartwright/parse/ChartGrammarStartsPinLaw -/
def k1 : Class := { plain "com/example/chartwright/chartwright/parse/ChartGrammarStartsPinLaw" (some 0) with
  accessFlags := 49
  interfaces := #[]
  cf := some (fileOf pool1 15 #[] #[{ accessFlags := 2, nameIndex := 5, descriptorIndex := 6, attributes := #[] }, { accessFlags := 9, nameIndex := 26, descriptorIndex := 27, attributes := #[] }, { accessFlags := 10, nameIndex := 18, descriptorIndex := 19, attributes := #[] }, { accessFlags := 10, nameIndex := 22, descriptorIndex := 23, attributes := #[] }] 49 2 #[] #[])
  fields := #[]
  methods := #[k1m0, k1m1, k1m2, k1m3]
  instanceTypes := #[]
  staticTypes := #[]
  resolved := Array.replicate 33 none
  statics := none }

def pool2 : Array CpInfo := pool [(2, .class_ 4), (1, u "java/lang/Object"), (6, .class_ 13), (1, u "com/example/chartwright/chartwright/parse/ChartGrammar"), (0, u "ids"), (0, u "Ljava/util/Map;"), (87, u "[Ljava/lang/String;"), (2, u "names"), (2, u "labels"), (2, u "intermediate"), (0, u "[Z"), (22, u "lexical"), (16, u "start"), (0, u "I"), (23, u "topOnly"), (28, u "parent"), (0, u "[I"), (2, u "left"), (2, u "right"), (2, u "logProb"), (0, u "[D"), (7, u "starts"), (0, u "([II)[I"), (2, u "byLeftStart"), (5, u "Lcom/example/chartwright/chartwright/parse/Factoring;"), (2, u "factoring"), (15, u "byRight"), (2, u "byRightStart"), (7, u "asLeftChild"), (0, u "Lcom/example/chartwright/chartwright/parse/SiblingIndex;"), (2, u "asRightChild"), (7, u "closure"), (0, u "Lcom/example/chartwright/chartwright/grammar/UnaryClosure;")] 82

def k2c0 : Code := { maxStack := 5, maxLocals := 7, code := prog_45_method_4_code, exceptionTable := #[], attributes := #[] }
def k2m0 : Method := { name := "starts", desc := "([II)[I", sig := { parameters := [(.array .int), .int], returnType := some (.array .int) }, accessFlags := 8, code := some k2c0 }
/-- com/example/chartwright/chartwright/parse/ChartGrammar -/
def k2 : Class := { plain "com/example/chartwright/chartwright/parse/ChartGrammar" (some 0) with
  accessFlags := 48
  interfaces := #[]
  cf := some (fileOf pool2 11 #[] #[{ accessFlags := 8, nameIndex := 226, descriptorIndex := 227, attributes := #[] }] 48 2 #[] #[{ accessFlags := 16, nameIndex := 106, descriptorIndex := 103, attributes := #[] }, { accessFlags := 16, nameIndex := 109, descriptorIndex := 103, attributes := #[] }, { accessFlags := 16, nameIndex := 112, descriptorIndex := 113, attributes := #[] }, { accessFlags := 16, nameIndex := 136, descriptorIndex := 113, attributes := #[] }, { accessFlags := 16, nameIndex := 153, descriptorIndex := 154, attributes := #[] }, { accessFlags := 16, nameIndex := 178, descriptorIndex := 154, attributes := #[] }, { accessFlags := 16, nameIndex := 207, descriptorIndex := 208, attributes := #[] }, { accessFlags := 16, nameIndex := 211, descriptorIndex := 208, attributes := #[] }, { accessFlags := 16, nameIndex := 214, descriptorIndex := 208, attributes := #[] }, { accessFlags := 16, nameIndex := 217, descriptorIndex := 218, attributes := #[] }, { accessFlags := 16, nameIndex := 230, descriptorIndex := 208, attributes := #[] }, { accessFlags := 16, nameIndex := 255, descriptorIndex := 208, attributes := #[] }, { accessFlags := 16, nameIndex := 258, descriptorIndex := 208, attributes := #[] }, { accessFlags := 16, nameIndex := 266, descriptorIndex := 267, attributes := #[] }, { accessFlags := 16, nameIndex := 270, descriptorIndex := 267, attributes := #[] }, { accessFlags := 16, nameIndex := 278, descriptorIndex := 279, attributes := #[] }, { accessFlags := 16, nameIndex := 239, descriptorIndex := 236, attributes := #[] }, { accessFlags := 18, nameIndex := 14, descriptorIndex := 15, attributes := #[] }])
  fields := #[{ name := "names", type := (.array (.object "java/lang/String")), accessFlags := 16, slot := 0, constantValue := 0 }, { name := "labels", type := (.array (.object "java/lang/String")), accessFlags := 16, slot := 1, constantValue := 0 }, { name := "intermediate", type := (.array .boolean), accessFlags := 16, slot := 2, constantValue := 0 }, { name := "lexical", type := (.array .boolean), accessFlags := 16, slot := 3, constantValue := 0 }, { name := "start", type := .int, accessFlags := 16, slot := 4, constantValue := 0 }, { name := "topOnly", type := .int, accessFlags := 16, slot := 5, constantValue := 0 }, { name := "parent", type := (.array .int), accessFlags := 16, slot := 6, constantValue := 0 }, { name := "left", type := (.array .int), accessFlags := 16, slot := 7, constantValue := 0 }, { name := "right", type := (.array .int), accessFlags := 16, slot := 8, constantValue := 0 }, { name := "logProb", type := (.array .double), accessFlags := 16, slot := 9, constantValue := 0 }, { name := "byLeftStart", type := (.array .int), accessFlags := 16, slot := 10, constantValue := 0 }, { name := "byRight", type := (.array .int), accessFlags := 16, slot := 11, constantValue := 0 }, { name := "byRightStart", type := (.array .int), accessFlags := 16, slot := 12, constantValue := 0 }, { name := "asLeftChild", type := (.object "com/example/chartwright/chartwright/parse/SiblingIndex"), accessFlags := 16, slot := 13, constantValue := 0 }, { name := "asRightChild", type := (.object "com/example/chartwright/chartwright/parse/SiblingIndex"), accessFlags := 16, slot := 14, constantValue := 0 }, { name := "closure", type := (.object "com/example/chartwright/chartwright/grammar/UnaryClosure"), accessFlags := 16, slot := 15, constantValue := 0 }, { name := "factoring", type := (.object "com/example/chartwright/chartwright/parse/Factoring"), accessFlags := 16, slot := 16, constantValue := 0 }, { name := "ids", type := (.object "java/util/Map"), accessFlags := 18, slot := 17, constantValue := 0 }]
  methods := #[k2m0]
  instanceTypes := #[(.array (.object "java/lang/String")), (.array (.object "java/lang/String")), (.array .boolean), (.array .boolean), .int, .int, (.array .int), (.array .int), (.array .int), (.array .double), (.array .int), (.array .int), (.array .int), (.object "com/example/chartwright/chartwright/parse/SiblingIndex"), (.object "com/example/chartwright/chartwright/parse/SiblingIndex"), (.object "com/example/chartwright/chartwright/grammar/UnaryClosure"), (.object "com/example/chartwright/chartwright/parse/Factoring"), (.object "java/util/Map")]
  staticTypes := #[]
  resolved := Array.replicate 362 none
  statics := none }

def pool3 : Array CpInfo := pool [(1, u "java/lang/Cloneable"), (0, .class_ 1), (0, u "java/lang/Object"), (0, .class_ 3)] 3

/-- java/lang/Cloneable -/
def k3 : Class := { plain "java/lang/Cloneable" (some 0) with
  accessFlags := 1537
  interfaces := #[]
  cf := some (fileOf pool3 2 #[] #[] 1537 4 #[] #[])
  fields := #[]
  methods := #[]
  instanceTypes := #[]
  staticTypes := #[]
  resolved := Array.replicate 8 none
  statics := none }

def pool4 : Array CpInfo := pool [(1, u "java/io/Serializable"), (0, .class_ 1), (0, u "java/lang/Object"), (0, .class_ 3)] 3

/-- java/io/Serializable -/
def k4 : Class := { plain "java/io/Serializable" (some 0) with
  accessFlags := 1537
  interfaces := #[]
  cf := some (fileOf pool4 2 #[] #[] 1537 4 #[] #[])
  fields := #[]
  methods := #[]
  instanceTypes := #[]
  staticTypes := #[]
  resolved := Array.replicate 8 none
  statics := none }

/-- the primitive byte -/
def k5 : Class := { plain "byte" none with kind := .primitive 'B', accessFlags := 0x411 }
/-- [B -/
def k6 : Class := { plain "[B" (some 0) with kind := .array 5 .byte, interfaces := #[3, 4], accessFlags := 1041 }

/-- the primitive int -/
def k7 : Class := { plain "int" none with kind := .primitive 'I', accessFlags := 0x411 }
/-- [I -/
def k8 : Class := { plain "[I" (some 0) with kind := .array 7 .int, interfaces := #[3, 4], accessFlags := 1041 }

def heap : Heap := #[]
def classes : Array Class := #[k0, k1, k2, k3, k4, k5, k6, k7, k8]
def interned : List (Array UInt16 × Addr) := []
def slotsUsed : Nat := 0
def theMethod : MethodId := ⟨1, 1⟩
def args0 : Array Value := #[.int 3, .int 2, .int 3, .int 2, .int 1]
def aboutOver (below : List Frame) : State where
  vm := { classes := classes, interned := interned.toArray }
  heap := heap
  slotsUsed := slotsUsed
  threads := #[{ frames := .invoking theMethod args0 :: below }]
def below0 : List Frame := [.native { method := ⟨0, 0⟩, args := #[] }]
def about1 : State := aboutOver below0
def p0 : Program := .bare "" "" ""
def e0 : Env := launch0.env 0 0 0
theorem w_frames : about1.frames = Frame.invoking theMethod args0 :: below0 := rfl
set_option maxRecDepth 65536 in
theorem w_args : argsFit about1.vm theMethod args0 = true := by decide +kernel
set_option maxRecDepth 65536 in
theorem w_heap : heapFits about1 = true := by decide +kernel
set_option maxRecDepth 65536 in
theorem w_runnable : about1.curStatus? = some .runnable := by decide +kernel
set_option maxRecDepth 65536 in
theorem w_alone : about1.alone = true := by decide +kernel
set_option maxRecDepth 65536 in
theorem w_named : about1.methodNamed? x = some theMethod := by decide +kernel
set_option maxRecDepth 65536 in
theorem w_hears : about1.hears theMethod below0 = true := by decide +kernel
set_option maxRecDepth 65536 in
theorem w_ripe : about1.ripe theMethod args0 below0 = true := by decide +kernel
theorem w_running : about1.status = .running := rfl
set_option maxRecDepth 65536 in
theorem w_room : about1.hasRoom e0.platform room_1 = true :=
  launch0.hasRoom_least _ room_1 (by decide +kernel) (by decide +kernel) (by decide +kernel) (by decide +kernel) (by decide +kernel) (by decide +kernel)
theorem allAtoms_all (ts : List Jvm.Cond) (a : Array Jvm.Value) (st : Jvm.State) : (allAtoms ts).before a st = ts.all (fun c => c.before a st) := by
  induction ts with
  | nil => rfl
  | cons c t ih =>
    show (Jvm.Cond.and c (allAtoms t)).before a st = _
    rw [Jvm.Cond.before_and, ih, List.all_cons]
def words1 : List Jvm.Cond := Jvm.Cond.code x code maxLocals ret :: tables_1
/-- a 'code' word, met by the world's own term for the bytes: nothing is compared byte by byte -/
theorem code_word {y : MethodName} {bytes : ByteArray} {mx : Nat} {rt : Option FieldType} {a : Array Value} {s : State} {m : MethodId} {meth : Method} {c : Code} (h1 : s.methodNamed? y = some m) (h2 : s.vm.method? m = some meth) (h3 : meth.code = some c) (h4 : c.code = bytes)
    (h5 : (c.maxLocals == mx && c.exceptionTable.isEmpty && decide (c.maxStack ≤ mostOperands) && decide (meth.sig.returnType = rt) && !meth.locks && decide (parseMethodDescriptor y.desc = some meth.sig)) = true) : (Jvm.Cond.code y bytes mx rt).before a s = true := by
  simp only [Bool.and_eq_true, beq_iff_eq, Bool.not_eq_true', decide_eq_true_eq] at h5
  obtain ⟨⟨⟨⟨⟨g1, g2⟩, g3⟩, g4⟩, g5⟩, g6⟩ := h5
  simp [Cond.before, Cond.holds, Cond.value, h1, h2, h3, h4, g1, g2, g3, g4, g5, g6]
def isCode : Jvm.Cond → Bool
  | .code _ _ _ _ => true
  | _ => false
theorem all_split {L : List Jvm.Cond} {P : Jvm.Cond → Bool} (h1 : L.all (fun c => isCode c || P c) = true) (h2 : ∀ c ∈ L.filter isCode, P c = true) : L.all P = true := by
  refine List.all_eq_true.mpr fun c hc => ?_
  have h := List.all_eq_true.mp h1 c hc
  rcases Bool.eq_false_or_eq_true (isCode c) with hi | hi
  · exact h2 c (List.mem_filter.mpr ⟨hc, hi⟩)
  · simpa [hi] using h
set_option maxRecDepth 65536 in
theorem w_c0 : (Jvm.Cond.code x code maxLocals ret).before args0 about1 = true := code_word (m := ⟨1, 1⟩) (meth := k1m1) (c := k1c1) (by decide +kernel) rfl rfl rfl (by decide +kernel)
set_option maxRecDepth 65536 in
theorem w_c1 : (Jvm.Cond.code ({ cls := "com/example/chartwright/chartwright/parse/ChartGrammar", name := "starts", desc := "([II)[I" } : Jvm.MethodName) prog_45_method_4_code (7 : Nat) (Option.some (Jvm.ClassFile.FieldType.array Jvm.ClassFile.FieldType.int))).before args0 about1 = true := code_word (m := ⟨2, 0⟩) (meth := k2m0) (c := k2c0) (by decide +kernel) rfl rfl rfl (by decide +kernel)
set_option maxRecDepth 65536 in
theorem w_c2 : (Jvm.Cond.code ({ cls := "com/example/chartwright/chartwright/parse/ChartGrammarStartsPinLaw", name := "ok", desc := "([IIIIIII)Z" } : Jvm.MethodName) method_3_code (7 : Nat) (Option.some Jvm.ClassFile.FieldType.boolean)).before args0 about1 = true := code_word (m := ⟨1, 2⟩) (meth := k1m2) (c := k1c2) (by decide +kernel) rfl rfl rfl (by decide +kernel)
set_option maxRecDepth 65536 in
theorem w_c3 : (Jvm.Cond.code ({ cls := "com/example/chartwright/chartwright/parse/ChartGrammarStartsPinLaw", name := "below", desc := "(IIIII)I" } : Jvm.MethodName) method_4_code (6 : Nat) (Option.some Jvm.ClassFile.FieldType.int)).before args0 about1 = true := code_word (m := ⟨1, 3⟩) (meth := k1m3) (c := k1c3) (by decide +kernel) rfl rfl rfl (by decide +kernel)
def codes1 : List Jvm.Cond := [Jvm.Cond.code x code maxLocals ret, Jvm.Cond.code ({ cls := "com/example/chartwright/chartwright/parse/ChartGrammar", name := "starts", desc := "([II)[I" } : Jvm.MethodName) prog_45_method_4_code (7 : Nat) (Option.some (Jvm.ClassFile.FieldType.array Jvm.ClassFile.FieldType.int)), Jvm.Cond.code ({ cls := "com/example/chartwright/chartwright/parse/ChartGrammarStartsPinLaw", name := "ok", desc := "([IIIIIII)Z" } : Jvm.MethodName) method_3_code (7 : Nat) (Option.some Jvm.ClassFile.FieldType.boolean), Jvm.Cond.code ({ cls := "com/example/chartwright/chartwright/parse/ChartGrammarStartsPinLaw", name := "below", desc := "(IIIII)I" } : Jvm.MethodName) method_4_code (6 : Nat) (Option.some Jvm.ClassFile.FieldType.int)]
set_option maxRecDepth 65536 in
theorem codes_eq : words1.filter isCode = codes1 := rfl
theorem w_codes : ∀ c ∈ words1.filter isCode, c.before args0 about1 = true := by
  rw [codes_eq]
  intro c hc
  simp only [codes1, List.mem_cons, List.not_mem_nil, or_false] at hc
  rcases hc with rfl | rfl | rfl | rfl
  · exact w_c0
  · exact w_c1
  · exact w_c2
  · exact w_c3
set_option maxRecDepth 65536 in
theorem w_t1 : words1.all (fun c => isCode c || c.before args0 about1) = true := by decide +kernel
theorem w_tables : (allAtoms (Jvm.Cond.code x code maxLocals ret :: tables_1)).before args0 about1 = true := by
  rw [allAtoms_all]
  show words1.all (fun c => c.before args0 about1) = true
  refine all_split ?_ w_codes
  rw [w_t1]
set_option maxRecDepth 65536 in
theorem w_case : (Jvm.Cond.and given_1 narrow_1).before args0 about1 = true := by decide +kernel
theorem w_applies : (headSpec (Jvm.Cond.code x code maxLocals ret :: tables_1) room_1).applies x e0.platform about1 = true :=
  (Spec.applies_iff w_frames).mpr ⟨w_running, w_runnable, w_alone, w_named, w_hears, w_ripe, w_room, w_tables⟩
theorem atStart : AtStart classFile x code maxLocals ret World_1 tables_1 room_1 Calls_1 rest_1 Pre_1 launch0 p0 e0 about1 theMethod args0 below0 :=
  ⟨lists_1, trivial, launch0.admits_env _ _ _, launch0.least_env, fairChoices_fair.cas, fairChoices_fair.clock, w_frames, w_args, w_heap, w_applies, trivial, trivial, w_case⟩
end start1
theorem witness_1 : WitnessClaimed_1 := ⟨start1.p0, start1.e0, start1.about1, start1.theMethod, start1.args0, start1.below0, start1.atStart⟩
end Jvm.Pilot.@@N@@
