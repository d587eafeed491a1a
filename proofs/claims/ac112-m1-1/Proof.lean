import JvmDerived
import JvmDerived.Pilot.@@N@@Statement
import JvmDerived.Pilot.@@N@@Code
set_option linter.unusedVariables false
set_option linter.unusedSimpArgs false
namespace Jvm.Pilot.@@N@@
open Jvm Jvm.ClassFile Sem Op Lib Jvm.Free Jvm.Stand Jvm.LawKit Jvm.RoadKit Bundle Jvm.Pilot.@@N@@.Jvm.D
section OwnKit
variable {p : Program} {l : Launch} {e : Env} {R : Room} {s : State} {m : MethodId} {args : Array Value} {below : List Frame} {meth : Method} {c : Code} {T : State} {locs : List Loc} {cells slots : Nat}
/-- from the state u the run comes to an end of the invocation at which G holds -/
def Go (tb : Tables) (e : Env) (below : List Frame) (G : Outcome → State → Prop) (u : State) : Prop := ∃ s₂ o, Steps tb e below u s₂ ∧ s₂.status = .running ∧ Ended s₂ below o ∧ G o s₂
def End (Q : Option Value → Heap → List Loc → Prop) (s : State) (C S : Nat) (o : Outcome) (u : State) : Prop := ∃ v L, o = .returned v ∧ Q v u.heap L ∧ FrameEnd s o u L C S
theorem go {tb : Tables} {G : Outcome → State → Prop} {u u' : State} (st : ∀ t, Steps tb e below u' t → Steps tb e below u t) (k : Go tb e below G u') : Go tb e below G u := by
  obtain ⟨s₂, o, h1, h2⟩ := k
  exact ⟨s₂, o, st _ h1, h2⟩
theorem goT {tb : Tables} {G : Outcome → State → Prop} {u u' : State} (st : Steps tb e below u u') (k : Go tb e below G u') : Go tb e below G u := go (fun _ h => st.trans h) k
theorem own_fin (X : Stand p l e R s m args below meth c T locs cells slots) (hlk : meth.locks = false) {v : Option Value} (hv : meth.sig.returnType = none → v = none) {Q : Option Value → Heap → List Loc → Prop} {C S : Nat} (hq : Q v T.heap locs) (hc : cells ≤ C) (hs : slots ≤ S) {u : State}
    (st : ∀ fs, (∀ (f : JFrame) (acts : List Action), f.method = m → f.locked = none → f.entered = [] → (doReturn e (T.setTop f) acts v).1 = T.setFrames fs) → Steps p.tables e below u (T.setFrames fs)) : Go p.tables e below (End Q s C S) u := by
  obtain ⟨fs, hr, hrun, hended, hW, hsame⟩ := X.leave (v := v) hv hlk
  exact ⟨_, _, st fs hr, hrun, hended, _, _, rfl, hq, ⟨_, rfl⟩, hW, hsame.mono hc hs⟩
theorem own_retI (X : Stand p l e R s m args below meth c T locs cells slots) (hx : p.tables.exec = Jvm.exec) {pc : Nat} {Ls : Array Slot} {z : Int32} {rest : List Value} (hret : meth.sig.returnType = some .int) (hd : decode c.code pc = .ok (.ireturn, 1)) {fs : List Frame}
    (hl : ∀ (f : JFrame) (acts : List Action), f.method = m → f.locked = none → f.entered = [] → (doReturn e (T.setTop f) acts (some (.int z))).1 = T.setFrames fs) : Steps p.tables e below (T.setTop (mkF m pc Ls (.int z :: rest))) (T.setFrames fs) := by
  have hm' : T.vm.method? m = some meth := X.method'
  have hn : narrow .int (.int z) = .int z := rfl
  show Steps p.tables e below (T.setTop { method := m, pc := pc, locals := Ls, stack := _ :: rest, locked := none }) _
  jvm_step X.here [X.here.top, hx, hd, hm', hret, hn]
  first | (intro acts; rw [hl _ acts rfl rfl rfl]) | rw [hl _ _ rfl rfl rfl]
  exact Steps.refl _
theorem own_retA (X : Stand p l e R s m args below meth c T locs cells slots) (hx : p.tables.exec = Jvm.exec) {pc : Nat} {Ls : Array Slot} {z : Value} {t : FieldType} {rest : List Value} (hret : meth.sig.returnType = some t) (ht : t.isReference = true) (hz : z.isRef = true) (hd : decode c.code pc = .ok (.areturn, 1)) {fs : List Frame}
    (hl : ∀ (f : JFrame) (acts : List Action), f.method = m → f.locked = none → f.entered = [] → (doReturn e (T.setTop f) acts (some z)).1 = T.setFrames fs) : Steps p.tables e below (T.setTop (mkF m pc Ls (z :: rest))) (T.setFrames fs) := by
  have hm' : T.vm.method? m = some meth := X.method'
  show Steps p.tables e below (T.setTop { method := m, pc := pc, locals := Ls, stack := _ :: rest, locked := none }) _
  jvm_step X.here [X.here.top, hx, hd, hm', hret, ht, hz]
  first | (intro acts; rw [hl _ acts rfl rfl rfl]) | rw [hl _ _ rfl rfl rfl]
  exact Steps.refl _
theorem gI (X : Stand p l e R s m args below meth c T locs cells slots) (hx : p.tables.exec = Jvm.exec) (hlk : meth.locks = false) {pc : Nat} {Ls : Array Slot} {z : Int32} {rest : List Value} (hret : meth.sig.returnType = some .int) (hd : decode c.code pc = .ok (.ireturn, 1)) {Q : Option Value → Heap → List Loc → Prop} {C S : Nat} (hq : Q (some (.int z)) T.heap locs) (hc : cells ≤ C) (hs : slots ≤ S) :
    Go p.tables e below (End Q s C S) (T.setTop (mkF m pc Ls (.int z :: rest))) := own_fin X hlk (fun h => by rw [hret] at h; cases h) hq hc hs fun fs hr => own_retI X hx hret hd hr
theorem gN (X : Stand p l e R s m args below meth c T locs cells slots) (hx : p.tables.exec = Jvm.exec) (hlk : meth.locks = false) {pc : Nat} {Ls : Array Slot} {z : Int32} {t : FieldType} {rest : List Value} (hret : meth.sig.returnType = some t) (ht : t = .boolean ∨ t = .byte ∨ t = .char ∨ t = .short) (hn : nar t z = z) (hd : decode c.code pc = .ok (.ireturn, 1)) {Q : Option Value → Heap → List Loc → Prop} {C S : Nat} (hq : Q (some (.int z)) T.heap locs) (hc : cells ≤ C) (hs : slots ≤ S) :
    Go p.tables e below (End Q s C S) (T.setTop (mkF m pc Ls (.int z :: rest))) := own_fin X hlk (fun h => by rw [hret] at h; cases h) hq hc hs fun fs hr => retN X hx hret ht hd (by rw [hn]; exact hr)
theorem gJ (X : Stand p l e R s m args below meth c T locs cells slots) (hx : p.tables.exec = Jvm.exec) (hlk : meth.locks = false) {pc : Nat} {Ls : Array Slot} {z : Int64} (hret : meth.sig.returnType = some .long) (hd : decode c.code pc = .ok (.lreturn, 1)) {Q : Option Value → Heap → List Loc → Prop} {C S : Nat} (hq : Q (some (.long z)) T.heap locs) (hc : cells ≤ C) (hs : slots ≤ S) :
    Go p.tables e below (End Q s C S) (T.setTop (mkF m pc Ls [.long z])) := own_fin X hlk (fun h => by rw [hret] at h; cases h) hq hc hs fun fs hr => X.lreturnOut hx hret hd hr
theorem g0 (X : Stand p l e R s m args below meth c T locs cells slots) (hx : p.tables.exec = Jvm.exec) (hlk : meth.locks = false) {pc : Nat} {Ls : Array Slot} (hret : meth.sig.returnType = none) (hd : decode c.code pc = .ok (.return_, 1)) {Q : Option Value → Heap → List Loc → Prop} {C S : Nat} (hq : Q none T.heap locs) (hc : cells ≤ C) (hs : slots ≤ S) :
    Go p.tables e below (End Q s C S) (T.setTop (mkF m pc Ls [])) := own_fin X hlk (fun _ => rfl) hq hc hs fun fs hr => X.returnOut hx hret hd hr
theorem gA (X : Stand p l e R s m args below meth c T locs cells slots) (hx : p.tables.exec = Jvm.exec) (hlk : meth.locks = false) {pc : Nat} {Ls : Array Slot} {z : Value} {t : FieldType} {rest : List Value} (hret : meth.sig.returnType = some t) (ht : t.isReference = true) (hz : z.isRef = true) (hd : decode c.code pc = .ok (.areturn, 1)) {Q : Option Value → Heap → List Loc → Prop} {C S : Nat} (hq : Q (some z) T.heap locs) (hc : cells ≤ C) (hs : slots ≤ S) :
    Go p.tables e below (End Q s C S) (T.setTop (mkF m pc Ls (z :: rest))) := own_fin X hlk (fun h => by rw [hret] at h; cases h) hq hc hs fun fs hr => own_retA X hx hret ht hz hd hr
end OwnKit
/-- a body's contract out of its walk -/
theorem body {l : Launch} {y : MethodName} {bytes : ByteArray} {maxL : Nat} {ret : Option FieldType} {ws : List Jvm.Cond} {rm : Room} {as' : Array Value} {Z : State} {h0 : Heap} {Q : Option Value → Heap → List Loc → Prop} (pn : plainFor y = true)
    (k : ∀ (p : Program) (e : Env) (s : State) (m : MethodId) (below : List Frame) (meth : Method) (c : Code) (s₁ : State), p.tables.exec = Jvm.exec → c.code = bytes → c.maxLocals = maxL → s.vm.findClass y.cls = some m.cls → meth.name = y.name → meth.sig.returnType = ret → meth.locks = false → Z.Warmed39 s.vm → s₁.heap = h0 →
      Stand p l e rm s m as' below meth c s₁ [] 0 0 → Go p.tables e below (End Q s rm.cells rm.slots) (s₁.setTop (entryFrame m as' maxL))) :
    MetFree l y (head1 (Jvm.Cond.code y bytes maxL ret :: ws) rm) (fun a U => a = as' ∧ Z.Warmed39 U.vm ∧ U.heap = h0) (fun _ _ _ _ _ => True) (fun _ U o U' => ∃ v L, o = .returned v ∧ Q v U'.heap L ∧ FrameEnd U o U' L rm.cells rm.slots) := by
  refine MetFree.of_bodySF pn hisR ?_
  intro p e s m args below meth c s₁ Bd hml hP _
  obtain ⟨rfl, hZ, hh⟩ := hP
  obtain ⟨s₂, o, h1, h2, h3, h4⟩ := k p e s m below meth c s₁ Bd.exec Bd.bytes hml (findClass_of_methodNamed Bd.named) (name_of_methodNamed Bd.named Bd.method).1 Bd.returns Bd.notSynchronized hZ (by rw [← hh, Bd.state]; rfl) (Stand.of_body Bd)
  exact ⟨s₂, o, h1, h2, h3, h4⟩
/-- a boolean as an int -/
def B (P : Prop) [Decidable P] : Int32 := if P then 1 else 0
theorem Bt {P : Prop} [Decidable P] (h : P) : B P = 1 := if_pos h
theorem Bf {P : Prop} [Decidable P] (h : ¬ P) : B P = 0 := if_neg h
theorem B1 {P : Prop} [Decidable P] (h : P) : (1 : Int32) = B P := (if_pos h).symm
theorem B0 {P : Prop} [Decidable P] (h : ¬ P) : (0 : Int32) = B P := (if_neg h).symm
theorem B_iff {P Q : Prop} [Decidable P] [Decidable Q] (h : P ↔ Q) : B P = B Q := by simp only [B, h]
theorem B_nar {P : Prop} [Decidable P] : nar .boolean (B P) = B P := by by_cases h : P <;> simp only [B, h, if_true, if_false] <;> rfl
theorem bT {P : Prop} [Decidable P] (h : P) : ifCond.holds .ne (B P) = true ∧ ifCond.holds .eq (B P) = false := by rw [Bt h]; exact ⟨rfl, rfl⟩
theorem bF {P : Prop} [Decidable P] (h : ¬ P) : ifCond.holds .ne (B P) = false ∧ ifCond.holds .eq (B P) = true := by rw [Bf h]; exact ⟨rfl, rfl⟩
theorem lT {x y : Int64} (h : x < y) : ifCond.holds .lt (lcmpW x y) = true ∧ ifCond.holds .ge (lcmpW x y) = false ∧ ifCond.holds .gt (lcmpW y x) = true ∧ ifCond.holds .le (lcmpW y x) = false := by
  have h1 := tlt ((lw_lt x y).mpr h)
  have h2 := tlt ((lw_gt y x).mpr h)
  simp only [if0]; exact ⟨h1.1, h1.2.1, h2.2.2.1, h2.2.2.2⟩
theorem lF {x y : Int64} (h : ¬ x < y) : ifCond.holds .lt (lcmpW x y) = false ∧ ifCond.holds .ge (lcmpW x y) = true ∧ ifCond.holds .gt (lcmpW y x) = false ∧ ifCond.holds .le (lcmpW y x) = true := by
  have h1 := flt (fun q => h ((lw_lt x y).mp q))
  have h2 := flt (fun q => h ((lw_gt y x).mp q))
  simp only [if0]; exact ⟨h1.1, h1.2.1, h2.2.2.1, h2.2.2.2⟩
theorem lTe {x y : Int64} (h : x = y) : ifCond.holds .eq (lcmpW x y) = true ∧ ifCond.holds .ne (lcmpW x y) = false := by
  simp only [if0]; exact teq ((lw_eq x y).mpr h)
theorem lFe {x y : Int64} (h : ¬ x = y) : ifCond.holds .eq (lcmpW x y) = false ∧ ifCond.holds .ne (lcmpW x y) = true := by
  simp only [if0]; exact feq (fun q => h ((lw_eq x y).mp q))
theorem bTv {P : Prop} [Decidable P] {v : Int32} (hv : v = B P) (h : P) : ifCond.holds .ne v = true ∧ ifCond.holds .eq v = false := hv ▸ bT h
theorem bFv {P : Prop} [Decidable P] {v : Int32} (hv : v = B P) (h : ¬ P) : ifCond.holds .ne v = false ∧ ifCond.holds .eq v = true := hv ▸ bF h
theorem B_narv {P : Prop} [Decidable P] {v : Int32} (hv : v = B P) : nar .boolean v = v := hv ▸ B_nar
theorem own_fitb {v : Int32} (h : nar .boolean v = v) : fits .boolean (.int v) = true := h ▸ fits_nar_bool v
theorem ww {a0 : Array Value} {Z : State} (hw : ∀ d ∈ tables_1, d.before a0 Z = true) (i : Nat) {d : Jvm.Cond} (h : tables_1[i]? = some d) : d.before a0 Z = true := hw d (List.mem_of_getElem? h)
/-! arrays of ints (of any int-like kind) by a function of the place -/
def upd {α : Type} (f : Nat → α) (i : Nat) (v : α) : Nat → α := fun k => if k = i then v else f k
def own_l (l : List Int32) : Nat → Int32 := fun k => l.getD k 0
theorem own_upd_l (l : List Int32) (i : Nat) (x : Int32) (hi : i < l.length) : upd (own_l l) i x = own_l (l.set i x) := by
  funext k
  simp only [upd, own_l, List.getD_eq_getElem?_getD, List.getElem?_set]
  by_cases h : i = k
  · subst h; simp [hi]
  · simp [h, Ne.symm h]
def PI (Z : State) (h : Heap) (a : Addr) (ty : FieldType) (n : Nat) (g : Nat → Int32) : Prop := ∃ c : Cell, Arr Z h a c ty ∧ c.slots.size = n ∧ n < 2 ^ 31 ∧ ∀ i, i < n → c.slots[i]? = some (.int (g i))
section OwnArr
variable {Z : State} {h h' : Heap} {a b : Addr} {ty : FieldType} {n sl : Nat} {g : Nat → Int32} {v : Value} {ws : List Addr}
theorem PI.lt (F : PI Z h a ty n g) : a < h.size := by obtain ⟨c, A, -⟩ := F; exact A.lt
theorem PI.ext (F : PI Z h a ty n g) (E : Ext h h') : PI Z h' a ty n g := by obtain ⟨c, A, r⟩ := F; exact ⟨c, A.ext E, r⟩
theorem PI.other (F : PI Z h b ty n g) (W : Wr h h' a sl v) (q : b ≠ a) : PI Z h' b ty n g := by obtain ⟨c, A, r⟩ := F; exact ⟨c, A.other W q, r⟩
theorem PI.keep (F : PI Z h a ty n g) (K : Keep h h' ws) (q : a ∉ ws) : PI Z h' a ty n g := by obtain ⟨c, A, r⟩ := F; exact ⟨c, ⟨K.2.1 a c A.1 q, A.2⟩, r⟩
theorem PI.congr {g' : Nat → Int32} (F : PI Z h a ty n g) (q : ∀ i, i < n → g i = g' i) : PI Z h a ty n g' := by
  obtain ⟨c, A, r1, r2, r3⟩ := F
  exact ⟨c, A, r1, r2, fun i hi => by rw [← q i hi]; exact r3 i hi⟩
theorem PI.bound (F : PI Z h a ty n g) : n < 2 ^ 31 := by obtain ⟨c, -, -, q, -⟩ := F; exact q
theorem PI.new {k : ClassId} {z : Int32} (A : Arr Z h a (newA k ty z) ty) (q : ¬ z < 0) (hd : defaultValue ty = .int 0) : PI Z h a ty z.toNatClampNeg (fun _ => 0) :=
  ⟨_, A, sz_new _ _ _, (back32 q).2, fun i hi => by simp [newA, hd, hi]⟩
theorem PI.newL {k : ClassId} {z : Int32} {m : Nat} (A : Arr Z h a (newA k ty z) ty) (q : ¬ z < 0) (hd : defaultValue ty = .int 0) (hz : z.toNatClampNeg = m) : PI Z h a ty m (own_l (List.replicate m 0)) := by
  subst hz
  refine (PI.new A q hd).congr fun i hi => ?_
  simp [own_l, hi]
theorem PI.set {x j : Int32} (F : PI Z h a ty n g) (hn : j.toNatClampNeg < n) (W : Wr h h' a j.toNatClampNeg (.int x)) : PI Z h' a ty n (upd g j.toNatClampNeg x) := by
  obtain ⟨c, A, r1, r2, r3⟩ := F
  refine ⟨_, A.same W, by rw [sz_set]; exact r1, r2, fun i hi => ?_⟩
  by_cases q : i = j.toNatClampNeg
  · subst q; simp [upd, Cell.setSlot, r1, hn]
  · simp only [upd, if_neg q]
    rw [← r3 i hi]
    simp [Cell.setSlot, Array.getElem?_setIfInBounds, Ne.symm q]
theorem PI.setL {l l' : List Int32} {x j : Int32} {i : Nat} (F : PI Z h a ty n (own_l l)) (hn : j.toNatClampNeg < n) (W : Wr h h' a j.toNatClampNeg (.int x)) (hj : j.toNatClampNeg = i) (hi : i < l.length) (hl : l.set i x = l') : PI Z h' a ty n (own_l l') := by
  subst hl hj
  rw [← own_upd_l l _ x hi]
  exact F.set hn W
theorem own_inb {c : Cell} {j : Int32} (hs : c.slots.size = n) (hj : ¬ j < 0) (hn : j.toNatClampNeg < n) : ¬ (j < 0 ∨ c.slots.size ≤ j.toNatClampNeg) := fun q => q.elim hj fun r => by omega
end OwnArr
section OwnArr2
variable {p : Program} {l : Launch} {e : Env} {R : Room} {s : State} {m : MethodId} {args : Array Value} {below : List Frame} {meth : Method} {c : Code} {T : State} {locs : List Loc} {cells slots : Nat} {Z : State} {h : Heap} {a : Addr} {n : Nat} {g : Nat → Int32}
theorem own_iaload (X : Stand p l e R s m args below meth c T locs cells slots) (hx : p.tables.exec = Jvm.exec) (hZ : Z.Warmed39 s.vm) (eT : T.heap = h) (F : PI Z h a .int n g) {j v : Int32} (hj : ¬ j < 0) (hn : j.toNatClampNeg < n) (hv : g j.toNatClampNeg = v) {f : JFrame} (hg : f.method = m) {rest : List Value} (hs : f.stack = .int j :: .ref a :: rest) (hd : decode c.code f.pc = .ok (.iaload, 1)) (t : State)
    (k : Steps p.tables e below (T.setTop { f with pc := f.pc + 1, stack := .int v :: rest }) t) : Steps p.tables e below (T.setTop f) t := by
  obtain ⟨cl, A, r1, r2, r3⟩ := F
  exact X.iaload hx (j := j) (v := .int v) (by rw [eT]; exact A.1) (State.isArrayOf_alike hZ.alike A.2.1) A.2.2 (own_inb r1 hj hn) (by rw [r3 _ hn, hv]) hg hs hd t k
theorem own_baloadZ (X : Stand p l e R s m args below meth c T locs cells slots) (hx : p.tables.exec = Jvm.exec) (hZ : Z.Warmed39 s.vm) (eT : T.heap = h) (F : PI Z h a .boolean n g) {j v : Int32} (hj : ¬ j < 0) (hn : j.toNatClampNeg < n) (hv : g j.toNatClampNeg = v) {f : JFrame} (hg : f.method = m) {rest : List Value} (hs : f.stack = .int j :: .ref a :: rest) (hd : decode c.code f.pc = .ok (.baload, 1)) (t : State)
    (k : Steps p.tables e below (T.setTop { f with pc := f.pc + 1, stack := .int v :: rest }) t) : Steps p.tables e below (T.setTop f) t := by
  obtain ⟨cl, A, r1, r2, r3⟩ := F
  exact X.baloadBooleans hx (j := j) (v := .int v) (by rw [eT]; exact A.1) (State.isArrayOf_alike hZ.alike A.2.1) A.2.2 (own_inb r1 hj hn) (by rw [r3 _ hn, hv]) hg hs hd t k
theorem own_alen {ty : FieldType} (X : Stand p l e R s m args below meth c T locs cells slots) (hx : p.tables.exec = Jvm.exec) (hZ : Z.Warmed39 s.vm) (eT : T.heap = h) (F : PI Z h a ty n g) {z : Int32} (hz : n.toInt32 = z) {f : JFrame} (hg : f.method = m) {rest : List Value} (hs : f.stack = .ref a :: rest) (hd : decode c.code f.pc = .ok (.arraylength, 1)) (t : State)
    (k : Steps p.tables e below (T.setTop { f with pc := f.pc + 1, stack := .int z :: rest }) t) : Steps p.tables e below (T.setTop f) t := by
  obtain ⟨cl, A, r1, r2, r3⟩ := F
  exact X.arraylength hx (by rw [eT]; exact A.1) (State.isArrayOf_alike hZ.alike A.2.1) hg hs hd t (by rw [r1, hz]; exact k)
theorem own_iastore (X : Stand p l e R s m args below meth c T locs cells slots) (hx : p.tables.exec = Jvm.exec) (hZ : Z.Warmed39 s.vm) (eT : T.heap = h) (F : PI Z h a .int n g) {j x : Int32} (hj : ¬ j < 0) (hn : j.toNatClampNeg < n) {f : JFrame} (hg : f.method = m) {rest : List Value} (hs : f.stack = .int x :: .int j :: .ref a :: rest) (hd : decode c.code f.pc = .ok (.iastore, 1)) :
    ∃ T' h', Stand p l e R s m args below meth c T' (locs ++ [⟨a, j.toNatClampNeg⟩]) cells slots ∧ T'.heap = h' ∧ Wr h h' a j.toNatClampNeg (.int x) ∧ ∀ target, Steps p.tables e below (T'.setTop { f with pc := f.pc + 1, stack := rest }) target → Steps p.tables e below (T.setTop f) target := by
  obtain ⟨cl, A, r1, r2, r3⟩ := F
  exact stI X hx hZ eT A (own_inb r1 hj hn) hg hs hd
theorem own_bastoreZ (X : Stand p l e R s m args below meth c T locs cells slots) (hx : p.tables.exec = Jvm.exec) (hZ : Z.Warmed39 s.vm) (eT : T.heap = h) (F : PI Z h a .boolean n g) {j x : Int32} (hnx : nar .boolean x = x) (hj : ¬ j < 0) (hn : j.toNatClampNeg < n) {f : JFrame} (hg : f.method = m) {rest : List Value} (hs : f.stack = .int x :: .int j :: .ref a :: rest) (hd : decode c.code f.pc = .ok (.bastore, 1)) :
    ∃ T' h', Stand p l e R s m args below meth c T' (locs ++ [⟨a, j.toNatClampNeg⟩]) cells slots ∧ T'.heap = h' ∧ Wr h h' a j.toNatClampNeg (.int x) ∧ ∀ target, Steps p.tables e below (T'.setTop { f with pc := f.pc + 1, stack := rest }) target → Steps p.tables e below (T.setTop f) target := by
  obtain ⟨cl, A, r1, r2, r3⟩ := F
  obtain ⟨T', h', q1, q2, q3, q4⟩ := stZ X hx hZ eT A (x := x) (own_inb r1 hj hn) hg hs hd
  rw [hnx] at q3
  exact ⟨T', h', q1, q2, q3, q4⟩
end OwnArr2
theorem own_Fto {Z : State} {h : Heap} {a : Addr} {C n d : String} {v w : Value} (F : Fld Z h a C n d v) (q : v = w) : Fld Z h a C n d w := q ▸ F
theorem own_Lto {Z : State} {h : Heap} {a : Addr} {ty : FieldType} {n : Nat} {l l' : List Int32} (F : PI Z h a ty n (own_l l)) (q : l = l') : PI Z h a ty n (own_l l') := q ▸ F
theorem own_Gto {Z : State} {h : Heap} {a : Addr} {ty : FieldType} {n : Nat} {g g' : Nat → Int32} (F : PI Z h a ty n g) (q : g = g') : PI Z h a ty n g' := q ▸ F
def own_pick (p0 p1 : Int32) : Int32 := (if (p0 &&& (7 : Int32)) = (0 : Int32) then (13 : Int32) else (if (p0 &&& (7 : Int32)) = (1 : Int32) then (10 : Int32) else (if (p0 &&& (7 : Int32)) = (2 : Int32) then (133 : Int32) else (if (p0 &&& (7 : Int32)) = (3 : Int32) then (8232 : Int32) else p1))))
theorem pn_com_example_locattr_locattr_PlaceCounterPassPinLaw_pick_1 : plainFor (⟨"com/example/locattr/locattr/PlaceCounterPassPinLaw", "pick", "(II)I"⟩ : MethodName) = true := by first | exact plainFor_of_name (by first | (simp [plainName, overriddenIn]; done) | decide +kernel) | decide +kernel
def Q_rm1 (Z : State) (p0 : Int32) (p1 : Int32) (h0 : Heap) (n0 : Nat) (v : Option Value) (h : Heap) (L : List Loc) : Prop := v = some (.int (own_pick p0 p1)) ∧ Fr n0 L ∧ h = h0
set_option maxRecDepth 65536 in
set_option maxHeartbeats 4000000 in
theorem ef_rm1 (m : MethodId) (p0 : Int32) (p1 : Int32) : entryFrame m #[(.int p0), (.int p1)] 3 = mkF m 0 #[.val (.int p0), .val (.int p1), .unset] [] := by first | (simp [entryFrame, mkF, argsToLocals, Value.category, maxLocals]; done) | rfl
theorem d1_0 : decode method_2_code 0 = .ok (.iload_n 0, 1) := by decide +kernel
theorem d1_1 : decode method_2_code 1 = .ok (.bipush 7, 2) := by decide +kernel
theorem d1_3 : decode method_2_code 3 = .ok (.iand, 1) := by decide +kernel
theorem d1_4 : decode method_2_code 4 = .ok (.istore_n 2, 1) := by decide +kernel
theorem d1_5 : decode method_2_code 5 = .ok (.iload_n 2, 1) := by decide +kernel
theorem d1_6 : decode method_2_code 6 = .ok (.ifCond .ne 6, 3) := by decide +kernel
theorem d1_9 : decode method_2_code 9 = .ok (.bipush 13, 2) := by decide +kernel
theorem d1_11 : decode method_2_code 11 = .ok (.ireturn, 1) := by decide +kernel
theorem d1_12 : decode method_2_code 12 = .ok (.iload_n 2, 1) := by decide +kernel
theorem d1_13 : decode method_2_code 13 = .ok (.iconst 1, 1) := by decide +kernel
theorem d1_14 : decode method_2_code 14 = .ok (.if_icmp .ne 6, 3) := by decide +kernel
theorem d1_17 : decode method_2_code 17 = .ok (.bipush 10, 2) := by decide +kernel
theorem d1_19 : decode method_2_code 19 = .ok (.ireturn, 1) := by decide +kernel
theorem d1_20 : decode method_2_code 20 = .ok (.iload_n 2, 1) := by decide +kernel
theorem d1_21 : decode method_2_code 21 = .ok (.iconst 2, 1) := by decide +kernel
theorem d1_22 : decode method_2_code 22 = .ok (.if_icmp .ne 7, 3) := by decide +kernel
theorem d1_25 : decode method_2_code 25 = .ok (.sipush 133, 3) := by decide +kernel
theorem d1_28 : decode method_2_code 28 = .ok (.ireturn, 1) := by decide +kernel
theorem d1_29 : decode method_2_code 29 = .ok (.iload_n 2, 1) := by decide +kernel
theorem d1_30 : decode method_2_code 30 = .ok (.iconst 3, 1) := by decide +kernel
theorem d1_31 : decode method_2_code 31 = .ok (.if_icmp .ne 7, 3) := by decide +kernel
theorem d1_34 : decode method_2_code 34 = .ok (.sipush 8232, 3) := by decide +kernel
theorem d1_37 : decode method_2_code 37 = .ok (.ireturn, 1) := by decide +kernel
theorem d1_38 : decode method_2_code 38 = .ok (.iload_n 1, 1) := by decide +kernel
theorem d1_39 : decode method_2_code 39 = .ok (.ireturn, 1) := by decide +kernel
set_option maxRecDepth 65536 in
set_option maxHeartbeats 40000000 in
theorem rm1 (l : Launch) (Z : State) (a0 : Array Value) (hw : ∀ d ∈ tables_1, d.before a0 Z = true) (ws : List Jvm.Cond) (p0 : Int32) (p1 : Int32) (h0 : Heap) (n0 : Nat) (Z0 : n0 ≤ h0.size)  :
    MetFree l (⟨"com/example/locattr/locattr/PlaceCounterPassPinLaw", "pick", "(II)I"⟩ : MethodName) (head1 (Jvm.Cond.code (⟨"com/example/locattr/locattr/PlaceCounterPassPinLaw", "pick", "(II)I"⟩ : MethodName) method_2_code 3 (some .int) :: ws) ({ frames := 0, cells := 0, slots := 0, locals := 0 } : Room)) (fun a U => a = #[(.int p0), (.int p1)] ∧ Z.Warmed39 U.vm ∧ U.heap = h0) (fun _ _ _ _ _ => True) (fun _ U o U' => ∃ v L, o = .returned v ∧ Q_rm1 Z p0 p1 h0 n0 v U'.heap L ∧ FrameEnd U o U' L ({ frames := 0, cells := 0, slots := 0, locals := 0 } : Room).cells ({ frames := 0, cells := 0, slots := 0, locals := 0 } : Room).slots) := by
  refine body pn_com_example_locattr_locattr_PlaceCounterPassPinLaw_pick_1 ?_
  intro p e s m below meth c s₁ hx hby hml hown hnm hret hlk hZ e0 X0
  replace hml : c.maxLocals = 3 := hml
  replace hown : s.vm.findClass "com/example/locattr/locattr/PlaceCounterPassPinLaw" = some m.cls := hown
  replace hnm : meth.name = "pick" := hnm
  replace hret : meth.sig.returnType = (some .int) := hret
  have N0 := Fr.nil n0
  rw [ef_rm1]
  obtain ⟨G, hG⟩ : ∃ G, G = End (Q_rm1 Z p0 p1 h0 n0) s ({ frames := 0, cells := 0, slots := 0, locals := 0 } : Room).cells ({ frames := 0, cells := 0, slots := 0, locals := 0 } : Room).slots := ⟨_, rfl⟩
  rw [← hG]
  refine go (u' := s₁.setTop (mkF m 1 #[.val (.int p0), .val (.int p1), .unset] [(.int p0)])) (fun _ ks_ => XS.iloadN X0.here hx rfl (hb hby d1_0) rfl  ks_) ?_
  refine go (u' := s₁.setTop (mkF m 3 #[.val (.int p0), .val (.int p1), .unset] [(.int (7 : Int32)), (.int p0)])) (fun _ ks_ => XS.bipush X0.here hx rfl (hb hby d1_1) ks_) ?_
  refine go (u' := s₁.setTop (mkF m 4 #[.val (.int p0), .val (.int p1), .unset] [(.int (p0 &&& (7 : Int32)))])) (fun _ ks_ => XS.iand X0.here hx rfl (hb hby d1_3) rfl ks_) ?_
  refine go (u' := s₁.setTop (mkF m 5 #[.val (.int p0), .val (.int p1), .val (.int (p0 &&& (7 : Int32)))] [])) (fun _ ks_ => XS.istoreN X0.here hx rfl (hb hby d1_4) rfl  (l' := #[.val (.int p0), .val (.int p1), .val (.int (p0 &&& (7 : Int32)))]) rfl ks_) ?_
  refine go (u' := s₁.setTop (mkF m 6 #[.val (.int p0), .val (.int p1), .val (.int (p0 &&& (7 : Int32)))] [(.int (p0 &&& (7 : Int32)))])) (fun _ ks_ => XS.iloadN X0.here hx rfl (hb hby d1_5) rfl  ks_) ?_
  by_cases c6_1 : (p0 &&& (7 : Int32)) = (0 : Int32)
  ·
    refine go (u' := s₁.setTop (mkF m 9 #[.val (.int p0), .val (.int p1), .val (.int (p0 &&& (7 : Int32)))] [])) (fun _ ks_ => XS.ifNo X0.here hx rfl (hb hby d1_6) rfl ((if0 _ _).trans (teq c6_1).2) ks_) ?_
    refine go (u' := s₁.setTop (mkF m 11 #[.val (.int p0), .val (.int p1), .val (.int (p0 &&& (7 : Int32)))] [(.int (13 : Int32))])) (fun _ ks_ => XS.bipush X0.here hx rfl (hb hby d1_9) ks_) ?_
    rw [hG]
    refine gI X0 hx hlk hret (hb hby d1_11) ?_ (Nat.le_of_ble_eq_true rfl) (Nat.le_of_ble_eq_true rfl)
    show Q_rm1 Z p0 p1 h0 n0 (some (.int (13 : Int32))) s₁.heap _
    rw [e0]
    exact ⟨congrArg (fun z => some (Value.int z)) ((if_pos c6_1)).symm, N0, rfl⟩
  ·
    refine go (u' := s₁.setTop (mkF m 12 #[.val (.int p0), .val (.int p1), .val (.int (p0 &&& (7 : Int32)))] [])) (fun _ ks_ => XS.ifYes X0.here hx rfl (pc0 := 6) (pc' := 12) rfl (hb hby d1_6) rfl ((if0 _ _).trans (feq c6_1).2) (by decide) (by decide) ks_) ?_
    refine go (u' := s₁.setTop (mkF m 13 #[.val (.int p0), .val (.int p1), .val (.int (p0 &&& (7 : Int32)))] [(.int (p0 &&& (7 : Int32)))])) (fun _ ks_ => XS.iloadN X0.here hx rfl (hb hby d1_12) rfl  ks_) ?_
    refine go (u' := s₁.setTop (mkF m 14 #[.val (.int p0), .val (.int p1), .val (.int (p0 &&& (7 : Int32)))] [(.int (1 : Int32)), (.int (p0 &&& (7 : Int32)))])) (fun _ ks_ => XS.iconst X0.here hx rfl (hb hby d1_13) ks_) ?_
    by_cases c14_2 : (p0 &&& (7 : Int32)) = (1 : Int32)
    ·
      refine go (u' := s₁.setTop (mkF m 17 #[.val (.int p0), .val (.int p1), .val (.int (p0 &&& (7 : Int32)))] [])) (fun _ ks_ => XS.icmpNo X0.here hx rfl (hb hby d1_14) rfl (teq c14_2).2 ks_) ?_
      refine go (u' := s₁.setTop (mkF m 19 #[.val (.int p0), .val (.int p1), .val (.int (p0 &&& (7 : Int32)))] [(.int (10 : Int32))])) (fun _ ks_ => XS.bipush X0.here hx rfl (hb hby d1_17) ks_) ?_
      rw [hG]
      refine gI X0 hx hlk hret (hb hby d1_19) ?_ (Nat.le_of_ble_eq_true rfl) (Nat.le_of_ble_eq_true rfl)
      show Q_rm1 Z p0 p1 h0 n0 (some (.int (10 : Int32))) s₁.heap _
      rw [e0]
      exact ⟨congrArg (fun z => some (Value.int z)) (((if_neg c6_1).trans (if_pos c14_2))).symm, N0, rfl⟩
    ·
      refine go (u' := s₁.setTop (mkF m 20 #[.val (.int p0), .val (.int p1), .val (.int (p0 &&& (7 : Int32)))] [])) (fun _ ks_ => XS.icmpYes X0.here hx rfl (pc0 := 14) (pc' := 20) rfl (hb hby d1_14) rfl (feq c14_2).2 (by decide) (by decide) ks_) ?_
      refine go (u' := s₁.setTop (mkF m 21 #[.val (.int p0), .val (.int p1), .val (.int (p0 &&& (7 : Int32)))] [(.int (p0 &&& (7 : Int32)))])) (fun _ ks_ => XS.iloadN X0.here hx rfl (hb hby d1_20) rfl  ks_) ?_
      refine go (u' := s₁.setTop (mkF m 22 #[.val (.int p0), .val (.int p1), .val (.int (p0 &&& (7 : Int32)))] [(.int (2 : Int32)), (.int (p0 &&& (7 : Int32)))])) (fun _ ks_ => XS.iconst X0.here hx rfl (hb hby d1_21) ks_) ?_
      by_cases c22_3 : (p0 &&& (7 : Int32)) = (2 : Int32)
      ·
        refine go (u' := s₁.setTop (mkF m 25 #[.val (.int p0), .val (.int p1), .val (.int (p0 &&& (7 : Int32)))] [])) (fun _ ks_ => XS.icmpNo X0.here hx rfl (hb hby d1_22) rfl (teq c22_3).2 ks_) ?_
        refine go (u' := s₁.setTop (mkF m 28 #[.val (.int p0), .val (.int p1), .val (.int (p0 &&& (7 : Int32)))] [(.int (133 : Int32))])) (fun _ ks_ => XS.sipush X0.here hx rfl (hb hby d1_25) ks_) ?_
        rw [hG]
        refine gI X0 hx hlk hret (hb hby d1_28) ?_ (Nat.le_of_ble_eq_true rfl) (Nat.le_of_ble_eq_true rfl)
        show Q_rm1 Z p0 p1 h0 n0 (some (.int (133 : Int32))) s₁.heap _
        rw [e0]
        exact ⟨congrArg (fun z => some (Value.int z)) ((((if_neg c6_1).trans (if_neg c14_2)).trans (if_pos c22_3))).symm, N0, rfl⟩
      ·
        refine go (u' := s₁.setTop (mkF m 29 #[.val (.int p0), .val (.int p1), .val (.int (p0 &&& (7 : Int32)))] [])) (fun _ ks_ => XS.icmpYes X0.here hx rfl (pc0 := 22) (pc' := 29) rfl (hb hby d1_22) rfl (feq c22_3).2 (by decide) (by decide) ks_) ?_
        refine go (u' := s₁.setTop (mkF m 30 #[.val (.int p0), .val (.int p1), .val (.int (p0 &&& (7 : Int32)))] [(.int (p0 &&& (7 : Int32)))])) (fun _ ks_ => XS.iloadN X0.here hx rfl (hb hby d1_29) rfl  ks_) ?_
        refine go (u' := s₁.setTop (mkF m 31 #[.val (.int p0), .val (.int p1), .val (.int (p0 &&& (7 : Int32)))] [(.int (3 : Int32)), (.int (p0 &&& (7 : Int32)))])) (fun _ ks_ => XS.iconst X0.here hx rfl (hb hby d1_30) ks_) ?_
        by_cases c31_4 : (p0 &&& (7 : Int32)) = (3 : Int32)
        ·
          refine go (u' := s₁.setTop (mkF m 34 #[.val (.int p0), .val (.int p1), .val (.int (p0 &&& (7 : Int32)))] [])) (fun _ ks_ => XS.icmpNo X0.here hx rfl (hb hby d1_31) rfl (teq c31_4).2 ks_) ?_
          refine go (u' := s₁.setTop (mkF m 37 #[.val (.int p0), .val (.int p1), .val (.int (p0 &&& (7 : Int32)))] [(.int (8232 : Int32))])) (fun _ ks_ => XS.sipush X0.here hx rfl (hb hby d1_34) ks_) ?_
          rw [hG]
          refine gI X0 hx hlk hret (hb hby d1_37) ?_ (Nat.le_of_ble_eq_true rfl) (Nat.le_of_ble_eq_true rfl)
          show Q_rm1 Z p0 p1 h0 n0 (some (.int (8232 : Int32))) s₁.heap _
          rw [e0]
          exact ⟨congrArg (fun z => some (Value.int z)) (((((if_neg c6_1).trans (if_neg c14_2)).trans (if_neg c22_3)).trans (if_pos c31_4))).symm, N0, rfl⟩
        ·
          refine go (u' := s₁.setTop (mkF m 38 #[.val (.int p0), .val (.int p1), .val (.int (p0 &&& (7 : Int32)))] [])) (fun _ ks_ => XS.icmpYes X0.here hx rfl (pc0 := 31) (pc' := 38) rfl (hb hby d1_31) rfl (feq c31_4).2 (by decide) (by decide) ks_) ?_
          refine go (u' := s₁.setTop (mkF m 39 #[.val (.int p0), .val (.int p1), .val (.int (p0 &&& (7 : Int32)))] [(.int p1)])) (fun _ ks_ => XS.iloadN X0.here hx rfl (hb hby d1_38) rfl  ks_) ?_
          rw [hG]
          refine gI X0 hx hlk hret (hb hby d1_39) ?_ (Nat.le_of_ble_eq_true rfl) (Nat.le_of_ble_eq_true rfl)
          show Q_rm1 Z p0 p1 h0 n0 (some (.int p1)) s₁.heap _
          rw [e0]
          exact ⟨congrArg (fun z => some (Value.int z)) (((((if_neg c6_1).trans (if_neg c14_2)).trans (if_neg c22_3)).trans (if_neg c31_4))).symm, N0, rfl⟩
theorem pn_com_example_locattr_locattr_PlaceCounter__init__2 : plainFor (⟨"com/example/locattr/locattr/PlaceCounter", "<init>", "(Z)V"⟩ : MethodName) = true := by first | exact plainFor_of_name (by first | (simp [plainName, overriddenIn]; done) | decide +kernel) | decide +kernel
def Q_rm2 (Z : State) (o0 : Addr) (p1 : Int32) (h0 : Heap) (n0 : Nat) (v : Option Value) (h : Heap) (L : List Loc) : Prop := v = none ∧ Fr n0 L ∧ Keep h0 h [o0] ∧ (Exa Z h o0 "com/example/locattr/locattr/PlaceCounter") ∧ (Fld Z h o0 "com/example/locattr/locattr/PlaceCounter" "line" "I" (.int (1 : Int32))) ∧ (Fld Z h o0 "com/example/locattr/locattr/PlaceCounter" "column" "I" (.int (1 : Int32))) ∧ (Fld Z h o0 "com/example/locattr/locattr/PlaceCounter" "xml11" "Z" (.int p1)) ∧ (Fld Z h o0 "com/example/locattr/locattr/PlaceCounter" "afterReturn" "Z" (.int (0 : Int32)))
set_option maxRecDepth 65536 in
set_option maxHeartbeats 4000000 in
theorem ef_rm2 (m : MethodId) (o0 : Addr) (p1 : Int32) : entryFrame m #[(.ref o0), (.int p1)] 2 = mkF m 0 #[.val (.ref o0), .val (.int p1)] [] := by first | (simp [entryFrame, mkF, argsToLocals, Value.category, maxLocals]; done) | rfl
theorem d2_0 : decode prog_89_method_1_code 0 = .ok (.aload_n 0, 1) := by decide +kernel
theorem d2_1 : decode prog_89_method_1_code 1 = .ok (.invokespecial 1, 3) := by decide +kernel
theorem d2_4 : decode prog_89_method_1_code 4 = .ok (.aload_n 0, 1) := by decide +kernel
theorem d2_5 : decode prog_89_method_1_code 5 = .ok (.iconst 1, 1) := by decide +kernel
theorem d2_6 : decode prog_89_method_1_code 6 = .ok (.putfield 7, 3) := by decide +kernel
theorem d2_9 : decode prog_89_method_1_code 9 = .ok (.aload_n 0, 1) := by decide +kernel
theorem d2_10 : decode prog_89_method_1_code 10 = .ok (.iconst 1, 1) := by decide +kernel
theorem d2_11 : decode prog_89_method_1_code 11 = .ok (.putfield 13, 3) := by decide +kernel
theorem d2_14 : decode prog_89_method_1_code 14 = .ok (.aload_n 0, 1) := by decide +kernel
theorem d2_15 : decode prog_89_method_1_code 15 = .ok (.iload_n 1, 1) := by decide +kernel
theorem d2_16 : decode prog_89_method_1_code 16 = .ok (.putfield 16, 3) := by decide +kernel
theorem d2_19 : decode prog_89_method_1_code 19 = .ok (.return_, 1) := by decide +kernel
set_option maxRecDepth 65536 in
set_option maxHeartbeats 40000000 in
theorem rm2 (l : Launch) (Z : State) (a0 : Array Value) (hw : ∀ d ∈ tables_1, d.before a0 Z = true) (ws : List Jvm.Cond) (o0 : Addr) (p1 : Int32) (h0 : Heap) (n0 : Nat) (Z0 : n0 ≤ h0.size) (g_o0 : n0 ≤ o0) (F0 : Exa Z h0 o0 "com/example/locattr/locattr/PlaceCounter") (F1 : Fld Z h0 o0 "com/example/locattr/locattr/PlaceCounter" "line" "I" (.int (0 : Int32))) (F2 : Fld Z h0 o0 "com/example/locattr/locattr/PlaceCounter" "column" "I" (.int (0 : Int32))) (F3 : Fld Z h0 o0 "com/example/locattr/locattr/PlaceCounter" "xml11" "Z" (.int (0 : Int32))) (F4 : Fld Z h0 o0 "com/example/locattr/locattr/PlaceCounter" "afterReturn" "Z" (.int (0 : Int32))) (hz : nar .boolean p1 = p1) :
    MetFree l (⟨"com/example/locattr/locattr/PlaceCounter", "<init>", "(Z)V"⟩ : MethodName) (head1 (Jvm.Cond.code (⟨"com/example/locattr/locattr/PlaceCounter", "<init>", "(Z)V"⟩ : MethodName) prog_89_method_1_code 2 none :: ws) ({ frames := 1, cells := 0, slots := 0, locals := 12 } : Room)) (fun a U => a = #[(.ref o0), (.int p1)] ∧ Z.Warmed39 U.vm ∧ U.heap = h0) (fun _ _ _ _ _ => True) (fun _ U o U' => ∃ v L, o = .returned v ∧ Q_rm2 Z o0 p1 h0 n0 v U'.heap L ∧ FrameEnd U o U' L ({ frames := 1, cells := 0, slots := 0, locals := 12 } : Room).cells ({ frames := 1, cells := 0, slots := 0, locals := 12 } : Room).slots) := by
  refine body pn_com_example_locattr_locattr_PlaceCounter__init__2 ?_
  intro p e s m below meth c s₁ hx hby hml hown hnm hret hlk hZ e0 X0
  replace hml : c.maxLocals = 2 := hml
  replace hown : s.vm.findClass "com/example/locattr/locattr/PlaceCounter" = some m.cls := hown
  replace hnm : meth.name = "<init>" := hnm
  replace hret : meth.sig.returnType = none := hret
  have N0 := Fr.nil n0
  rw [ef_rm2]
  obtain ⟨G, hG⟩ : ∃ G, G = End (Q_rm2 Z o0 p1 h0 n0) s ({ frames := 1, cells := 0, slots := 0, locals := 12 } : Room).cells ({ frames := 1, cells := 0, slots := 0, locals := 12 } : Room).slots := ⟨_, rfl⟩
  rw [← hG]
  refine go (u' := s₁.setTop (mkF m 1 #[.val (.ref o0), .val (.int p1)] [(.ref o0)])) (fun _ ks_ => XS.aloadN X0.here hx rfl (hb hby d2_0) rfl rfl ks_) ?_
  obtain ⟨T1, X1, e1, st1⟩ := initO X0 hx hZ hown (ww hw 11 rfl) (ww hw 12 rfl) (ww hw 13 rfl) e0 (g := (mkF m 1 #[.val (.ref o0), .val (.int p1)] [(.ref o0)])) rfl (by rw [hml]; rfl) rfl (hb hby d2_1) (by decide) (W := 0) (by show 2 * 0 + _ ≤ _; exact Nat.le_of_eq rfl) (by decide)
  refine go (u' := T1.setTop (mkF m 4 #[.val (.ref o0), .val (.int p1)] [])) st1 ?_
  refine go (u' := T1.setTop (mkF m 5 #[.val (.ref o0), .val (.int p1)] [(.ref o0)])) (fun _ ks_ => XS.aloadN X1.here hx rfl (hb hby d2_4) rfl rfl ks_) ?_
  refine go (u' := T1.setTop (mkF m 6 #[.val (.ref o0), .val (.int p1)] [(.int (1 : Int32)), (.ref o0)])) (fun _ ks_ => XS.iconst X1.here hx rfl (hb hby d2_5) ks_) ?_
  obtain ⟨T2, h2, X2, e2, W2, st2⟩ := putF X1 hx hZ hown (host := "") (Or.inl (ww hw 14 rfl)) Via.refl e1 F1 F0 (Or.inl (ww hw 15 rfl)) (ww hw 6 rfl) (ty := .int) (by decide) rfl rfl (g := (mkF m 6 #[.val (.ref o0), .val (.int p1)] [(.int (1 : Int32)), (.ref o0)])) rfl rfl (hb hby d2_6)
  have N2 := Fr.snoc X2 N0 g_o0
  have K2 : Keep h0 h2 [o0] := (Keep.refl h0 [o0]).wr W2 (Or.inl (List.mem_of_getElem? (i := 0) rfl))
  have Z2 : n0 ≤ h2.size := Nat.le_trans Z0 (Keep.of_wr W2).1
  have Fa3 : Exa Z h2 o0 "com/example/locattr/locattr/PlaceCounter" := F0.wr W2
  have Fa4 : Fld Z h2 o0 "com/example/locattr/locattr/PlaceCounter" "column" "I" (.int (0 : Int32)) := F2.other W2 (Or.inr (slot_ne (Or.inl (ww hw 17 rfl)) (Or.inl (ww hw 15 rfl)) (by decide) (t := .int) (t' := .int) (by decide) (by decide)))
  have Fa5 : Fld Z h2 o0 "com/example/locattr/locattr/PlaceCounter" "xml11" "Z" (.int (0 : Int32)) := F3.other W2 (Or.inr (slot_ne (Or.inr (ww hw 19 rfl)) (Or.inl (ww hw 15 rfl)) (by decide) (t := .boolean) (t' := .int) (by decide) (by decide)))
  have Fa6 : Fld Z h2 o0 "com/example/locattr/locattr/PlaceCounter" "afterReturn" "Z" (.int (0 : Int32)) := F4.other W2 (Or.inr (slot_ne (Or.inl (ww hw 26 rfl)) (Or.inl (ww hw 15 rfl)) (by decide) (t := .boolean) (t' := .int) (by decide) (by decide)))
  have Fa7 : Fld Z h2 o0 "com/example/locattr/locattr/PlaceCounter" "line" "I" (.int (1 : Int32)) := F1.same W2
  refine go (u' := T2.setTop (mkF m 9 #[.val (.ref o0), .val (.int p1)] [])) st2 ?_
  refine go (u' := T2.setTop (mkF m 10 #[.val (.ref o0), .val (.int p1)] [(.ref o0)])) (fun _ ks_ => XS.aloadN X2.here hx rfl (hb hby d2_9) rfl rfl ks_) ?_
  refine go (u' := T2.setTop (mkF m 11 #[.val (.ref o0), .val (.int p1)] [(.int (1 : Int32)), (.ref o0)])) (fun _ ks_ => XS.iconst X2.here hx rfl (hb hby d2_10) ks_) ?_
  obtain ⟨T8, h8, X8, e8, W8, st8⟩ := putF X2 hx hZ hown (host := "") (Or.inl (ww hw 16 rfl)) Via.refl e2 Fa4 Fa3 (Or.inl (ww hw 17 rfl)) (ww hw 6 rfl) (ty := .int) (by decide) rfl rfl (g := (mkF m 11 #[.val (.ref o0), .val (.int p1)] [(.int (1 : Int32)), (.ref o0)])) rfl rfl (hb hby d2_11)
  have N8 := Fr.snoc X8 N2 g_o0
  have K8 : Keep h0 h8 [o0] := K2.wr W8 (Or.inl (List.mem_of_getElem? (i := 0) rfl))
  have Z8 : n0 ≤ h8.size := Nat.le_trans Z2 (Keep.of_wr W8).1
  have Fa9 : Exa Z h8 o0 "com/example/locattr/locattr/PlaceCounter" := Fa3.wr W8
  have Fa10 : Fld Z h8 o0 "com/example/locattr/locattr/PlaceCounter" "line" "I" (.int (1 : Int32)) := Fa7.other W8 (Or.inr (slot_ne (Or.inl (ww hw 15 rfl)) (Or.inl (ww hw 17 rfl)) (by decide) (t := .int) (t' := .int) (by decide) (by decide)))
  have Fa11 : Fld Z h8 o0 "com/example/locattr/locattr/PlaceCounter" "xml11" "Z" (.int (0 : Int32)) := Fa5.other W8 (Or.inr (slot_ne (Or.inr (ww hw 19 rfl)) (Or.inl (ww hw 17 rfl)) (by decide) (t := .boolean) (t' := .int) (by decide) (by decide)))
  have Fa12 : Fld Z h8 o0 "com/example/locattr/locattr/PlaceCounter" "afterReturn" "Z" (.int (0 : Int32)) := Fa6.other W8 (Or.inr (slot_ne (Or.inl (ww hw 26 rfl)) (Or.inl (ww hw 17 rfl)) (by decide) (t := .boolean) (t' := .int) (by decide) (by decide)))
  have Fa13 : Fld Z h8 o0 "com/example/locattr/locattr/PlaceCounter" "column" "I" (.int (1 : Int32)) := Fa4.same W8
  refine go (u' := T8.setTop (mkF m 14 #[.val (.ref o0), .val (.int p1)] [])) st8 ?_
  refine go (u' := T8.setTop (mkF m 15 #[.val (.ref o0), .val (.int p1)] [(.ref o0)])) (fun _ ks_ => XS.aloadN X8.here hx rfl (hb hby d2_14) rfl rfl ks_) ?_
  refine go (u' := T8.setTop (mkF m 16 #[.val (.ref o0), .val (.int p1)] [(.int p1), (.ref o0)])) (fun _ ks_ => XS.iloadN X8.here hx rfl (hb hby d2_15) rfl  ks_) ?_
  have hn14 : narrow .boolean (.int p1) = .int p1 := congrArg Value.int hz
  have hf14 : fits .boolean (.int p1) = true := hz ▸ fits_nar_bool p1
  obtain ⟨T14, h14, X14, e14, W14, st14⟩ := putFN X8 hx hZ hown (ww hw 18 rfl) Via.refl e8 Fa11 Fa9 (Or.inr ⟨(ww hw 19 rfl), rfl, hnm⟩) (ww hw 6 rfl) (ty := .boolean) (v' := .int p1) (by decide) hn14 hf14 (g := (mkF m 16 #[.val (.ref o0), .val (.int p1)] [(.int p1), (.ref o0)])) rfl rfl (hb hby d2_16)
  have N14 := Fr.snoc X14 N8 g_o0
  have K14 : Keep h0 h14 [o0] := K8.wr W14 (Or.inl (List.mem_of_getElem? (i := 0) rfl))
  have Z14 : n0 ≤ h14.size := Nat.le_trans Z8 (Keep.of_wr W14).1
  have Fa15 : Exa Z h14 o0 "com/example/locattr/locattr/PlaceCounter" := Fa9.wr W14
  have Fa16 : Fld Z h14 o0 "com/example/locattr/locattr/PlaceCounter" "line" "I" (.int (1 : Int32)) := Fa10.other W14 (Or.inr (slot_ne (Or.inl (ww hw 15 rfl)) (Or.inr (ww hw 19 rfl)) (by decide) (t := .int) (t' := .boolean) (by decide) (by decide)))
  have Fa17 : Fld Z h14 o0 "com/example/locattr/locattr/PlaceCounter" "column" "I" (.int (1 : Int32)) := Fa13.other W14 (Or.inr (slot_ne (Or.inl (ww hw 17 rfl)) (Or.inr (ww hw 19 rfl)) (by decide) (t := .int) (t' := .boolean) (by decide) (by decide)))
  have Fa18 : Fld Z h14 o0 "com/example/locattr/locattr/PlaceCounter" "afterReturn" "Z" (.int (0 : Int32)) := Fa12.other W14 (Or.inr (slot_ne (Or.inl (ww hw 26 rfl)) (Or.inr (ww hw 19 rfl)) (by decide) (t := .boolean) (t' := .boolean) (by decide) (by decide)))
  have Fa19 : Fld Z h14 o0 "com/example/locattr/locattr/PlaceCounter" "xml11" "Z" (.int p1) := Fa11.same W14
  refine go (u' := T14.setTop (mkF m 19 #[.val (.ref o0), .val (.int p1)] [])) st14 ?_
  rw [hG]
  refine g0 X14 hx hlk hret (hb hby d2_19) ?_ (Nat.le_of_ble_eq_true rfl) (Nat.le_of_ble_eq_true rfl)
  show Q_rm2 Z o0 p1 h0 n0 (none) T14.heap _
  rw [e14]
  exact ⟨rfl, N14, K14, Fa15, Fa16, Fa17, Fa19, Fa18⟩
def ps_line (p1 : Int32) (li : Int32) (xm : Int32) (ar : Int32) : Int32 := (if p1 = (10 : Int32) then (if p1 = (13 : Int32) then (li + (1 : Int32)) else (if ar = (0 : Int32) then (li + (1 : Int32)) else (if xm = (0 : Int32) then li else (if p1 = (8232 : Int32) then (li + (1 : Int32)) else li)))) else (if xm = (0 : Int32) then (if p1 = (13 : Int32) then (li + (1 : Int32)) else li) else (if p1 = (133 : Int32) then (if p1 = (13 : Int32) then (li + (1 : Int32)) else (if ar = (0 : Int32) then (li + (1 : Int32)) else (if p1 = (8232 : Int32) then (li + (1 : Int32)) else li))) else (if p1 = (13 : Int32) then (li + (1 : Int32)) else (if p1 = (8232 : Int32) then (li + (1 : Int32)) else li)))))
def ps_column (p1 : Int32) (p2 : Int32) (co : Int32) (xm : Int32) (ar : Int32) : Int32 := (if p1 = (10 : Int32) then (if p1 = (13 : Int32) then (1 : Int32) else (if ar = (0 : Int32) then (1 : Int32) else (if xm = (0 : Int32) then co else (if p1 = (8232 : Int32) then (1 : Int32) else co)))) else (if xm = (0 : Int32) then (if p1 = (13 : Int32) then (1 : Int32) else (co + p2)) else (if p1 = (133 : Int32) then (if p1 = (13 : Int32) then (1 : Int32) else (if ar = (0 : Int32) then (1 : Int32) else (if p1 = (8232 : Int32) then (1 : Int32) else co))) else (if p1 = (13 : Int32) then (1 : Int32) else (if p1 = (8232 : Int32) then (1 : Int32) else (co + p2))))))
def ps_afterReturn (p1 : Int32) : Int32 := (if p1 = (13 : Int32) then (1 : Int32) else (0 : Int32))
theorem pn_com_example_locattr_locattr_PlaceCounter_pass_4 : plainFor (⟨"com/example/locattr/locattr/PlaceCounter", "pass", "(II)V"⟩ : MethodName) = true := by first | exact plainFor_of_name (by first | (simp [plainName, overriddenIn]; done) | decide +kernel) | decide +kernel
def Q_rm4 (Z : State) (o0 : Addr) (p1 : Int32) (p2 : Int32) (li : Int32) (co : Int32) (xm : Int32) (ar : Int32) (h0 : Heap) (n0 : Nat) (v : Option Value) (h : Heap) (L : List Loc) : Prop := v = none ∧ Fr n0 L ∧ Keep h0 h [o0] ∧ (Exa Z h o0 "com/example/locattr/locattr/PlaceCounter") ∧ (Fld Z h o0 "com/example/locattr/locattr/PlaceCounter" "line" "I" (.int (ps_line p1 li xm ar))) ∧ (Fld Z h o0 "com/example/locattr/locattr/PlaceCounter" "column" "I" (.int (ps_column p1 p2 co xm ar))) ∧ (Fld Z h o0 "com/example/locattr/locattr/PlaceCounter" "xml11" "Z" (.int xm)) ∧ (Fld Z h o0 "com/example/locattr/locattr/PlaceCounter" "afterReturn" "Z" (.int (ps_afterReturn p1)))
set_option maxRecDepth 65536 in
set_option maxHeartbeats 4000000 in
theorem ef_rm4 (m : MethodId) (o0 : Addr) (p1 : Int32) (p2 : Int32) : entryFrame m #[(.ref o0), (.int p1), (.int p2)] 4 = mkF m 0 #[.val (.ref o0), .val (.int p1), .val (.int p2), .unset] [] := by first | (simp [entryFrame, mkF, argsToLocals, Value.category, maxLocals]; done) | rfl
theorem d4_0 : decode prog_89_method_2_code 0 = .ok (.iload_n 1, 1) := by decide +kernel
theorem d4_1 : decode prog_89_method_2_code 1 = .ok (.bipush 10, 2) := by decide +kernel
theorem d4_3 : decode prog_89_method_2_code 3 = .ok (.if_icmp .eq 17, 3) := by decide +kernel
theorem d4_6 : decode prog_89_method_2_code 6 = .ok (.aload_n 0, 1) := by decide +kernel
theorem d4_7 : decode prog_89_method_2_code 7 = .ok (.getfield 16, 3) := by decide +kernel
theorem d4_10 : decode prog_89_method_2_code 10 = .ok (.ifCond .eq 14, 3) := by decide +kernel
theorem d4_13 : decode prog_89_method_2_code 13 = .ok (.iload_n 1, 1) := by decide +kernel
theorem d4_14 : decode prog_89_method_2_code 14 = .ok (.sipush 133, 3) := by decide +kernel
theorem d4_17 : decode prog_89_method_2_code 17 = .ok (.if_icmp .ne 7, 3) := by decide +kernel
theorem d4_20 : decode prog_89_method_2_code 20 = .ok (.iconst 1, 1) := by decide +kernel
theorem d4_21 : decode prog_89_method_2_code 21 = .ok (.goto 4, 3) := by decide +kernel
theorem d4_24 : decode prog_89_method_2_code 24 = .ok (.iconst 0, 1) := by decide +kernel
theorem d4_25 : decode prog_89_method_2_code 25 = .ok (.istore_n 3, 1) := by decide +kernel
theorem d4_26 : decode prog_89_method_2_code 26 = .ok (.iload_n 1, 1) := by decide +kernel
theorem d4_27 : decode prog_89_method_2_code 27 = .ok (.bipush 13, 2) := by decide +kernel
theorem d4_29 : decode prog_89_method_2_code 29 = .ok (.if_icmp .eq 28, 3) := by decide +kernel
theorem d4_32 : decode prog_89_method_2_code 32 = .ok (.iload_n 3, 1) := by decide +kernel
theorem d4_33 : decode prog_89_method_2_code 33 = .ok (.ifCond .eq 10, 3) := by decide +kernel
theorem d4_36 : decode prog_89_method_2_code 36 = .ok (.aload_n 0, 1) := by decide +kernel
theorem d4_37 : decode prog_89_method_2_code 37 = .ok (.getfield 20, 3) := by decide +kernel
theorem d4_40 : decode prog_89_method_2_code 40 = .ok (.ifCond .eq 17, 3) := by decide +kernel
theorem d4_43 : decode prog_89_method_2_code 43 = .ok (.aload_n 0, 1) := by decide +kernel
theorem d4_44 : decode prog_89_method_2_code 44 = .ok (.getfield 16, 3) := by decide +kernel
theorem d4_47 : decode prog_89_method_2_code 47 = .ok (.ifCond .eq 28, 3) := by decide +kernel
theorem d4_50 : decode prog_89_method_2_code 50 = .ok (.iload_n 1, 1) := by decide +kernel
theorem d4_51 : decode prog_89_method_2_code 51 = .ok (.sipush 8232, 3) := by decide +kernel
theorem d4_54 : decode prog_89_method_2_code 54 = .ok (.if_icmp .ne 21, 3) := by decide +kernel
theorem d4_57 : decode prog_89_method_2_code 57 = .ok (.aload_n 0, 1) := by decide +kernel
theorem d4_58 : decode prog_89_method_2_code 58 = .ok (.dup, 1) := by decide +kernel
theorem d4_59 : decode prog_89_method_2_code 59 = .ok (.getfield 7, 3) := by decide +kernel
theorem d4_62 : decode prog_89_method_2_code 62 = .ok (.iconst 1, 1) := by decide +kernel
theorem d4_63 : decode prog_89_method_2_code 63 = .ok (.iadd, 1) := by decide +kernel
theorem d4_64 : decode prog_89_method_2_code 64 = .ok (.putfield 7, 3) := by decide +kernel
theorem d4_67 : decode prog_89_method_2_code 67 = .ok (.aload_n 0, 1) := by decide +kernel
theorem d4_68 : decode prog_89_method_2_code 68 = .ok (.iconst 1, 1) := by decide +kernel
theorem d4_69 : decode prog_89_method_2_code 69 = .ok (.putfield 13, 3) := by decide +kernel
theorem d4_72 : decode prog_89_method_2_code 72 = .ok (.goto 17, 3) := by decide +kernel
theorem d4_75 : decode prog_89_method_2_code 75 = .ok (.iload_n 3, 1) := by decide +kernel
theorem d4_76 : decode prog_89_method_2_code 76 = .ok (.ifCond .ne 13, 3) := by decide +kernel
theorem d4_79 : decode prog_89_method_2_code 79 = .ok (.aload_n 0, 1) := by decide +kernel
theorem d4_80 : decode prog_89_method_2_code 80 = .ok (.dup, 1) := by decide +kernel
theorem d4_81 : decode prog_89_method_2_code 81 = .ok (.getfield 13, 3) := by decide +kernel
theorem d4_84 : decode prog_89_method_2_code 84 = .ok (.iload_n 2, 1) := by decide +kernel
theorem d4_85 : decode prog_89_method_2_code 85 = .ok (.iadd, 1) := by decide +kernel
theorem d4_86 : decode prog_89_method_2_code 86 = .ok (.putfield 13, 3) := by decide +kernel
theorem d4_89 : decode prog_89_method_2_code 89 = .ok (.aload_n 0, 1) := by decide +kernel
theorem d4_90 : decode prog_89_method_2_code 90 = .ok (.iload_n 1, 1) := by decide +kernel
theorem d4_91 : decode prog_89_method_2_code 91 = .ok (.bipush 13, 2) := by decide +kernel
theorem d4_93 : decode prog_89_method_2_code 93 = .ok (.if_icmp .ne 7, 3) := by decide +kernel
theorem d4_96 : decode prog_89_method_2_code 96 = .ok (.iconst 1, 1) := by decide +kernel
theorem d4_97 : decode prog_89_method_2_code 97 = .ok (.goto 4, 3) := by decide +kernel
theorem d4_100 : decode prog_89_method_2_code 100 = .ok (.iconst 0, 1) := by decide +kernel
theorem d4_101 : decode prog_89_method_2_code 101 = .ok (.putfield 20, 3) := by decide +kernel
theorem d4_104 : decode prog_89_method_2_code 104 = .ok (.return_, 1) := by decide +kernel
set_option maxRecDepth 65536 in
set_option maxHeartbeats 40000000 in
theorem rm4 (l : Launch) (Z : State) (a0 : Array Value) (hw : ∀ d ∈ tables_1, d.before a0 Z = true) (ws : List Jvm.Cond) (o0 : Addr) (p1 : Int32) (p2 : Int32) (li : Int32) (co : Int32) (xm : Int32) (ar : Int32) (h0 : Heap) (n0 : Nat) (Z0 : n0 ≤ h0.size) (g_o0 : n0 ≤ o0) (F0 : Exa Z h0 o0 "com/example/locattr/locattr/PlaceCounter") (F1 : Fld Z h0 o0 "com/example/locattr/locattr/PlaceCounter" "line" "I" (.int li)) (F2 : Fld Z h0 o0 "com/example/locattr/locattr/PlaceCounter" "column" "I" (.int co)) (F3 : Fld Z h0 o0 "com/example/locattr/locattr/PlaceCounter" "xml11" "Z" (.int xm)) (F4 : Fld Z h0 o0 "com/example/locattr/locattr/PlaceCounter" "afterReturn" "Z" (.int ar)) :
    MetFree l (⟨"com/example/locattr/locattr/PlaceCounter", "pass", "(II)V"⟩ : MethodName) (head1 (Jvm.Cond.code (⟨"com/example/locattr/locattr/PlaceCounter", "pass", "(II)V"⟩ : MethodName) prog_89_method_2_code 4 none :: ws) ({ frames := 0, cells := 0, slots := 0, locals := 0 } : Room)) (fun a U => a = #[(.ref o0), (.int p1), (.int p2)] ∧ Z.Warmed39 U.vm ∧ U.heap = h0) (fun _ _ _ _ _ => True) (fun _ U o U' => ∃ v L, o = .returned v ∧ Q_rm4 Z o0 p1 p2 li co xm ar h0 n0 v U'.heap L ∧ FrameEnd U o U' L ({ frames := 0, cells := 0, slots := 0, locals := 0 } : Room).cells ({ frames := 0, cells := 0, slots := 0, locals := 0 } : Room).slots) := by
  refine body pn_com_example_locattr_locattr_PlaceCounter_pass_4 ?_
  intro p e s m below meth c s₁ hx hby hml hown hnm hret hlk hZ e0 X0
  replace hml : c.maxLocals = 4 := hml
  replace hown : s.vm.findClass "com/example/locattr/locattr/PlaceCounter" = some m.cls := hown
  replace hnm : meth.name = "pass" := hnm
  replace hret : meth.sig.returnType = none := hret
  have N0 := Fr.nil n0
  rw [ef_rm4]
  obtain ⟨G, hG⟩ : ∃ G, G = End (Q_rm4 Z o0 p1 p2 li co xm ar h0 n0) s ({ frames := 0, cells := 0, slots := 0, locals := 0 } : Room).cells ({ frames := 0, cells := 0, slots := 0, locals := 0 } : Room).slots := ⟨_, rfl⟩
  rw [← hG]
  refine go (u' := s₁.setTop (mkF m 1 #[.val (.ref o0), .val (.int p1), .val (.int p2), .unset] [(.int p1)])) (fun _ ks_ => XS.iloadN X0.here hx rfl (hb hby d4_0) rfl  ks_) ?_
  refine go (u' := s₁.setTop (mkF m 3 #[.val (.ref o0), .val (.int p1), .val (.int p2), .unset] [(.int (10 : Int32)), (.int p1)])) (fun _ ks_ => XS.bipush X0.here hx rfl (hb hby d4_1) ks_) ?_
  by_cases c3_1 : p1 = (10 : Int32)
  ·
    refine go (u' := s₁.setTop (mkF m 20 #[.val (.ref o0), .val (.int p1), .val (.int p2), .unset] [])) (fun _ ks_ => XS.icmpYes X0.here hx rfl (pc0 := 3) (pc' := 20) rfl (hb hby d4_3) rfl (teq c3_1).1 (by decide) (by decide) ks_) ?_
    refine go (u' := s₁.setTop (mkF m 21 #[.val (.ref o0), .val (.int p1), .val (.int p2), .unset] [(.int (1 : Int32))])) (fun _ ks_ => XS.iconst X0.here hx rfl (hb hby d4_20) ks_) ?_
    refine go (u' := s₁.setTop (mkF m 25 #[.val (.ref o0), .val (.int p1), .val (.int p2), .unset] [(.int (1 : Int32))])) (fun _ ks_ => XS.goto X0.here hx rfl (pc0 := 21) (pc' := 25) rfl (hb hby d4_21) (by decide) (by decide) ks_) ?_
    refine go (u' := s₁.setTop (mkF m 26 #[.val (.ref o0), .val (.int p1), .val (.int p2), .val (.int (1 : Int32))] [])) (fun _ ks_ => XS.istoreN X0.here hx rfl (hb hby d4_25) rfl  (l' := #[.val (.ref o0), .val (.int p1), .val (.int p2), .val (.int (1 : Int32))]) rfl ks_) ?_
    refine go (u' := s₁.setTop (mkF m 27 #[.val (.ref o0), .val (.int p1), .val (.int p2), .val (.int (1 : Int32))] [(.int p1)])) (fun _ ks_ => XS.iloadN X0.here hx rfl (hb hby d4_26) rfl  ks_) ?_
    refine go (u' := s₁.setTop (mkF m 29 #[.val (.ref o0), .val (.int p1), .val (.int p2), .val (.int (1 : Int32))] [(.int (13 : Int32)), (.int p1)])) (fun _ ks_ => XS.bipush X0.here hx rfl (hb hby d4_27) ks_) ?_
    by_cases c29_2 : p1 = (13 : Int32)
    ·
      refine go (u' := s₁.setTop (mkF m 57 #[.val (.ref o0), .val (.int p1), .val (.int p2), .val (.int (1 : Int32))] [])) (fun _ ks_ => XS.icmpYes X0.here hx rfl (pc0 := 29) (pc' := 57) rfl (hb hby d4_29) rfl (teq c29_2).1 (by decide) (by decide) ks_) ?_
      refine go (u' := s₁.setTop (mkF m 58 #[.val (.ref o0), .val (.int p1), .val (.int p2), .val (.int (1 : Int32))] [(.ref o0)])) (fun _ ks_ => XS.aloadN X0.here hx rfl (hb hby d4_57) rfl rfl ks_) ?_
      refine go (u' := s₁.setTop (mkF m 59 #[.val (.ref o0), .val (.int p1), .val (.int p2), .val (.int (1 : Int32))] [(.ref o0), (.ref o0)])) (fun _ ks_ => XS.dup X0.here hx rfl (hb hby d4_58) rfl rfl ks_) ?_
      obtain ⟨T1, X1, e1, st1⟩ := getF X0 hx hZ hown (host := "") (Or.inl (ww hw 14 rfl)) Via.refl e0 F1 (g := (mkF m 59 #[.val (.ref o0), .val (.int p1), .val (.int p2), .val (.int (1 : Int32))] [(.ref o0), (.ref o0)])) rfl rfl (hb hby d4_59)
      refine go (u' := T1.setTop (mkF m 62 #[.val (.ref o0), .val (.int p1), .val (.int p2), .val (.int (1 : Int32))] [(.int li), (.ref o0)])) st1 ?_
      refine go (u' := T1.setTop (mkF m 63 #[.val (.ref o0), .val (.int p1), .val (.int p2), .val (.int (1 : Int32))] [(.int (1 : Int32)), (.int li), (.ref o0)])) (fun _ ks_ => XS.iconst X1.here hx rfl (hb hby d4_62) ks_) ?_
      refine go (u' := T1.setTop (mkF m 64 #[.val (.ref o0), .val (.int p1), .val (.int p2), .val (.int (1 : Int32))] [(.int (li + (1 : Int32))), (.ref o0)])) (fun _ ks_ => XS.iadd X1.here hx rfl (hb hby d4_63) rfl ks_) ?_
      obtain ⟨T2, h2, X2, e2, W2, st2⟩ := putF X1 hx hZ hown (host := "") (Or.inl (ww hw 14 rfl)) Via.refl e1 F1 F0 (Or.inl (ww hw 15 rfl)) (ww hw 6 rfl) (ty := .int) (by decide) rfl rfl (g := (mkF m 64 #[.val (.ref o0), .val (.int p1), .val (.int p2), .val (.int (1 : Int32))] [(.int (li + (1 : Int32))), (.ref o0)])) rfl rfl (hb hby d4_64)
      have N2 := Fr.snoc X2 N0 g_o0
      have K2 : Keep h0 h2 [o0] := (Keep.refl h0 [o0]).wr W2 (Or.inl (List.mem_of_getElem? (i := 0) rfl))
      have Z2 : n0 ≤ h2.size := Nat.le_trans Z0 (Keep.of_wr W2).1
      have Fa3 : Exa Z h2 o0 "com/example/locattr/locattr/PlaceCounter" := F0.wr W2
      have Fa4 : Fld Z h2 o0 "com/example/locattr/locattr/PlaceCounter" "column" "I" (.int co) := F2.other W2 (Or.inr (slot_ne (Or.inl (ww hw 17 rfl)) (Or.inl (ww hw 15 rfl)) (by decide) (t := .int) (t' := .int) (by decide) (by decide)))
      have Fa5 : Fld Z h2 o0 "com/example/locattr/locattr/PlaceCounter" "xml11" "Z" (.int xm) := F3.other W2 (Or.inr (slot_ne (Or.inr (ww hw 19 rfl)) (Or.inl (ww hw 15 rfl)) (by decide) (t := .boolean) (t' := .int) (by decide) (by decide)))
      have Fa6 : Fld Z h2 o0 "com/example/locattr/locattr/PlaceCounter" "afterReturn" "Z" (.int ar) := F4.other W2 (Or.inr (slot_ne (Or.inl (ww hw 26 rfl)) (Or.inl (ww hw 15 rfl)) (by decide) (t := .boolean) (t' := .int) (by decide) (by decide)))
      have Fa7 : Fld Z h2 o0 "com/example/locattr/locattr/PlaceCounter" "line" "I" (.int (li + (1 : Int32))) := F1.same W2
      refine go (u' := T2.setTop (mkF m 67 #[.val (.ref o0), .val (.int p1), .val (.int p2), .val (.int (1 : Int32))] [])) st2 ?_
      refine go (u' := T2.setTop (mkF m 68 #[.val (.ref o0), .val (.int p1), .val (.int p2), .val (.int (1 : Int32))] [(.ref o0)])) (fun _ ks_ => XS.aloadN X2.here hx rfl (hb hby d4_67) rfl rfl ks_) ?_
      refine go (u' := T2.setTop (mkF m 69 #[.val (.ref o0), .val (.int p1), .val (.int p2), .val (.int (1 : Int32))] [(.int (1 : Int32)), (.ref o0)])) (fun _ ks_ => XS.iconst X2.here hx rfl (hb hby d4_68) ks_) ?_
      obtain ⟨T8, h8, X8, e8, W8, st8⟩ := putF X2 hx hZ hown (host := "") (Or.inl (ww hw 16 rfl)) Via.refl e2 Fa4 Fa3 (Or.inl (ww hw 17 rfl)) (ww hw 6 rfl) (ty := .int) (by decide) rfl rfl (g := (mkF m 69 #[.val (.ref o0), .val (.int p1), .val (.int p2), .val (.int (1 : Int32))] [(.int (1 : Int32)), (.ref o0)])) rfl rfl (hb hby d4_69)
      have N8 := Fr.snoc X8 N2 g_o0
      have K8 : Keep h0 h8 [o0] := K2.wr W8 (Or.inl (List.mem_of_getElem? (i := 0) rfl))
      have Z8 : n0 ≤ h8.size := Nat.le_trans Z2 (Keep.of_wr W8).1
      have Fa9 : Exa Z h8 o0 "com/example/locattr/locattr/PlaceCounter" := Fa3.wr W8
      have Fa10 : Fld Z h8 o0 "com/example/locattr/locattr/PlaceCounter" "line" "I" (.int (li + (1 : Int32))) := Fa7.other W8 (Or.inr (slot_ne (Or.inl (ww hw 15 rfl)) (Or.inl (ww hw 17 rfl)) (by decide) (t := .int) (t' := .int) (by decide) (by decide)))
      have Fa11 : Fld Z h8 o0 "com/example/locattr/locattr/PlaceCounter" "xml11" "Z" (.int xm) := Fa5.other W8 (Or.inr (slot_ne (Or.inr (ww hw 19 rfl)) (Or.inl (ww hw 17 rfl)) (by decide) (t := .boolean) (t' := .int) (by decide) (by decide)))
      have Fa12 : Fld Z h8 o0 "com/example/locattr/locattr/PlaceCounter" "afterReturn" "Z" (.int ar) := Fa6.other W8 (Or.inr (slot_ne (Or.inl (ww hw 26 rfl)) (Or.inl (ww hw 17 rfl)) (by decide) (t := .boolean) (t' := .int) (by decide) (by decide)))
      have Fa13 : Fld Z h8 o0 "com/example/locattr/locattr/PlaceCounter" "column" "I" (.int (1 : Int32)) := Fa4.same W8
      refine go (u' := T8.setTop (mkF m 72 #[.val (.ref o0), .val (.int p1), .val (.int p2), .val (.int (1 : Int32))] [])) st8 ?_
      refine go (u' := T8.setTop (mkF m 89 #[.val (.ref o0), .val (.int p1), .val (.int p2), .val (.int (1 : Int32))] [])) (fun _ ks_ => XS.goto X8.here hx rfl (pc0 := 72) (pc' := 89) rfl (hb hby d4_72) (by decide) (by decide) ks_) ?_
      refine go (u' := T8.setTop (mkF m 90 #[.val (.ref o0), .val (.int p1), .val (.int p2), .val (.int (1 : Int32))] [(.ref o0)])) (fun _ ks_ => XS.aloadN X8.here hx rfl (hb hby d4_89) rfl rfl ks_) ?_
      refine go (u' := T8.setTop (mkF m 91 #[.val (.ref o0), .val (.int p1), .val (.int p2), .val (.int (1 : Int32))] [(.int p1), (.ref o0)])) (fun _ ks_ => XS.iloadN X8.here hx rfl (hb hby d4_90) rfl  ks_) ?_
      refine go (u' := T8.setTop (mkF m 93 #[.val (.ref o0), .val (.int p1), .val (.int p2), .val (.int (1 : Int32))] [(.int (13 : Int32)), (.int p1), (.ref o0)])) (fun _ ks_ => XS.bipush X8.here hx rfl (hb hby d4_91) ks_) ?_
      refine go (u' := T8.setTop (mkF m 96 #[.val (.ref o0), .val (.int p1), .val (.int p2), .val (.int (1 : Int32))] [(.ref o0)])) (fun _ ks_ => XS.icmpNo X8.here hx rfl (hb hby d4_93) rfl (teq c29_2).2 ks_) ?_
      refine go (u' := T8.setTop (mkF m 97 #[.val (.ref o0), .val (.int p1), .val (.int p2), .val (.int (1 : Int32))] [(.int (1 : Int32)), (.ref o0)])) (fun _ ks_ => XS.iconst X8.here hx rfl (hb hby d4_96) ks_) ?_
      refine go (u' := T8.setTop (mkF m 101 #[.val (.ref o0), .val (.int p1), .val (.int p2), .val (.int (1 : Int32))] [(.int (1 : Int32)), (.ref o0)])) (fun _ ks_ => XS.goto X8.here hx rfl (pc0 := 97) (pc' := 101) rfl (hb hby d4_97) (by decide) (by decide) ks_) ?_
      have hn14 : narrow .boolean (.int (1 : Int32)) = .int (1 : Int32) := rfl
      have hf14 : fits .boolean (.int (1 : Int32)) = true := rfl
      obtain ⟨T14, h14, X14, e14, W14, st14⟩ := putFN X8 hx hZ hown (ww hw 25 rfl) Via.refl e8 Fa12 Fa9 (Or.inl (ww hw 26 rfl)) (ww hw 6 rfl) (ty := .boolean) (v' := .int (1 : Int32)) (by decide) hn14 hf14 (g := (mkF m 101 #[.val (.ref o0), .val (.int p1), .val (.int p2), .val (.int (1 : Int32))] [(.int (1 : Int32)), (.ref o0)])) rfl rfl (hb hby d4_101)
      have N14 := Fr.snoc X14 N8 g_o0
      have K14 : Keep h0 h14 [o0] := K8.wr W14 (Or.inl (List.mem_of_getElem? (i := 0) rfl))
      have Z14 : n0 ≤ h14.size := Nat.le_trans Z8 (Keep.of_wr W14).1
      have Fa15 : Exa Z h14 o0 "com/example/locattr/locattr/PlaceCounter" := Fa9.wr W14
      have Fa16 : Fld Z h14 o0 "com/example/locattr/locattr/PlaceCounter" "line" "I" (.int (li + (1 : Int32))) := Fa10.other W14 (Or.inr (slot_ne (Or.inl (ww hw 15 rfl)) (Or.inl (ww hw 26 rfl)) (by decide) (t := .int) (t' := .boolean) (by decide) (by decide)))
      have Fa17 : Fld Z h14 o0 "com/example/locattr/locattr/PlaceCounter" "column" "I" (.int (1 : Int32)) := Fa13.other W14 (Or.inr (slot_ne (Or.inl (ww hw 17 rfl)) (Or.inl (ww hw 26 rfl)) (by decide) (t := .int) (t' := .boolean) (by decide) (by decide)))
      have Fa18 : Fld Z h14 o0 "com/example/locattr/locattr/PlaceCounter" "xml11" "Z" (.int xm) := Fa11.other W14 (Or.inr (slot_ne (Or.inr (ww hw 19 rfl)) (Or.inl (ww hw 26 rfl)) (by decide) (t := .boolean) (t' := .boolean) (by decide) (by decide)))
      have Fa19 : Fld Z h14 o0 "com/example/locattr/locattr/PlaceCounter" "afterReturn" "Z" (.int (1 : Int32)) := Fa12.same W14
      refine go (u' := T14.setTop (mkF m 104 #[.val (.ref o0), .val (.int p1), .val (.int p2), .val (.int (1 : Int32))] [])) st14 ?_
      rw [hG]
      refine g0 X14 hx hlk hret (hb hby d4_104) ?_ (Nat.le_of_ble_eq_true rfl) (Nat.le_of_ble_eq_true rfl)
      show Q_rm4 Z o0 p1 p2 li co xm ar h0 n0 (none) T14.heap _
      rw [e14]
      exact ⟨rfl, N14, K14, Fa15, (own_Fto Fa16 (congrArg Value.int (show (li + (1 : Int32)) = (if p1 = (10 : Int32) then (if p1 = (13 : Int32) then (li + (1 : Int32)) else (if ar = (0 : Int32) then (li + (1 : Int32)) else (if xm = (0 : Int32) then li else (if p1 = (8232 : Int32) then (li + (1 : Int32)) else li)))) else (if xm = (0 : Int32) then (if p1 = (13 : Int32) then (li + (1 : Int32)) else li) else (if p1 = (133 : Int32) then (if p1 = (13 : Int32) then (li + (1 : Int32)) else (if ar = (0 : Int32) then (li + (1 : Int32)) else (if p1 = (8232 : Int32) then (li + (1 : Int32)) else li))) else (if p1 = (13 : Int32) then (li + (1 : Int32)) else (if p1 = (8232 : Int32) then (li + (1 : Int32)) else li))))) from (((if_pos c3_1).trans (if_pos c29_2))).symm))), (own_Fto Fa17 (congrArg Value.int (show (1 : Int32) = (if p1 = (10 : Int32) then (if p1 = (13 : Int32) then (1 : Int32) else (if ar = (0 : Int32) then (1 : Int32) else (if xm = (0 : Int32) then co else (if p1 = (8232 : Int32) then (1 : Int32) else co)))) else (if xm = (0 : Int32) then (if p1 = (13 : Int32) then (1 : Int32) else (co + p2)) else (if p1 = (133 : Int32) then (if p1 = (13 : Int32) then (1 : Int32) else (if ar = (0 : Int32) then (1 : Int32) else (if p1 = (8232 : Int32) then (1 : Int32) else co))) else (if p1 = (13 : Int32) then (1 : Int32) else (if p1 = (8232 : Int32) then (1 : Int32) else (co + p2)))))) from (((if_pos c3_1).trans (if_pos c29_2))).symm))), Fa18, (own_Fto Fa19 (congrArg Value.int (show (1 : Int32) = (if p1 = (13 : Int32) then (1 : Int32) else (0 : Int32)) from ((if_pos c29_2)).symm)))⟩
    ·
      refine go (u' := s₁.setTop (mkF m 32 #[.val (.ref o0), .val (.int p1), .val (.int p2), .val (.int (1 : Int32))] [])) (fun _ ks_ => XS.icmpNo X0.here hx rfl (hb hby d4_29) rfl (feq c29_2).1 ks_) ?_
      refine go (u' := s₁.setTop (mkF m 33 #[.val (.ref o0), .val (.int p1), .val (.int p2), .val (.int (1 : Int32))] [(.int (1 : Int32))])) (fun _ ks_ => XS.iloadN X0.here hx rfl (hb hby d4_32) rfl  ks_) ?_
      refine go (u' := s₁.setTop (mkF m 36 #[.val (.ref o0), .val (.int p1), .val (.int p2), .val (.int (1 : Int32))] [])) (fun _ ks_ => XS.ifNo X0.here hx rfl (hb hby d4_33) rfl ((if0 _ _).trans (feq (show ¬ ((1 : Int32) = (0 : Int32)) from (by decide))).1) ks_) ?_
      refine go (u' := s₁.setTop (mkF m 37 #[.val (.ref o0), .val (.int p1), .val (.int p2), .val (.int (1 : Int32))] [(.ref o0)])) (fun _ ks_ => XS.aloadN X0.here hx rfl (hb hby d4_36) rfl rfl ks_) ?_
      obtain ⟨T20, X20, e20, st20⟩ := getF X0 hx hZ hown (host := "") (Or.inl (ww hw 25 rfl)) Via.refl e0 F4 (g := (mkF m 37 #[.val (.ref o0), .val (.int p1), .val (.int p2), .val (.int (1 : Int32))] [(.ref o0)])) rfl rfl (hb hby d4_37)
      refine go (u' := T20.setTop (mkF m 40 #[.val (.ref o0), .val (.int p1), .val (.int p2), .val (.int (1 : Int32))] [(.int ar)])) st20 ?_
      by_cases c40_3 : ar = (0 : Int32)
      ·
        refine go (u' := T20.setTop (mkF m 57 #[.val (.ref o0), .val (.int p1), .val (.int p2), .val (.int (1 : Int32))] [])) (fun _ ks_ => XS.ifYes X20.here hx rfl (pc0 := 40) (pc' := 57) rfl (hb hby d4_40) rfl ((if0 _ _).trans (teq c40_3).1) (by decide) (by decide) ks_) ?_
        refine go (u' := T20.setTop (mkF m 58 #[.val (.ref o0), .val (.int p1), .val (.int p2), .val (.int (1 : Int32))] [(.ref o0)])) (fun _ ks_ => XS.aloadN X20.here hx rfl (hb hby d4_57) rfl rfl ks_) ?_
        refine go (u' := T20.setTop (mkF m 59 #[.val (.ref o0), .val (.int p1), .val (.int p2), .val (.int (1 : Int32))] [(.ref o0), (.ref o0)])) (fun _ ks_ => XS.dup X20.here hx rfl (hb hby d4_58) rfl rfl ks_) ?_
        obtain ⟨T21, X21, e21, st21⟩ := getF X20 hx hZ hown (host := "") (Or.inl (ww hw 14 rfl)) Via.refl e20 F1 (g := (mkF m 59 #[.val (.ref o0), .val (.int p1), .val (.int p2), .val (.int (1 : Int32))] [(.ref o0), (.ref o0)])) rfl rfl (hb hby d4_59)
        refine go (u' := T21.setTop (mkF m 62 #[.val (.ref o0), .val (.int p1), .val (.int p2), .val (.int (1 : Int32))] [(.int li), (.ref o0)])) st21 ?_
        refine go (u' := T21.setTop (mkF m 63 #[.val (.ref o0), .val (.int p1), .val (.int p2), .val (.int (1 : Int32))] [(.int (1 : Int32)), (.int li), (.ref o0)])) (fun _ ks_ => XS.iconst X21.here hx rfl (hb hby d4_62) ks_) ?_
        refine go (u' := T21.setTop (mkF m 64 #[.val (.ref o0), .val (.int p1), .val (.int p2), .val (.int (1 : Int32))] [(.int (li + (1 : Int32))), (.ref o0)])) (fun _ ks_ => XS.iadd X21.here hx rfl (hb hby d4_63) rfl ks_) ?_
        obtain ⟨T22, h22, X22, e22, W22, st22⟩ := putF X21 hx hZ hown (host := "") (Or.inl (ww hw 14 rfl)) Via.refl e21 F1 F0 (Or.inl (ww hw 15 rfl)) (ww hw 6 rfl) (ty := .int) (by decide) rfl rfl (g := (mkF m 64 #[.val (.ref o0), .val (.int p1), .val (.int p2), .val (.int (1 : Int32))] [(.int (li + (1 : Int32))), (.ref o0)])) rfl rfl (hb hby d4_64)
        have N22 := Fr.snoc X22 N0 g_o0
        have K22 : Keep h0 h22 [o0] := (Keep.refl h0 [o0]).wr W22 (Or.inl (List.mem_of_getElem? (i := 0) rfl))
        have Z22 : n0 ≤ h22.size := Nat.le_trans Z0 (Keep.of_wr W22).1
        have Fa23 : Exa Z h22 o0 "com/example/locattr/locattr/PlaceCounter" := F0.wr W22
        have Fa24 : Fld Z h22 o0 "com/example/locattr/locattr/PlaceCounter" "column" "I" (.int co) := F2.other W22 (Or.inr (slot_ne (Or.inl (ww hw 17 rfl)) (Or.inl (ww hw 15 rfl)) (by decide) (t := .int) (t' := .int) (by decide) (by decide)))
        have Fa25 : Fld Z h22 o0 "com/example/locattr/locattr/PlaceCounter" "xml11" "Z" (.int xm) := F3.other W22 (Or.inr (slot_ne (Or.inr (ww hw 19 rfl)) (Or.inl (ww hw 15 rfl)) (by decide) (t := .boolean) (t' := .int) (by decide) (by decide)))
        have Fa26 : Fld Z h22 o0 "com/example/locattr/locattr/PlaceCounter" "afterReturn" "Z" (.int ar) := F4.other W22 (Or.inr (slot_ne (Or.inl (ww hw 26 rfl)) (Or.inl (ww hw 15 rfl)) (by decide) (t := .boolean) (t' := .int) (by decide) (by decide)))
        have Fa27 : Fld Z h22 o0 "com/example/locattr/locattr/PlaceCounter" "line" "I" (.int (li + (1 : Int32))) := F1.same W22
        refine go (u' := T22.setTop (mkF m 67 #[.val (.ref o0), .val (.int p1), .val (.int p2), .val (.int (1 : Int32))] [])) st22 ?_
        refine go (u' := T22.setTop (mkF m 68 #[.val (.ref o0), .val (.int p1), .val (.int p2), .val (.int (1 : Int32))] [(.ref o0)])) (fun _ ks_ => XS.aloadN X22.here hx rfl (hb hby d4_67) rfl rfl ks_) ?_
        refine go (u' := T22.setTop (mkF m 69 #[.val (.ref o0), .val (.int p1), .val (.int p2), .val (.int (1 : Int32))] [(.int (1 : Int32)), (.ref o0)])) (fun _ ks_ => XS.iconst X22.here hx rfl (hb hby d4_68) ks_) ?_
        obtain ⟨T28, h28, X28, e28, W28, st28⟩ := putF X22 hx hZ hown (host := "") (Or.inl (ww hw 16 rfl)) Via.refl e22 Fa24 Fa23 (Or.inl (ww hw 17 rfl)) (ww hw 6 rfl) (ty := .int) (by decide) rfl rfl (g := (mkF m 69 #[.val (.ref o0), .val (.int p1), .val (.int p2), .val (.int (1 : Int32))] [(.int (1 : Int32)), (.ref o0)])) rfl rfl (hb hby d4_69)
        have N28 := Fr.snoc X28 N22 g_o0
        have K28 : Keep h0 h28 [o0] := K22.wr W28 (Or.inl (List.mem_of_getElem? (i := 0) rfl))
        have Z28 : n0 ≤ h28.size := Nat.le_trans Z22 (Keep.of_wr W28).1
        have Fa29 : Exa Z h28 o0 "com/example/locattr/locattr/PlaceCounter" := Fa23.wr W28
        have Fa30 : Fld Z h28 o0 "com/example/locattr/locattr/PlaceCounter" "line" "I" (.int (li + (1 : Int32))) := Fa27.other W28 (Or.inr (slot_ne (Or.inl (ww hw 15 rfl)) (Or.inl (ww hw 17 rfl)) (by decide) (t := .int) (t' := .int) (by decide) (by decide)))
        have Fa31 : Fld Z h28 o0 "com/example/locattr/locattr/PlaceCounter" "xml11" "Z" (.int xm) := Fa25.other W28 (Or.inr (slot_ne (Or.inr (ww hw 19 rfl)) (Or.inl (ww hw 17 rfl)) (by decide) (t := .boolean) (t' := .int) (by decide) (by decide)))
        have Fa32 : Fld Z h28 o0 "com/example/locattr/locattr/PlaceCounter" "afterReturn" "Z" (.int ar) := Fa26.other W28 (Or.inr (slot_ne (Or.inl (ww hw 26 rfl)) (Or.inl (ww hw 17 rfl)) (by decide) (t := .boolean) (t' := .int) (by decide) (by decide)))
        have Fa33 : Fld Z h28 o0 "com/example/locattr/locattr/PlaceCounter" "column" "I" (.int (1 : Int32)) := Fa24.same W28
        refine go (u' := T28.setTop (mkF m 72 #[.val (.ref o0), .val (.int p1), .val (.int p2), .val (.int (1 : Int32))] [])) st28 ?_
        refine go (u' := T28.setTop (mkF m 89 #[.val (.ref o0), .val (.int p1), .val (.int p2), .val (.int (1 : Int32))] [])) (fun _ ks_ => XS.goto X28.here hx rfl (pc0 := 72) (pc' := 89) rfl (hb hby d4_72) (by decide) (by decide) ks_) ?_
        refine go (u' := T28.setTop (mkF m 90 #[.val (.ref o0), .val (.int p1), .val (.int p2), .val (.int (1 : Int32))] [(.ref o0)])) (fun _ ks_ => XS.aloadN X28.here hx rfl (hb hby d4_89) rfl rfl ks_) ?_
        refine go (u' := T28.setTop (mkF m 91 #[.val (.ref o0), .val (.int p1), .val (.int p2), .val (.int (1 : Int32))] [(.int p1), (.ref o0)])) (fun _ ks_ => XS.iloadN X28.here hx rfl (hb hby d4_90) rfl  ks_) ?_
        refine go (u' := T28.setTop (mkF m 93 #[.val (.ref o0), .val (.int p1), .val (.int p2), .val (.int (1 : Int32))] [(.int (13 : Int32)), (.int p1), (.ref o0)])) (fun _ ks_ => XS.bipush X28.here hx rfl (hb hby d4_91) ks_) ?_
        refine go (u' := T28.setTop (mkF m 100 #[.val (.ref o0), .val (.int p1), .val (.int p2), .val (.int (1 : Int32))] [(.ref o0)])) (fun _ ks_ => XS.icmpYes X28.here hx rfl (pc0 := 93) (pc' := 100) rfl (hb hby d4_93) rfl (feq c29_2).2 (by decide) (by decide) ks_) ?_
        refine go (u' := T28.setTop (mkF m 101 #[.val (.ref o0), .val (.int p1), .val (.int p2), .val (.int (1 : Int32))] [(.int (0 : Int32)), (.ref o0)])) (fun _ ks_ => XS.iconst X28.here hx rfl (hb hby d4_100) ks_) ?_
        have hn34 : narrow .boolean (.int (0 : Int32)) = .int (0 : Int32) := rfl
        have hf34 : fits .boolean (.int (0 : Int32)) = true := rfl
        obtain ⟨T34, h34, X34, e34, W34, st34⟩ := putFN X28 hx hZ hown (ww hw 25 rfl) Via.refl e28 Fa32 Fa29 (Or.inl (ww hw 26 rfl)) (ww hw 6 rfl) (ty := .boolean) (v' := .int (0 : Int32)) (by decide) hn34 hf34 (g := (mkF m 101 #[.val (.ref o0), .val (.int p1), .val (.int p2), .val (.int (1 : Int32))] [(.int (0 : Int32)), (.ref o0)])) rfl rfl (hb hby d4_101)
        have N34 := Fr.snoc X34 N28 g_o0
        have K34 : Keep h0 h34 [o0] := K28.wr W34 (Or.inl (List.mem_of_getElem? (i := 0) rfl))
        have Z34 : n0 ≤ h34.size := Nat.le_trans Z28 (Keep.of_wr W34).1
        have Fa35 : Exa Z h34 o0 "com/example/locattr/locattr/PlaceCounter" := Fa29.wr W34
        have Fa36 : Fld Z h34 o0 "com/example/locattr/locattr/PlaceCounter" "line" "I" (.int (li + (1 : Int32))) := Fa30.other W34 (Or.inr (slot_ne (Or.inl (ww hw 15 rfl)) (Or.inl (ww hw 26 rfl)) (by decide) (t := .int) (t' := .boolean) (by decide) (by decide)))
        have Fa37 : Fld Z h34 o0 "com/example/locattr/locattr/PlaceCounter" "column" "I" (.int (1 : Int32)) := Fa33.other W34 (Or.inr (slot_ne (Or.inl (ww hw 17 rfl)) (Or.inl (ww hw 26 rfl)) (by decide) (t := .int) (t' := .boolean) (by decide) (by decide)))
        have Fa38 : Fld Z h34 o0 "com/example/locattr/locattr/PlaceCounter" "xml11" "Z" (.int xm) := Fa31.other W34 (Or.inr (slot_ne (Or.inr (ww hw 19 rfl)) (Or.inl (ww hw 26 rfl)) (by decide) (t := .boolean) (t' := .boolean) (by decide) (by decide)))
        have Fa39 : Fld Z h34 o0 "com/example/locattr/locattr/PlaceCounter" "afterReturn" "Z" (.int (0 : Int32)) := Fa32.same W34
        refine go (u' := T34.setTop (mkF m 104 #[.val (.ref o0), .val (.int p1), .val (.int p2), .val (.int (1 : Int32))] [])) st34 ?_
        rw [hG]
        refine g0 X34 hx hlk hret (hb hby d4_104) ?_ (Nat.le_of_ble_eq_true rfl) (Nat.le_of_ble_eq_true rfl)
        show Q_rm4 Z o0 p1 p2 li co xm ar h0 n0 (none) T34.heap _
        rw [e34]
        exact ⟨rfl, N34, K34, Fa35, (own_Fto Fa36 (congrArg Value.int (show (li + (1 : Int32)) = (if p1 = (10 : Int32) then (if p1 = (13 : Int32) then (li + (1 : Int32)) else (if ar = (0 : Int32) then (li + (1 : Int32)) else (if xm = (0 : Int32) then li else (if p1 = (8232 : Int32) then (li + (1 : Int32)) else li)))) else (if xm = (0 : Int32) then (if p1 = (13 : Int32) then (li + (1 : Int32)) else li) else (if p1 = (133 : Int32) then (if p1 = (13 : Int32) then (li + (1 : Int32)) else (if ar = (0 : Int32) then (li + (1 : Int32)) else (if p1 = (8232 : Int32) then (li + (1 : Int32)) else li))) else (if p1 = (13 : Int32) then (li + (1 : Int32)) else (if p1 = (8232 : Int32) then (li + (1 : Int32)) else li))))) from ((((if_pos c3_1).trans (if_neg c29_2)).trans (if_pos c40_3))).symm))), (own_Fto Fa37 (congrArg Value.int (show (1 : Int32) = (if p1 = (10 : Int32) then (if p1 = (13 : Int32) then (1 : Int32) else (if ar = (0 : Int32) then (1 : Int32) else (if xm = (0 : Int32) then co else (if p1 = (8232 : Int32) then (1 : Int32) else co)))) else (if xm = (0 : Int32) then (if p1 = (13 : Int32) then (1 : Int32) else (co + p2)) else (if p1 = (133 : Int32) then (if p1 = (13 : Int32) then (1 : Int32) else (if ar = (0 : Int32) then (1 : Int32) else (if p1 = (8232 : Int32) then (1 : Int32) else co))) else (if p1 = (13 : Int32) then (1 : Int32) else (if p1 = (8232 : Int32) then (1 : Int32) else (co + p2)))))) from ((((if_pos c3_1).trans (if_neg c29_2)).trans (if_pos c40_3))).symm))), Fa38, (own_Fto Fa39 (congrArg Value.int (show (0 : Int32) = (if p1 = (13 : Int32) then (1 : Int32) else (0 : Int32)) from ((if_neg c29_2)).symm)))⟩
      ·
        refine go (u' := T20.setTop (mkF m 43 #[.val (.ref o0), .val (.int p1), .val (.int p2), .val (.int (1 : Int32))] [])) (fun _ ks_ => XS.ifNo X20.here hx rfl (hb hby d4_40) rfl ((if0 _ _).trans (feq c40_3).1) ks_) ?_
        refine go (u' := T20.setTop (mkF m 44 #[.val (.ref o0), .val (.int p1), .val (.int p2), .val (.int (1 : Int32))] [(.ref o0)])) (fun _ ks_ => XS.aloadN X20.here hx rfl (hb hby d4_43) rfl rfl ks_) ?_
        obtain ⟨T40, X40, e40, st40⟩ := getF X20 hx hZ hown (host := "") (Or.inl (ww hw 18 rfl)) Via.refl e20 F3 (g := (mkF m 44 #[.val (.ref o0), .val (.int p1), .val (.int p2), .val (.int (1 : Int32))] [(.ref o0)])) rfl rfl (hb hby d4_44)
        refine go (u' := T40.setTop (mkF m 47 #[.val (.ref o0), .val (.int p1), .val (.int p2), .val (.int (1 : Int32))] [(.int xm)])) st40 ?_
        by_cases c47_4 : xm = (0 : Int32)
        ·
          refine go (u' := T40.setTop (mkF m 75 #[.val (.ref o0), .val (.int p1), .val (.int p2), .val (.int (1 : Int32))] [])) (fun _ ks_ => XS.ifYes X40.here hx rfl (pc0 := 47) (pc' := 75) rfl (hb hby d4_47) rfl ((if0 _ _).trans (teq c47_4).1) (by decide) (by decide) ks_) ?_
          refine go (u' := T40.setTop (mkF m 76 #[.val (.ref o0), .val (.int p1), .val (.int p2), .val (.int (1 : Int32))] [(.int (1 : Int32))])) (fun _ ks_ => XS.iloadN X40.here hx rfl (hb hby d4_75) rfl  ks_) ?_
          refine go (u' := T40.setTop (mkF m 89 #[.val (.ref o0), .val (.int p1), .val (.int p2), .val (.int (1 : Int32))] [])) (fun _ ks_ => XS.ifYes X40.here hx rfl (pc0 := 76) (pc' := 89) rfl (hb hby d4_76) rfl ((if0 _ _).trans (feq (show ¬ ((1 : Int32) = (0 : Int32)) from (by decide))).2) (by decide) (by decide) ks_) ?_
          refine go (u' := T40.setTop (mkF m 90 #[.val (.ref o0), .val (.int p1), .val (.int p2), .val (.int (1 : Int32))] [(.ref o0)])) (fun _ ks_ => XS.aloadN X40.here hx rfl (hb hby d4_89) rfl rfl ks_) ?_
          refine go (u' := T40.setTop (mkF m 91 #[.val (.ref o0), .val (.int p1), .val (.int p2), .val (.int (1 : Int32))] [(.int p1), (.ref o0)])) (fun _ ks_ => XS.iloadN X40.here hx rfl (hb hby d4_90) rfl  ks_) ?_
          refine go (u' := T40.setTop (mkF m 93 #[.val (.ref o0), .val (.int p1), .val (.int p2), .val (.int (1 : Int32))] [(.int (13 : Int32)), (.int p1), (.ref o0)])) (fun _ ks_ => XS.bipush X40.here hx rfl (hb hby d4_91) ks_) ?_
          refine go (u' := T40.setTop (mkF m 100 #[.val (.ref o0), .val (.int p1), .val (.int p2), .val (.int (1 : Int32))] [(.ref o0)])) (fun _ ks_ => XS.icmpYes X40.here hx rfl (pc0 := 93) (pc' := 100) rfl (hb hby d4_93) rfl (feq c29_2).2 (by decide) (by decide) ks_) ?_
          refine go (u' := T40.setTop (mkF m 101 #[.val (.ref o0), .val (.int p1), .val (.int p2), .val (.int (1 : Int32))] [(.int (0 : Int32)), (.ref o0)])) (fun _ ks_ => XS.iconst X40.here hx rfl (hb hby d4_100) ks_) ?_
          have hn41 : narrow .boolean (.int (0 : Int32)) = .int (0 : Int32) := rfl
          have hf41 : fits .boolean (.int (0 : Int32)) = true := rfl
          obtain ⟨T41, h41, X41, e41, W41, st41⟩ := putFN X40 hx hZ hown (ww hw 25 rfl) Via.refl e40 F4 F0 (Or.inl (ww hw 26 rfl)) (ww hw 6 rfl) (ty := .boolean) (v' := .int (0 : Int32)) (by decide) hn41 hf41 (g := (mkF m 101 #[.val (.ref o0), .val (.int p1), .val (.int p2), .val (.int (1 : Int32))] [(.int (0 : Int32)), (.ref o0)])) rfl rfl (hb hby d4_101)
          have N41 := Fr.snoc X41 N0 g_o0
          have K41 : Keep h0 h41 [o0] := (Keep.refl h0 [o0]).wr W41 (Or.inl (List.mem_of_getElem? (i := 0) rfl))
          have Z41 : n0 ≤ h41.size := Nat.le_trans Z0 (Keep.of_wr W41).1
          have Fa42 : Exa Z h41 o0 "com/example/locattr/locattr/PlaceCounter" := F0.wr W41
          have Fa43 : Fld Z h41 o0 "com/example/locattr/locattr/PlaceCounter" "line" "I" (.int li) := F1.other W41 (Or.inr (slot_ne (Or.inl (ww hw 15 rfl)) (Or.inl (ww hw 26 rfl)) (by decide) (t := .int) (t' := .boolean) (by decide) (by decide)))
          have Fa44 : Fld Z h41 o0 "com/example/locattr/locattr/PlaceCounter" "column" "I" (.int co) := F2.other W41 (Or.inr (slot_ne (Or.inl (ww hw 17 rfl)) (Or.inl (ww hw 26 rfl)) (by decide) (t := .int) (t' := .boolean) (by decide) (by decide)))
          have Fa45 : Fld Z h41 o0 "com/example/locattr/locattr/PlaceCounter" "xml11" "Z" (.int xm) := F3.other W41 (Or.inr (slot_ne (Or.inr (ww hw 19 rfl)) (Or.inl (ww hw 26 rfl)) (by decide) (t := .boolean) (t' := .boolean) (by decide) (by decide)))
          have Fa46 : Fld Z h41 o0 "com/example/locattr/locattr/PlaceCounter" "afterReturn" "Z" (.int (0 : Int32)) := F4.same W41
          refine go (u' := T41.setTop (mkF m 104 #[.val (.ref o0), .val (.int p1), .val (.int p2), .val (.int (1 : Int32))] [])) st41 ?_
          rw [hG]
          refine g0 X41 hx hlk hret (hb hby d4_104) ?_ (Nat.le_of_ble_eq_true rfl) (Nat.le_of_ble_eq_true rfl)
          show Q_rm4 Z o0 p1 p2 li co xm ar h0 n0 (none) T41.heap _
          rw [e41]
          exact ⟨rfl, N41, K41, Fa42, (own_Fto Fa43 (congrArg Value.int (show li = (if p1 = (10 : Int32) then (if p1 = (13 : Int32) then (li + (1 : Int32)) else (if ar = (0 : Int32) then (li + (1 : Int32)) else (if xm = (0 : Int32) then li else (if p1 = (8232 : Int32) then (li + (1 : Int32)) else li)))) else (if xm = (0 : Int32) then (if p1 = (13 : Int32) then (li + (1 : Int32)) else li) else (if p1 = (133 : Int32) then (if p1 = (13 : Int32) then (li + (1 : Int32)) else (if ar = (0 : Int32) then (li + (1 : Int32)) else (if p1 = (8232 : Int32) then (li + (1 : Int32)) else li))) else (if p1 = (13 : Int32) then (li + (1 : Int32)) else (if p1 = (8232 : Int32) then (li + (1 : Int32)) else li))))) from (((((if_pos c3_1).trans (if_neg c29_2)).trans (if_neg c40_3)).trans (if_pos c47_4))).symm))), (own_Fto Fa44 (congrArg Value.int (show co = (if p1 = (10 : Int32) then (if p1 = (13 : Int32) then (1 : Int32) else (if ar = (0 : Int32) then (1 : Int32) else (if xm = (0 : Int32) then co else (if p1 = (8232 : Int32) then (1 : Int32) else co)))) else (if xm = (0 : Int32) then (if p1 = (13 : Int32) then (1 : Int32) else (co + p2)) else (if p1 = (133 : Int32) then (if p1 = (13 : Int32) then (1 : Int32) else (if ar = (0 : Int32) then (1 : Int32) else (if p1 = (8232 : Int32) then (1 : Int32) else co))) else (if p1 = (13 : Int32) then (1 : Int32) else (if p1 = (8232 : Int32) then (1 : Int32) else (co + p2)))))) from (((((if_pos c3_1).trans (if_neg c29_2)).trans (if_neg c40_3)).trans (if_pos c47_4))).symm))), Fa45, (own_Fto Fa46 (congrArg Value.int (show (0 : Int32) = (if p1 = (13 : Int32) then (1 : Int32) else (0 : Int32)) from ((if_neg c29_2)).symm)))⟩
        ·
          refine go (u' := T40.setTop (mkF m 50 #[.val (.ref o0), .val (.int p1), .val (.int p2), .val (.int (1 : Int32))] [])) (fun _ ks_ => XS.ifNo X40.here hx rfl (hb hby d4_47) rfl ((if0 _ _).trans (feq c47_4).1) ks_) ?_
          refine go (u' := T40.setTop (mkF m 51 #[.val (.ref o0), .val (.int p1), .val (.int p2), .val (.int (1 : Int32))] [(.int p1)])) (fun _ ks_ => XS.iloadN X40.here hx rfl (hb hby d4_50) rfl  ks_) ?_
          refine go (u' := T40.setTop (mkF m 54 #[.val (.ref o0), .val (.int p1), .val (.int p2), .val (.int (1 : Int32))] [(.int (8232 : Int32)), (.int p1)])) (fun _ ks_ => XS.sipush X40.here hx rfl (hb hby d4_51) ks_) ?_
          by_cases c54_5 : p1 = (8232 : Int32)
          ·
            refine go (u' := T40.setTop (mkF m 57 #[.val (.ref o0), .val (.int p1), .val (.int p2), .val (.int (1 : Int32))] [])) (fun _ ks_ => XS.icmpNo X40.here hx rfl (hb hby d4_54) rfl (teq c54_5).2 ks_) ?_
            refine go (u' := T40.setTop (mkF m 58 #[.val (.ref o0), .val (.int p1), .val (.int p2), .val (.int (1 : Int32))] [(.ref o0)])) (fun _ ks_ => XS.aloadN X40.here hx rfl (hb hby d4_57) rfl rfl ks_) ?_
            refine go (u' := T40.setTop (mkF m 59 #[.val (.ref o0), .val (.int p1), .val (.int p2), .val (.int (1 : Int32))] [(.ref o0), (.ref o0)])) (fun _ ks_ => XS.dup X40.here hx rfl (hb hby d4_58) rfl rfl ks_) ?_
            obtain ⟨T47, X47, e47, st47⟩ := getF X40 hx hZ hown (host := "") (Or.inl (ww hw 14 rfl)) Via.refl e40 F1 (g := (mkF m 59 #[.val (.ref o0), .val (.int p1), .val (.int p2), .val (.int (1 : Int32))] [(.ref o0), (.ref o0)])) rfl rfl (hb hby d4_59)
            refine go (u' := T47.setTop (mkF m 62 #[.val (.ref o0), .val (.int p1), .val (.int p2), .val (.int (1 : Int32))] [(.int li), (.ref o0)])) st47 ?_
            refine go (u' := T47.setTop (mkF m 63 #[.val (.ref o0), .val (.int p1), .val (.int p2), .val (.int (1 : Int32))] [(.int (1 : Int32)), (.int li), (.ref o0)])) (fun _ ks_ => XS.iconst X47.here hx rfl (hb hby d4_62) ks_) ?_
            refine go (u' := T47.setTop (mkF m 64 #[.val (.ref o0), .val (.int p1), .val (.int p2), .val (.int (1 : Int32))] [(.int (li + (1 : Int32))), (.ref o0)])) (fun _ ks_ => XS.iadd X47.here hx rfl (hb hby d4_63) rfl ks_) ?_
            obtain ⟨T48, h48, X48, e48, W48, st48⟩ := putF X47 hx hZ hown (host := "") (Or.inl (ww hw 14 rfl)) Via.refl e47 F1 F0 (Or.inl (ww hw 15 rfl)) (ww hw 6 rfl) (ty := .int) (by decide) rfl rfl (g := (mkF m 64 #[.val (.ref o0), .val (.int p1), .val (.int p2), .val (.int (1 : Int32))] [(.int (li + (1 : Int32))), (.ref o0)])) rfl rfl (hb hby d4_64)
            have N48 := Fr.snoc X48 N0 g_o0
            have K48 : Keep h0 h48 [o0] := (Keep.refl h0 [o0]).wr W48 (Or.inl (List.mem_of_getElem? (i := 0) rfl))
            have Z48 : n0 ≤ h48.size := Nat.le_trans Z0 (Keep.of_wr W48).1
            have Fa49 : Exa Z h48 o0 "com/example/locattr/locattr/PlaceCounter" := F0.wr W48
            have Fa50 : Fld Z h48 o0 "com/example/locattr/locattr/PlaceCounter" "column" "I" (.int co) := F2.other W48 (Or.inr (slot_ne (Or.inl (ww hw 17 rfl)) (Or.inl (ww hw 15 rfl)) (by decide) (t := .int) (t' := .int) (by decide) (by decide)))
            have Fa51 : Fld Z h48 o0 "com/example/locattr/locattr/PlaceCounter" "xml11" "Z" (.int xm) := F3.other W48 (Or.inr (slot_ne (Or.inr (ww hw 19 rfl)) (Or.inl (ww hw 15 rfl)) (by decide) (t := .boolean) (t' := .int) (by decide) (by decide)))
            have Fa52 : Fld Z h48 o0 "com/example/locattr/locattr/PlaceCounter" "afterReturn" "Z" (.int ar) := F4.other W48 (Or.inr (slot_ne (Or.inl (ww hw 26 rfl)) (Or.inl (ww hw 15 rfl)) (by decide) (t := .boolean) (t' := .int) (by decide) (by decide)))
            have Fa53 : Fld Z h48 o0 "com/example/locattr/locattr/PlaceCounter" "line" "I" (.int (li + (1 : Int32))) := F1.same W48
            refine go (u' := T48.setTop (mkF m 67 #[.val (.ref o0), .val (.int p1), .val (.int p2), .val (.int (1 : Int32))] [])) st48 ?_
            refine go (u' := T48.setTop (mkF m 68 #[.val (.ref o0), .val (.int p1), .val (.int p2), .val (.int (1 : Int32))] [(.ref o0)])) (fun _ ks_ => XS.aloadN X48.here hx rfl (hb hby d4_67) rfl rfl ks_) ?_
            refine go (u' := T48.setTop (mkF m 69 #[.val (.ref o0), .val (.int p1), .val (.int p2), .val (.int (1 : Int32))] [(.int (1 : Int32)), (.ref o0)])) (fun _ ks_ => XS.iconst X48.here hx rfl (hb hby d4_68) ks_) ?_
            obtain ⟨T54, h54, X54, e54, W54, st54⟩ := putF X48 hx hZ hown (host := "") (Or.inl (ww hw 16 rfl)) Via.refl e48 Fa50 Fa49 (Or.inl (ww hw 17 rfl)) (ww hw 6 rfl) (ty := .int) (by decide) rfl rfl (g := (mkF m 69 #[.val (.ref o0), .val (.int p1), .val (.int p2), .val (.int (1 : Int32))] [(.int (1 : Int32)), (.ref o0)])) rfl rfl (hb hby d4_69)
            have N54 := Fr.snoc X54 N48 g_o0
            have K54 : Keep h0 h54 [o0] := K48.wr W54 (Or.inl (List.mem_of_getElem? (i := 0) rfl))
            have Z54 : n0 ≤ h54.size := Nat.le_trans Z48 (Keep.of_wr W54).1
            have Fa55 : Exa Z h54 o0 "com/example/locattr/locattr/PlaceCounter" := Fa49.wr W54
            have Fa56 : Fld Z h54 o0 "com/example/locattr/locattr/PlaceCounter" "line" "I" (.int (li + (1 : Int32))) := Fa53.other W54 (Or.inr (slot_ne (Or.inl (ww hw 15 rfl)) (Or.inl (ww hw 17 rfl)) (by decide) (t := .int) (t' := .int) (by decide) (by decide)))
            have Fa57 : Fld Z h54 o0 "com/example/locattr/locattr/PlaceCounter" "xml11" "Z" (.int xm) := Fa51.other W54 (Or.inr (slot_ne (Or.inr (ww hw 19 rfl)) (Or.inl (ww hw 17 rfl)) (by decide) (t := .boolean) (t' := .int) (by decide) (by decide)))
            have Fa58 : Fld Z h54 o0 "com/example/locattr/locattr/PlaceCounter" "afterReturn" "Z" (.int ar) := Fa52.other W54 (Or.inr (slot_ne (Or.inl (ww hw 26 rfl)) (Or.inl (ww hw 17 rfl)) (by decide) (t := .boolean) (t' := .int) (by decide) (by decide)))
            have Fa59 : Fld Z h54 o0 "com/example/locattr/locattr/PlaceCounter" "column" "I" (.int (1 : Int32)) := Fa50.same W54
            refine go (u' := T54.setTop (mkF m 72 #[.val (.ref o0), .val (.int p1), .val (.int p2), .val (.int (1 : Int32))] [])) st54 ?_
            refine go (u' := T54.setTop (mkF m 89 #[.val (.ref o0), .val (.int p1), .val (.int p2), .val (.int (1 : Int32))] [])) (fun _ ks_ => XS.goto X54.here hx rfl (pc0 := 72) (pc' := 89) rfl (hb hby d4_72) (by decide) (by decide) ks_) ?_
            refine go (u' := T54.setTop (mkF m 90 #[.val (.ref o0), .val (.int p1), .val (.int p2), .val (.int (1 : Int32))] [(.ref o0)])) (fun _ ks_ => XS.aloadN X54.here hx rfl (hb hby d4_89) rfl rfl ks_) ?_
            refine go (u' := T54.setTop (mkF m 91 #[.val (.ref o0), .val (.int p1), .val (.int p2), .val (.int (1 : Int32))] [(.int p1), (.ref o0)])) (fun _ ks_ => XS.iloadN X54.here hx rfl (hb hby d4_90) rfl  ks_) ?_
            refine go (u' := T54.setTop (mkF m 93 #[.val (.ref o0), .val (.int p1), .val (.int p2), .val (.int (1 : Int32))] [(.int (13 : Int32)), (.int p1), (.ref o0)])) (fun _ ks_ => XS.bipush X54.here hx rfl (hb hby d4_91) ks_) ?_
            refine go (u' := T54.setTop (mkF m 100 #[.val (.ref o0), .val (.int p1), .val (.int p2), .val (.int (1 : Int32))] [(.ref o0)])) (fun _ ks_ => XS.icmpYes X54.here hx rfl (pc0 := 93) (pc' := 100) rfl (hb hby d4_93) rfl (feq c29_2).2 (by decide) (by decide) ks_) ?_
            refine go (u' := T54.setTop (mkF m 101 #[.val (.ref o0), .val (.int p1), .val (.int p2), .val (.int (1 : Int32))] [(.int (0 : Int32)), (.ref o0)])) (fun _ ks_ => XS.iconst X54.here hx rfl (hb hby d4_100) ks_) ?_
            have hn60 : narrow .boolean (.int (0 : Int32)) = .int (0 : Int32) := rfl
            have hf60 : fits .boolean (.int (0 : Int32)) = true := rfl
            obtain ⟨T60, h60, X60, e60, W60, st60⟩ := putFN X54 hx hZ hown (ww hw 25 rfl) Via.refl e54 Fa58 Fa55 (Or.inl (ww hw 26 rfl)) (ww hw 6 rfl) (ty := .boolean) (v' := .int (0 : Int32)) (by decide) hn60 hf60 (g := (mkF m 101 #[.val (.ref o0), .val (.int p1), .val (.int p2), .val (.int (1 : Int32))] [(.int (0 : Int32)), (.ref o0)])) rfl rfl (hb hby d4_101)
            have N60 := Fr.snoc X60 N54 g_o0
            have K60 : Keep h0 h60 [o0] := K54.wr W60 (Or.inl (List.mem_of_getElem? (i := 0) rfl))
            have Z60 : n0 ≤ h60.size := Nat.le_trans Z54 (Keep.of_wr W60).1
            have Fa61 : Exa Z h60 o0 "com/example/locattr/locattr/PlaceCounter" := Fa55.wr W60
            have Fa62 : Fld Z h60 o0 "com/example/locattr/locattr/PlaceCounter" "line" "I" (.int (li + (1 : Int32))) := Fa56.other W60 (Or.inr (slot_ne (Or.inl (ww hw 15 rfl)) (Or.inl (ww hw 26 rfl)) (by decide) (t := .int) (t' := .boolean) (by decide) (by decide)))
            have Fa63 : Fld Z h60 o0 "com/example/locattr/locattr/PlaceCounter" "column" "I" (.int (1 : Int32)) := Fa59.other W60 (Or.inr (slot_ne (Or.inl (ww hw 17 rfl)) (Or.inl (ww hw 26 rfl)) (by decide) (t := .int) (t' := .boolean) (by decide) (by decide)))
            have Fa64 : Fld Z h60 o0 "com/example/locattr/locattr/PlaceCounter" "xml11" "Z" (.int xm) := Fa57.other W60 (Or.inr (slot_ne (Or.inr (ww hw 19 rfl)) (Or.inl (ww hw 26 rfl)) (by decide) (t := .boolean) (t' := .boolean) (by decide) (by decide)))
            have Fa65 : Fld Z h60 o0 "com/example/locattr/locattr/PlaceCounter" "afterReturn" "Z" (.int (0 : Int32)) := Fa58.same W60
            refine go (u' := T60.setTop (mkF m 104 #[.val (.ref o0), .val (.int p1), .val (.int p2), .val (.int (1 : Int32))] [])) st60 ?_
            rw [hG]
            refine g0 X60 hx hlk hret (hb hby d4_104) ?_ (Nat.le_of_ble_eq_true rfl) (Nat.le_of_ble_eq_true rfl)
            show Q_rm4 Z o0 p1 p2 li co xm ar h0 n0 (none) T60.heap _
            rw [e60]
            exact ⟨rfl, N60, K60, Fa61, (own_Fto Fa62 (congrArg Value.int (show (li + (1 : Int32)) = (if p1 = (10 : Int32) then (if p1 = (13 : Int32) then (li + (1 : Int32)) else (if ar = (0 : Int32) then (li + (1 : Int32)) else (if xm = (0 : Int32) then li else (if p1 = (8232 : Int32) then (li + (1 : Int32)) else li)))) else (if xm = (0 : Int32) then (if p1 = (13 : Int32) then (li + (1 : Int32)) else li) else (if p1 = (133 : Int32) then (if p1 = (13 : Int32) then (li + (1 : Int32)) else (if ar = (0 : Int32) then (li + (1 : Int32)) else (if p1 = (8232 : Int32) then (li + (1 : Int32)) else li))) else (if p1 = (13 : Int32) then (li + (1 : Int32)) else (if p1 = (8232 : Int32) then (li + (1 : Int32)) else li))))) from ((((((if_pos c3_1).trans (if_neg c29_2)).trans (if_neg c40_3)).trans (if_neg c47_4)).trans (if_pos c54_5))).symm))), (own_Fto Fa63 (congrArg Value.int (show (1 : Int32) = (if p1 = (10 : Int32) then (if p1 = (13 : Int32) then (1 : Int32) else (if ar = (0 : Int32) then (1 : Int32) else (if xm = (0 : Int32) then co else (if p1 = (8232 : Int32) then (1 : Int32) else co)))) else (if xm = (0 : Int32) then (if p1 = (13 : Int32) then (1 : Int32) else (co + p2)) else (if p1 = (133 : Int32) then (if p1 = (13 : Int32) then (1 : Int32) else (if ar = (0 : Int32) then (1 : Int32) else (if p1 = (8232 : Int32) then (1 : Int32) else co))) else (if p1 = (13 : Int32) then (1 : Int32) else (if p1 = (8232 : Int32) then (1 : Int32) else (co + p2)))))) from ((((((if_pos c3_1).trans (if_neg c29_2)).trans (if_neg c40_3)).trans (if_neg c47_4)).trans (if_pos c54_5))).symm))), Fa64, (own_Fto Fa65 (congrArg Value.int (show (0 : Int32) = (if p1 = (13 : Int32) then (1 : Int32) else (0 : Int32)) from ((if_neg c29_2)).symm)))⟩
          ·
            refine go (u' := T40.setTop (mkF m 75 #[.val (.ref o0), .val (.int p1), .val (.int p2), .val (.int (1 : Int32))] [])) (fun _ ks_ => XS.icmpYes X40.here hx rfl (pc0 := 54) (pc' := 75) rfl (hb hby d4_54) rfl (feq c54_5).2 (by decide) (by decide) ks_) ?_
            refine go (u' := T40.setTop (mkF m 76 #[.val (.ref o0), .val (.int p1), .val (.int p2), .val (.int (1 : Int32))] [(.int (1 : Int32))])) (fun _ ks_ => XS.iloadN X40.here hx rfl (hb hby d4_75) rfl  ks_) ?_
            refine go (u' := T40.setTop (mkF m 89 #[.val (.ref o0), .val (.int p1), .val (.int p2), .val (.int (1 : Int32))] [])) (fun _ ks_ => XS.ifYes X40.here hx rfl (pc0 := 76) (pc' := 89) rfl (hb hby d4_76) rfl ((if0 _ _).trans (feq (show ¬ ((1 : Int32) = (0 : Int32)) from (by decide))).2) (by decide) (by decide) ks_) ?_
            refine go (u' := T40.setTop (mkF m 90 #[.val (.ref o0), .val (.int p1), .val (.int p2), .val (.int (1 : Int32))] [(.ref o0)])) (fun _ ks_ => XS.aloadN X40.here hx rfl (hb hby d4_89) rfl rfl ks_) ?_
            refine go (u' := T40.setTop (mkF m 91 #[.val (.ref o0), .val (.int p1), .val (.int p2), .val (.int (1 : Int32))] [(.int p1), (.ref o0)])) (fun _ ks_ => XS.iloadN X40.here hx rfl (hb hby d4_90) rfl  ks_) ?_
            refine go (u' := T40.setTop (mkF m 93 #[.val (.ref o0), .val (.int p1), .val (.int p2), .val (.int (1 : Int32))] [(.int (13 : Int32)), (.int p1), (.ref o0)])) (fun _ ks_ => XS.bipush X40.here hx rfl (hb hby d4_91) ks_) ?_
            refine go (u' := T40.setTop (mkF m 100 #[.val (.ref o0), .val (.int p1), .val (.int p2), .val (.int (1 : Int32))] [(.ref o0)])) (fun _ ks_ => XS.icmpYes X40.here hx rfl (pc0 := 93) (pc' := 100) rfl (hb hby d4_93) rfl (feq c29_2).2 (by decide) (by decide) ks_) ?_
            refine go (u' := T40.setTop (mkF m 101 #[.val (.ref o0), .val (.int p1), .val (.int p2), .val (.int (1 : Int32))] [(.int (0 : Int32)), (.ref o0)])) (fun _ ks_ => XS.iconst X40.here hx rfl (hb hby d4_100) ks_) ?_
            have hn66 : narrow .boolean (.int (0 : Int32)) = .int (0 : Int32) := rfl
            have hf66 : fits .boolean (.int (0 : Int32)) = true := rfl
            obtain ⟨T66, h66, X66, e66, W66, st66⟩ := putFN X40 hx hZ hown (ww hw 25 rfl) Via.refl e40 F4 F0 (Or.inl (ww hw 26 rfl)) (ww hw 6 rfl) (ty := .boolean) (v' := .int (0 : Int32)) (by decide) hn66 hf66 (g := (mkF m 101 #[.val (.ref o0), .val (.int p1), .val (.int p2), .val (.int (1 : Int32))] [(.int (0 : Int32)), (.ref o0)])) rfl rfl (hb hby d4_101)
            have N66 := Fr.snoc X66 N0 g_o0
            have K66 : Keep h0 h66 [o0] := (Keep.refl h0 [o0]).wr W66 (Or.inl (List.mem_of_getElem? (i := 0) rfl))
            have Z66 : n0 ≤ h66.size := Nat.le_trans Z0 (Keep.of_wr W66).1
            have Fa67 : Exa Z h66 o0 "com/example/locattr/locattr/PlaceCounter" := F0.wr W66
            have Fa68 : Fld Z h66 o0 "com/example/locattr/locattr/PlaceCounter" "line" "I" (.int li) := F1.other W66 (Or.inr (slot_ne (Or.inl (ww hw 15 rfl)) (Or.inl (ww hw 26 rfl)) (by decide) (t := .int) (t' := .boolean) (by decide) (by decide)))
            have Fa69 : Fld Z h66 o0 "com/example/locattr/locattr/PlaceCounter" "column" "I" (.int co) := F2.other W66 (Or.inr (slot_ne (Or.inl (ww hw 17 rfl)) (Or.inl (ww hw 26 rfl)) (by decide) (t := .int) (t' := .boolean) (by decide) (by decide)))
            have Fa70 : Fld Z h66 o0 "com/example/locattr/locattr/PlaceCounter" "xml11" "Z" (.int xm) := F3.other W66 (Or.inr (slot_ne (Or.inr (ww hw 19 rfl)) (Or.inl (ww hw 26 rfl)) (by decide) (t := .boolean) (t' := .boolean) (by decide) (by decide)))
            have Fa71 : Fld Z h66 o0 "com/example/locattr/locattr/PlaceCounter" "afterReturn" "Z" (.int (0 : Int32)) := F4.same W66
            refine go (u' := T66.setTop (mkF m 104 #[.val (.ref o0), .val (.int p1), .val (.int p2), .val (.int (1 : Int32))] [])) st66 ?_
            rw [hG]
            refine g0 X66 hx hlk hret (hb hby d4_104) ?_ (Nat.le_of_ble_eq_true rfl) (Nat.le_of_ble_eq_true rfl)
            show Q_rm4 Z o0 p1 p2 li co xm ar h0 n0 (none) T66.heap _
            rw [e66]
            exact ⟨rfl, N66, K66, Fa67, (own_Fto Fa68 (congrArg Value.int (show li = (if p1 = (10 : Int32) then (if p1 = (13 : Int32) then (li + (1 : Int32)) else (if ar = (0 : Int32) then (li + (1 : Int32)) else (if xm = (0 : Int32) then li else (if p1 = (8232 : Int32) then (li + (1 : Int32)) else li)))) else (if xm = (0 : Int32) then (if p1 = (13 : Int32) then (li + (1 : Int32)) else li) else (if p1 = (133 : Int32) then (if p1 = (13 : Int32) then (li + (1 : Int32)) else (if ar = (0 : Int32) then (li + (1 : Int32)) else (if p1 = (8232 : Int32) then (li + (1 : Int32)) else li))) else (if p1 = (13 : Int32) then (li + (1 : Int32)) else (if p1 = (8232 : Int32) then (li + (1 : Int32)) else li))))) from ((((((if_pos c3_1).trans (if_neg c29_2)).trans (if_neg c40_3)).trans (if_neg c47_4)).trans (if_neg c54_5))).symm))), (own_Fto Fa69 (congrArg Value.int (show co = (if p1 = (10 : Int32) then (if p1 = (13 : Int32) then (1 : Int32) else (if ar = (0 : Int32) then (1 : Int32) else (if xm = (0 : Int32) then co else (if p1 = (8232 : Int32) then (1 : Int32) else co)))) else (if xm = (0 : Int32) then (if p1 = (13 : Int32) then (1 : Int32) else (co + p2)) else (if p1 = (133 : Int32) then (if p1 = (13 : Int32) then (1 : Int32) else (if ar = (0 : Int32) then (1 : Int32) else (if p1 = (8232 : Int32) then (1 : Int32) else co))) else (if p1 = (13 : Int32) then (1 : Int32) else (if p1 = (8232 : Int32) then (1 : Int32) else (co + p2)))))) from ((((((if_pos c3_1).trans (if_neg c29_2)).trans (if_neg c40_3)).trans (if_neg c47_4)).trans (if_neg c54_5))).symm))), Fa70, (own_Fto Fa71 (congrArg Value.int (show (0 : Int32) = (if p1 = (13 : Int32) then (1 : Int32) else (0 : Int32)) from ((if_neg c29_2)).symm)))⟩
  ·
    refine go (u' := s₁.setTop (mkF m 6 #[.val (.ref o0), .val (.int p1), .val (.int p2), .unset] [])) (fun _ ks_ => XS.icmpNo X0.here hx rfl (hb hby d4_3) rfl (feq c3_1).1 ks_) ?_
    refine go (u' := s₁.setTop (mkF m 7 #[.val (.ref o0), .val (.int p1), .val (.int p2), .unset] [(.ref o0)])) (fun _ ks_ => XS.aloadN X0.here hx rfl (hb hby d4_6) rfl rfl ks_) ?_
    obtain ⟨T72, X72, e72, st72⟩ := getF X0 hx hZ hown (host := "") (Or.inl (ww hw 18 rfl)) Via.refl e0 F3 (g := (mkF m 7 #[.val (.ref o0), .val (.int p1), .val (.int p2), .unset] [(.ref o0)])) rfl rfl (hb hby d4_7)
    refine go (u' := T72.setTop (mkF m 10 #[.val (.ref o0), .val (.int p1), .val (.int p2), .unset] [(.int xm)])) st72 ?_
    by_cases c10_6 : xm = (0 : Int32)
    ·
      refine go (u' := T72.setTop (mkF m 24 #[.val (.ref o0), .val (.int p1), .val (.int p2), .unset] [])) (fun _ ks_ => XS.ifYes X72.here hx rfl (pc0 := 10) (pc' := 24) rfl (hb hby d4_10) rfl ((if0 _ _).trans (teq c10_6).1) (by decide) (by decide) ks_) ?_
      refine go (u' := T72.setTop (mkF m 25 #[.val (.ref o0), .val (.int p1), .val (.int p2), .unset] [(.int (0 : Int32))])) (fun _ ks_ => XS.iconst X72.here hx rfl (hb hby d4_24) ks_) ?_
      refine go (u' := T72.setTop (mkF m 26 #[.val (.ref o0), .val (.int p1), .val (.int p2), .val (.int (0 : Int32))] [])) (fun _ ks_ => XS.istoreN X72.here hx rfl (hb hby d4_25) rfl  (l' := #[.val (.ref o0), .val (.int p1), .val (.int p2), .val (.int (0 : Int32))]) rfl ks_) ?_
      refine go (u' := T72.setTop (mkF m 27 #[.val (.ref o0), .val (.int p1), .val (.int p2), .val (.int (0 : Int32))] [(.int p1)])) (fun _ ks_ => XS.iloadN X72.here hx rfl (hb hby d4_26) rfl  ks_) ?_
      refine go (u' := T72.setTop (mkF m 29 #[.val (.ref o0), .val (.int p1), .val (.int p2), .val (.int (0 : Int32))] [(.int (13 : Int32)), (.int p1)])) (fun _ ks_ => XS.bipush X72.here hx rfl (hb hby d4_27) ks_) ?_
      by_cases c29_7 : p1 = (13 : Int32)
      ·
        refine go (u' := T72.setTop (mkF m 57 #[.val (.ref o0), .val (.int p1), .val (.int p2), .val (.int (0 : Int32))] [])) (fun _ ks_ => XS.icmpYes X72.here hx rfl (pc0 := 29) (pc' := 57) rfl (hb hby d4_29) rfl (teq c29_7).1 (by decide) (by decide) ks_) ?_
        refine go (u' := T72.setTop (mkF m 58 #[.val (.ref o0), .val (.int p1), .val (.int p2), .val (.int (0 : Int32))] [(.ref o0)])) (fun _ ks_ => XS.aloadN X72.here hx rfl (hb hby d4_57) rfl rfl ks_) ?_
        refine go (u' := T72.setTop (mkF m 59 #[.val (.ref o0), .val (.int p1), .val (.int p2), .val (.int (0 : Int32))] [(.ref o0), (.ref o0)])) (fun _ ks_ => XS.dup X72.here hx rfl (hb hby d4_58) rfl rfl ks_) ?_
        obtain ⟨T73, X73, e73, st73⟩ := getF X72 hx hZ hown (host := "") (Or.inl (ww hw 14 rfl)) Via.refl e72 F1 (g := (mkF m 59 #[.val (.ref o0), .val (.int p1), .val (.int p2), .val (.int (0 : Int32))] [(.ref o0), (.ref o0)])) rfl rfl (hb hby d4_59)
        refine go (u' := T73.setTop (mkF m 62 #[.val (.ref o0), .val (.int p1), .val (.int p2), .val (.int (0 : Int32))] [(.int li), (.ref o0)])) st73 ?_
        refine go (u' := T73.setTop (mkF m 63 #[.val (.ref o0), .val (.int p1), .val (.int p2), .val (.int (0 : Int32))] [(.int (1 : Int32)), (.int li), (.ref o0)])) (fun _ ks_ => XS.iconst X73.here hx rfl (hb hby d4_62) ks_) ?_
        refine go (u' := T73.setTop (mkF m 64 #[.val (.ref o0), .val (.int p1), .val (.int p2), .val (.int (0 : Int32))] [(.int (li + (1 : Int32))), (.ref o0)])) (fun _ ks_ => XS.iadd X73.here hx rfl (hb hby d4_63) rfl ks_) ?_
        obtain ⟨T74, h74, X74, e74, W74, st74⟩ := putF X73 hx hZ hown (host := "") (Or.inl (ww hw 14 rfl)) Via.refl e73 F1 F0 (Or.inl (ww hw 15 rfl)) (ww hw 6 rfl) (ty := .int) (by decide) rfl rfl (g := (mkF m 64 #[.val (.ref o0), .val (.int p1), .val (.int p2), .val (.int (0 : Int32))] [(.int (li + (1 : Int32))), (.ref o0)])) rfl rfl (hb hby d4_64)
        have N74 := Fr.snoc X74 N0 g_o0
        have K74 : Keep h0 h74 [o0] := (Keep.refl h0 [o0]).wr W74 (Or.inl (List.mem_of_getElem? (i := 0) rfl))
        have Z74 : n0 ≤ h74.size := Nat.le_trans Z0 (Keep.of_wr W74).1
        have Fa75 : Exa Z h74 o0 "com/example/locattr/locattr/PlaceCounter" := F0.wr W74
        have Fa76 : Fld Z h74 o0 "com/example/locattr/locattr/PlaceCounter" "column" "I" (.int co) := F2.other W74 (Or.inr (slot_ne (Or.inl (ww hw 17 rfl)) (Or.inl (ww hw 15 rfl)) (by decide) (t := .int) (t' := .int) (by decide) (by decide)))
        have Fa77 : Fld Z h74 o0 "com/example/locattr/locattr/PlaceCounter" "xml11" "Z" (.int xm) := F3.other W74 (Or.inr (slot_ne (Or.inr (ww hw 19 rfl)) (Or.inl (ww hw 15 rfl)) (by decide) (t := .boolean) (t' := .int) (by decide) (by decide)))
        have Fa78 : Fld Z h74 o0 "com/example/locattr/locattr/PlaceCounter" "afterReturn" "Z" (.int ar) := F4.other W74 (Or.inr (slot_ne (Or.inl (ww hw 26 rfl)) (Or.inl (ww hw 15 rfl)) (by decide) (t := .boolean) (t' := .int) (by decide) (by decide)))
        have Fa79 : Fld Z h74 o0 "com/example/locattr/locattr/PlaceCounter" "line" "I" (.int (li + (1 : Int32))) := F1.same W74
        refine go (u' := T74.setTop (mkF m 67 #[.val (.ref o0), .val (.int p1), .val (.int p2), .val (.int (0 : Int32))] [])) st74 ?_
        refine go (u' := T74.setTop (mkF m 68 #[.val (.ref o0), .val (.int p1), .val (.int p2), .val (.int (0 : Int32))] [(.ref o0)])) (fun _ ks_ => XS.aloadN X74.here hx rfl (hb hby d4_67) rfl rfl ks_) ?_
        refine go (u' := T74.setTop (mkF m 69 #[.val (.ref o0), .val (.int p1), .val (.int p2), .val (.int (0 : Int32))] [(.int (1 : Int32)), (.ref o0)])) (fun _ ks_ => XS.iconst X74.here hx rfl (hb hby d4_68) ks_) ?_
        obtain ⟨T80, h80, X80, e80, W80, st80⟩ := putF X74 hx hZ hown (host := "") (Or.inl (ww hw 16 rfl)) Via.refl e74 Fa76 Fa75 (Or.inl (ww hw 17 rfl)) (ww hw 6 rfl) (ty := .int) (by decide) rfl rfl (g := (mkF m 69 #[.val (.ref o0), .val (.int p1), .val (.int p2), .val (.int (0 : Int32))] [(.int (1 : Int32)), (.ref o0)])) rfl rfl (hb hby d4_69)
        have N80 := Fr.snoc X80 N74 g_o0
        have K80 : Keep h0 h80 [o0] := K74.wr W80 (Or.inl (List.mem_of_getElem? (i := 0) rfl))
        have Z80 : n0 ≤ h80.size := Nat.le_trans Z74 (Keep.of_wr W80).1
        have Fa81 : Exa Z h80 o0 "com/example/locattr/locattr/PlaceCounter" := Fa75.wr W80
        have Fa82 : Fld Z h80 o0 "com/example/locattr/locattr/PlaceCounter" "line" "I" (.int (li + (1 : Int32))) := Fa79.other W80 (Or.inr (slot_ne (Or.inl (ww hw 15 rfl)) (Or.inl (ww hw 17 rfl)) (by decide) (t := .int) (t' := .int) (by decide) (by decide)))
        have Fa83 : Fld Z h80 o0 "com/example/locattr/locattr/PlaceCounter" "xml11" "Z" (.int xm) := Fa77.other W80 (Or.inr (slot_ne (Or.inr (ww hw 19 rfl)) (Or.inl (ww hw 17 rfl)) (by decide) (t := .boolean) (t' := .int) (by decide) (by decide)))
        have Fa84 : Fld Z h80 o0 "com/example/locattr/locattr/PlaceCounter" "afterReturn" "Z" (.int ar) := Fa78.other W80 (Or.inr (slot_ne (Or.inl (ww hw 26 rfl)) (Or.inl (ww hw 17 rfl)) (by decide) (t := .boolean) (t' := .int) (by decide) (by decide)))
        have Fa85 : Fld Z h80 o0 "com/example/locattr/locattr/PlaceCounter" "column" "I" (.int (1 : Int32)) := Fa76.same W80
        refine go (u' := T80.setTop (mkF m 72 #[.val (.ref o0), .val (.int p1), .val (.int p2), .val (.int (0 : Int32))] [])) st80 ?_
        refine go (u' := T80.setTop (mkF m 89 #[.val (.ref o0), .val (.int p1), .val (.int p2), .val (.int (0 : Int32))] [])) (fun _ ks_ => XS.goto X80.here hx rfl (pc0 := 72) (pc' := 89) rfl (hb hby d4_72) (by decide) (by decide) ks_) ?_
        refine go (u' := T80.setTop (mkF m 90 #[.val (.ref o0), .val (.int p1), .val (.int p2), .val (.int (0 : Int32))] [(.ref o0)])) (fun _ ks_ => XS.aloadN X80.here hx rfl (hb hby d4_89) rfl rfl ks_) ?_
        refine go (u' := T80.setTop (mkF m 91 #[.val (.ref o0), .val (.int p1), .val (.int p2), .val (.int (0 : Int32))] [(.int p1), (.ref o0)])) (fun _ ks_ => XS.iloadN X80.here hx rfl (hb hby d4_90) rfl  ks_) ?_
        refine go (u' := T80.setTop (mkF m 93 #[.val (.ref o0), .val (.int p1), .val (.int p2), .val (.int (0 : Int32))] [(.int (13 : Int32)), (.int p1), (.ref o0)])) (fun _ ks_ => XS.bipush X80.here hx rfl (hb hby d4_91) ks_) ?_
        refine go (u' := T80.setTop (mkF m 96 #[.val (.ref o0), .val (.int p1), .val (.int p2), .val (.int (0 : Int32))] [(.ref o0)])) (fun _ ks_ => XS.icmpNo X80.here hx rfl (hb hby d4_93) rfl (teq c29_7).2 ks_) ?_
        refine go (u' := T80.setTop (mkF m 97 #[.val (.ref o0), .val (.int p1), .val (.int p2), .val (.int (0 : Int32))] [(.int (1 : Int32)), (.ref o0)])) (fun _ ks_ => XS.iconst X80.here hx rfl (hb hby d4_96) ks_) ?_
        refine go (u' := T80.setTop (mkF m 101 #[.val (.ref o0), .val (.int p1), .val (.int p2), .val (.int (0 : Int32))] [(.int (1 : Int32)), (.ref o0)])) (fun _ ks_ => XS.goto X80.here hx rfl (pc0 := 97) (pc' := 101) rfl (hb hby d4_97) (by decide) (by decide) ks_) ?_
        have hn86 : narrow .boolean (.int (1 : Int32)) = .int (1 : Int32) := rfl
        have hf86 : fits .boolean (.int (1 : Int32)) = true := rfl
        obtain ⟨T86, h86, X86, e86, W86, st86⟩ := putFN X80 hx hZ hown (ww hw 25 rfl) Via.refl e80 Fa84 Fa81 (Or.inl (ww hw 26 rfl)) (ww hw 6 rfl) (ty := .boolean) (v' := .int (1 : Int32)) (by decide) hn86 hf86 (g := (mkF m 101 #[.val (.ref o0), .val (.int p1), .val (.int p2), .val (.int (0 : Int32))] [(.int (1 : Int32)), (.ref o0)])) rfl rfl (hb hby d4_101)
        have N86 := Fr.snoc X86 N80 g_o0
        have K86 : Keep h0 h86 [o0] := K80.wr W86 (Or.inl (List.mem_of_getElem? (i := 0) rfl))
        have Z86 : n0 ≤ h86.size := Nat.le_trans Z80 (Keep.of_wr W86).1
        have Fa87 : Exa Z h86 o0 "com/example/locattr/locattr/PlaceCounter" := Fa81.wr W86
        have Fa88 : Fld Z h86 o0 "com/example/locattr/locattr/PlaceCounter" "line" "I" (.int (li + (1 : Int32))) := Fa82.other W86 (Or.inr (slot_ne (Or.inl (ww hw 15 rfl)) (Or.inl (ww hw 26 rfl)) (by decide) (t := .int) (t' := .boolean) (by decide) (by decide)))
        have Fa89 : Fld Z h86 o0 "com/example/locattr/locattr/PlaceCounter" "column" "I" (.int (1 : Int32)) := Fa85.other W86 (Or.inr (slot_ne (Or.inl (ww hw 17 rfl)) (Or.inl (ww hw 26 rfl)) (by decide) (t := .int) (t' := .boolean) (by decide) (by decide)))
        have Fa90 : Fld Z h86 o0 "com/example/locattr/locattr/PlaceCounter" "xml11" "Z" (.int xm) := Fa83.other W86 (Or.inr (slot_ne (Or.inr (ww hw 19 rfl)) (Or.inl (ww hw 26 rfl)) (by decide) (t := .boolean) (t' := .boolean) (by decide) (by decide)))
        have Fa91 : Fld Z h86 o0 "com/example/locattr/locattr/PlaceCounter" "afterReturn" "Z" (.int (1 : Int32)) := Fa84.same W86
        refine go (u' := T86.setTop (mkF m 104 #[.val (.ref o0), .val (.int p1), .val (.int p2), .val (.int (0 : Int32))] [])) st86 ?_
        rw [hG]
        refine g0 X86 hx hlk hret (hb hby d4_104) ?_ (Nat.le_of_ble_eq_true rfl) (Nat.le_of_ble_eq_true rfl)
        show Q_rm4 Z o0 p1 p2 li co xm ar h0 n0 (none) T86.heap _
        rw [e86]
        exact ⟨rfl, N86, K86, Fa87, (own_Fto Fa88 (congrArg Value.int (show (li + (1 : Int32)) = (if p1 = (10 : Int32) then (if p1 = (13 : Int32) then (li + (1 : Int32)) else (if ar = (0 : Int32) then (li + (1 : Int32)) else (if xm = (0 : Int32) then li else (if p1 = (8232 : Int32) then (li + (1 : Int32)) else li)))) else (if xm = (0 : Int32) then (if p1 = (13 : Int32) then (li + (1 : Int32)) else li) else (if p1 = (133 : Int32) then (if p1 = (13 : Int32) then (li + (1 : Int32)) else (if ar = (0 : Int32) then (li + (1 : Int32)) else (if p1 = (8232 : Int32) then (li + (1 : Int32)) else li))) else (if p1 = (13 : Int32) then (li + (1 : Int32)) else (if p1 = (8232 : Int32) then (li + (1 : Int32)) else li))))) from ((((if_neg c3_1).trans (if_pos c10_6)).trans (if_pos c29_7))).symm))), (own_Fto Fa89 (congrArg Value.int (show (1 : Int32) = (if p1 = (10 : Int32) then (if p1 = (13 : Int32) then (1 : Int32) else (if ar = (0 : Int32) then (1 : Int32) else (if xm = (0 : Int32) then co else (if p1 = (8232 : Int32) then (1 : Int32) else co)))) else (if xm = (0 : Int32) then (if p1 = (13 : Int32) then (1 : Int32) else (co + p2)) else (if p1 = (133 : Int32) then (if p1 = (13 : Int32) then (1 : Int32) else (if ar = (0 : Int32) then (1 : Int32) else (if p1 = (8232 : Int32) then (1 : Int32) else co))) else (if p1 = (13 : Int32) then (1 : Int32) else (if p1 = (8232 : Int32) then (1 : Int32) else (co + p2)))))) from ((((if_neg c3_1).trans (if_pos c10_6)).trans (if_pos c29_7))).symm))), Fa90, (own_Fto Fa91 (congrArg Value.int (show (1 : Int32) = (if p1 = (13 : Int32) then (1 : Int32) else (0 : Int32)) from ((if_pos c29_7)).symm)))⟩
      ·
        refine go (u' := T72.setTop (mkF m 32 #[.val (.ref o0), .val (.int p1), .val (.int p2), .val (.int (0 : Int32))] [])) (fun _ ks_ => XS.icmpNo X72.here hx rfl (hb hby d4_29) rfl (feq c29_7).1 ks_) ?_
        refine go (u' := T72.setTop (mkF m 33 #[.val (.ref o0), .val (.int p1), .val (.int p2), .val (.int (0 : Int32))] [(.int (0 : Int32))])) (fun _ ks_ => XS.iloadN X72.here hx rfl (hb hby d4_32) rfl  ks_) ?_
        refine go (u' := T72.setTop (mkF m 43 #[.val (.ref o0), .val (.int p1), .val (.int p2), .val (.int (0 : Int32))] [])) (fun _ ks_ => XS.ifYes X72.here hx rfl (pc0 := 33) (pc' := 43) rfl (hb hby d4_33) rfl ((if0 _ _).trans (teq (show (0 : Int32) = (0 : Int32) from (by decide))).1) (by decide) (by decide) ks_) ?_
        refine go (u' := T72.setTop (mkF m 44 #[.val (.ref o0), .val (.int p1), .val (.int p2), .val (.int (0 : Int32))] [(.ref o0)])) (fun _ ks_ => XS.aloadN X72.here hx rfl (hb hby d4_43) rfl rfl ks_) ?_
        obtain ⟨T92, X92, e92, st92⟩ := getF X72 hx hZ hown (host := "") (Or.inl (ww hw 18 rfl)) Via.refl e72 F3 (g := (mkF m 44 #[.val (.ref o0), .val (.int p1), .val (.int p2), .val (.int (0 : Int32))] [(.ref o0)])) rfl rfl (hb hby d4_44)
        refine go (u' := T92.setTop (mkF m 47 #[.val (.ref o0), .val (.int p1), .val (.int p2), .val (.int (0 : Int32))] [(.int xm)])) st92 ?_
        refine go (u' := T92.setTop (mkF m 75 #[.val (.ref o0), .val (.int p1), .val (.int p2), .val (.int (0 : Int32))] [])) (fun _ ks_ => XS.ifYes X92.here hx rfl (pc0 := 47) (pc' := 75) rfl (hb hby d4_47) rfl ((if0 _ _).trans (teq c10_6).1) (by decide) (by decide) ks_) ?_
        refine go (u' := T92.setTop (mkF m 76 #[.val (.ref o0), .val (.int p1), .val (.int p2), .val (.int (0 : Int32))] [(.int (0 : Int32))])) (fun _ ks_ => XS.iloadN X92.here hx rfl (hb hby d4_75) rfl  ks_) ?_
        refine go (u' := T92.setTop (mkF m 79 #[.val (.ref o0), .val (.int p1), .val (.int p2), .val (.int (0 : Int32))] [])) (fun _ ks_ => XS.ifNo X92.here hx rfl (hb hby d4_76) rfl ((if0 _ _).trans (teq (show (0 : Int32) = (0 : Int32) from (by decide))).2) ks_) ?_
        refine go (u' := T92.setTop (mkF m 80 #[.val (.ref o0), .val (.int p1), .val (.int p2), .val (.int (0 : Int32))] [(.ref o0)])) (fun _ ks_ => XS.aloadN X92.here hx rfl (hb hby d4_79) rfl rfl ks_) ?_
        refine go (u' := T92.setTop (mkF m 81 #[.val (.ref o0), .val (.int p1), .val (.int p2), .val (.int (0 : Int32))] [(.ref o0), (.ref o0)])) (fun _ ks_ => XS.dup X92.here hx rfl (hb hby d4_80) rfl rfl ks_) ?_
        obtain ⟨T93, X93, e93, st93⟩ := getF X92 hx hZ hown (host := "") (Or.inl (ww hw 16 rfl)) Via.refl e92 F2 (g := (mkF m 81 #[.val (.ref o0), .val (.int p1), .val (.int p2), .val (.int (0 : Int32))] [(.ref o0), (.ref o0)])) rfl rfl (hb hby d4_81)
        refine go (u' := T93.setTop (mkF m 84 #[.val (.ref o0), .val (.int p1), .val (.int p2), .val (.int (0 : Int32))] [(.int co), (.ref o0)])) st93 ?_
        refine go (u' := T93.setTop (mkF m 85 #[.val (.ref o0), .val (.int p1), .val (.int p2), .val (.int (0 : Int32))] [(.int p2), (.int co), (.ref o0)])) (fun _ ks_ => XS.iloadN X93.here hx rfl (hb hby d4_84) rfl  ks_) ?_
        refine go (u' := T93.setTop (mkF m 86 #[.val (.ref o0), .val (.int p1), .val (.int p2), .val (.int (0 : Int32))] [(.int (co + p2)), (.ref o0)])) (fun _ ks_ => XS.iadd X93.here hx rfl (hb hby d4_85) rfl ks_) ?_
        obtain ⟨T94, h94, X94, e94, W94, st94⟩ := putF X93 hx hZ hown (host := "") (Or.inl (ww hw 16 rfl)) Via.refl e93 F2 F0 (Or.inl (ww hw 17 rfl)) (ww hw 6 rfl) (ty := .int) (by decide) rfl rfl (g := (mkF m 86 #[.val (.ref o0), .val (.int p1), .val (.int p2), .val (.int (0 : Int32))] [(.int (co + p2)), (.ref o0)])) rfl rfl (hb hby d4_86)
        have N94 := Fr.snoc X94 N0 g_o0
        have K94 : Keep h0 h94 [o0] := (Keep.refl h0 [o0]).wr W94 (Or.inl (List.mem_of_getElem? (i := 0) rfl))
        have Z94 : n0 ≤ h94.size := Nat.le_trans Z0 (Keep.of_wr W94).1
        have Fa95 : Exa Z h94 o0 "com/example/locattr/locattr/PlaceCounter" := F0.wr W94
        have Fa96 : Fld Z h94 o0 "com/example/locattr/locattr/PlaceCounter" "line" "I" (.int li) := F1.other W94 (Or.inr (slot_ne (Or.inl (ww hw 15 rfl)) (Or.inl (ww hw 17 rfl)) (by decide) (t := .int) (t' := .int) (by decide) (by decide)))
        have Fa97 : Fld Z h94 o0 "com/example/locattr/locattr/PlaceCounter" "xml11" "Z" (.int xm) := F3.other W94 (Or.inr (slot_ne (Or.inr (ww hw 19 rfl)) (Or.inl (ww hw 17 rfl)) (by decide) (t := .boolean) (t' := .int) (by decide) (by decide)))
        have Fa98 : Fld Z h94 o0 "com/example/locattr/locattr/PlaceCounter" "afterReturn" "Z" (.int ar) := F4.other W94 (Or.inr (slot_ne (Or.inl (ww hw 26 rfl)) (Or.inl (ww hw 17 rfl)) (by decide) (t := .boolean) (t' := .int) (by decide) (by decide)))
        have Fa99 : Fld Z h94 o0 "com/example/locattr/locattr/PlaceCounter" "column" "I" (.int (co + p2)) := F2.same W94
        refine go (u' := T94.setTop (mkF m 89 #[.val (.ref o0), .val (.int p1), .val (.int p2), .val (.int (0 : Int32))] [])) st94 ?_
        refine go (u' := T94.setTop (mkF m 90 #[.val (.ref o0), .val (.int p1), .val (.int p2), .val (.int (0 : Int32))] [(.ref o0)])) (fun _ ks_ => XS.aloadN X94.here hx rfl (hb hby d4_89) rfl rfl ks_) ?_
        refine go (u' := T94.setTop (mkF m 91 #[.val (.ref o0), .val (.int p1), .val (.int p2), .val (.int (0 : Int32))] [(.int p1), (.ref o0)])) (fun _ ks_ => XS.iloadN X94.here hx rfl (hb hby d4_90) rfl  ks_) ?_
        refine go (u' := T94.setTop (mkF m 93 #[.val (.ref o0), .val (.int p1), .val (.int p2), .val (.int (0 : Int32))] [(.int (13 : Int32)), (.int p1), (.ref o0)])) (fun _ ks_ => XS.bipush X94.here hx rfl (hb hby d4_91) ks_) ?_
        refine go (u' := T94.setTop (mkF m 100 #[.val (.ref o0), .val (.int p1), .val (.int p2), .val (.int (0 : Int32))] [(.ref o0)])) (fun _ ks_ => XS.icmpYes X94.here hx rfl (pc0 := 93) (pc' := 100) rfl (hb hby d4_93) rfl (feq c29_7).2 (by decide) (by decide) ks_) ?_
        refine go (u' := T94.setTop (mkF m 101 #[.val (.ref o0), .val (.int p1), .val (.int p2), .val (.int (0 : Int32))] [(.int (0 : Int32)), (.ref o0)])) (fun _ ks_ => XS.iconst X94.here hx rfl (hb hby d4_100) ks_) ?_
        have hn100 : narrow .boolean (.int (0 : Int32)) = .int (0 : Int32) := rfl
        have hf100 : fits .boolean (.int (0 : Int32)) = true := rfl
        obtain ⟨T100, h100, X100, e100, W100, st100⟩ := putFN X94 hx hZ hown (ww hw 25 rfl) Via.refl e94 Fa98 Fa95 (Or.inl (ww hw 26 rfl)) (ww hw 6 rfl) (ty := .boolean) (v' := .int (0 : Int32)) (by decide) hn100 hf100 (g := (mkF m 101 #[.val (.ref o0), .val (.int p1), .val (.int p2), .val (.int (0 : Int32))] [(.int (0 : Int32)), (.ref o0)])) rfl rfl (hb hby d4_101)
        have N100 := Fr.snoc X100 N94 g_o0
        have K100 : Keep h0 h100 [o0] := K94.wr W100 (Or.inl (List.mem_of_getElem? (i := 0) rfl))
        have Z100 : n0 ≤ h100.size := Nat.le_trans Z94 (Keep.of_wr W100).1
        have Fa101 : Exa Z h100 o0 "com/example/locattr/locattr/PlaceCounter" := Fa95.wr W100
        have Fa102 : Fld Z h100 o0 "com/example/locattr/locattr/PlaceCounter" "line" "I" (.int li) := Fa96.other W100 (Or.inr (slot_ne (Or.inl (ww hw 15 rfl)) (Or.inl (ww hw 26 rfl)) (by decide) (t := .int) (t' := .boolean) (by decide) (by decide)))
        have Fa103 : Fld Z h100 o0 "com/example/locattr/locattr/PlaceCounter" "column" "I" (.int (co + p2)) := Fa99.other W100 (Or.inr (slot_ne (Or.inl (ww hw 17 rfl)) (Or.inl (ww hw 26 rfl)) (by decide) (t := .int) (t' := .boolean) (by decide) (by decide)))
        have Fa104 : Fld Z h100 o0 "com/example/locattr/locattr/PlaceCounter" "xml11" "Z" (.int xm) := Fa97.other W100 (Or.inr (slot_ne (Or.inr (ww hw 19 rfl)) (Or.inl (ww hw 26 rfl)) (by decide) (t := .boolean) (t' := .boolean) (by decide) (by decide)))
        have Fa105 : Fld Z h100 o0 "com/example/locattr/locattr/PlaceCounter" "afterReturn" "Z" (.int (0 : Int32)) := Fa98.same W100
        refine go (u' := T100.setTop (mkF m 104 #[.val (.ref o0), .val (.int p1), .val (.int p2), .val (.int (0 : Int32))] [])) st100 ?_
        rw [hG]
        refine g0 X100 hx hlk hret (hb hby d4_104) ?_ (Nat.le_of_ble_eq_true rfl) (Nat.le_of_ble_eq_true rfl)
        show Q_rm4 Z o0 p1 p2 li co xm ar h0 n0 (none) T100.heap _
        rw [e100]
        exact ⟨rfl, N100, K100, Fa101, (own_Fto Fa102 (congrArg Value.int (show li = (if p1 = (10 : Int32) then (if p1 = (13 : Int32) then (li + (1 : Int32)) else (if ar = (0 : Int32) then (li + (1 : Int32)) else (if xm = (0 : Int32) then li else (if p1 = (8232 : Int32) then (li + (1 : Int32)) else li)))) else (if xm = (0 : Int32) then (if p1 = (13 : Int32) then (li + (1 : Int32)) else li) else (if p1 = (133 : Int32) then (if p1 = (13 : Int32) then (li + (1 : Int32)) else (if ar = (0 : Int32) then (li + (1 : Int32)) else (if p1 = (8232 : Int32) then (li + (1 : Int32)) else li))) else (if p1 = (13 : Int32) then (li + (1 : Int32)) else (if p1 = (8232 : Int32) then (li + (1 : Int32)) else li))))) from ((((if_neg c3_1).trans (if_pos c10_6)).trans (if_neg c29_7))).symm))), (own_Fto Fa103 (congrArg Value.int (show (co + p2) = (if p1 = (10 : Int32) then (if p1 = (13 : Int32) then (1 : Int32) else (if ar = (0 : Int32) then (1 : Int32) else (if xm = (0 : Int32) then co else (if p1 = (8232 : Int32) then (1 : Int32) else co)))) else (if xm = (0 : Int32) then (if p1 = (13 : Int32) then (1 : Int32) else (co + p2)) else (if p1 = (133 : Int32) then (if p1 = (13 : Int32) then (1 : Int32) else (if ar = (0 : Int32) then (1 : Int32) else (if p1 = (8232 : Int32) then (1 : Int32) else co))) else (if p1 = (13 : Int32) then (1 : Int32) else (if p1 = (8232 : Int32) then (1 : Int32) else (co + p2)))))) from ((((if_neg c3_1).trans (if_pos c10_6)).trans (if_neg c29_7))).symm))), Fa104, (own_Fto Fa105 (congrArg Value.int (show (0 : Int32) = (if p1 = (13 : Int32) then (1 : Int32) else (0 : Int32)) from ((if_neg c29_7)).symm)))⟩
    ·
      refine go (u' := T72.setTop (mkF m 13 #[.val (.ref o0), .val (.int p1), .val (.int p2), .unset] [])) (fun _ ks_ => XS.ifNo X72.here hx rfl (hb hby d4_10) rfl ((if0 _ _).trans (feq c10_6).1) ks_) ?_
      refine go (u' := T72.setTop (mkF m 14 #[.val (.ref o0), .val (.int p1), .val (.int p2), .unset] [(.int p1)])) (fun _ ks_ => XS.iloadN X72.here hx rfl (hb hby d4_13) rfl  ks_) ?_
      refine go (u' := T72.setTop (mkF m 17 #[.val (.ref o0), .val (.int p1), .val (.int p2), .unset] [(.int (133 : Int32)), (.int p1)])) (fun _ ks_ => XS.sipush X72.here hx rfl (hb hby d4_14) ks_) ?_
      by_cases c17_8 : p1 = (133 : Int32)
      ·
        refine go (u' := T72.setTop (mkF m 20 #[.val (.ref o0), .val (.int p1), .val (.int p2), .unset] [])) (fun _ ks_ => XS.icmpNo X72.here hx rfl (hb hby d4_17) rfl (teq c17_8).2 ks_) ?_
        refine go (u' := T72.setTop (mkF m 21 #[.val (.ref o0), .val (.int p1), .val (.int p2), .unset] [(.int (1 : Int32))])) (fun _ ks_ => XS.iconst X72.here hx rfl (hb hby d4_20) ks_) ?_
        refine go (u' := T72.setTop (mkF m 25 #[.val (.ref o0), .val (.int p1), .val (.int p2), .unset] [(.int (1 : Int32))])) (fun _ ks_ => XS.goto X72.here hx rfl (pc0 := 21) (pc' := 25) rfl (hb hby d4_21) (by decide) (by decide) ks_) ?_
        refine go (u' := T72.setTop (mkF m 26 #[.val (.ref o0), .val (.int p1), .val (.int p2), .val (.int (1 : Int32))] [])) (fun _ ks_ => XS.istoreN X72.here hx rfl (hb hby d4_25) rfl  (l' := #[.val (.ref o0), .val (.int p1), .val (.int p2), .val (.int (1 : Int32))]) rfl ks_) ?_
        refine go (u' := T72.setTop (mkF m 27 #[.val (.ref o0), .val (.int p1), .val (.int p2), .val (.int (1 : Int32))] [(.int p1)])) (fun _ ks_ => XS.iloadN X72.here hx rfl (hb hby d4_26) rfl  ks_) ?_
        refine go (u' := T72.setTop (mkF m 29 #[.val (.ref o0), .val (.int p1), .val (.int p2), .val (.int (1 : Int32))] [(.int (13 : Int32)), (.int p1)])) (fun _ ks_ => XS.bipush X72.here hx rfl (hb hby d4_27) ks_) ?_
        by_cases c29_9 : p1 = (13 : Int32)
        ·
          refine go (u' := T72.setTop (mkF m 57 #[.val (.ref o0), .val (.int p1), .val (.int p2), .val (.int (1 : Int32))] [])) (fun _ ks_ => XS.icmpYes X72.here hx rfl (pc0 := 29) (pc' := 57) rfl (hb hby d4_29) rfl (teq c29_9).1 (by decide) (by decide) ks_) ?_
          refine go (u' := T72.setTop (mkF m 58 #[.val (.ref o0), .val (.int p1), .val (.int p2), .val (.int (1 : Int32))] [(.ref o0)])) (fun _ ks_ => XS.aloadN X72.here hx rfl (hb hby d4_57) rfl rfl ks_) ?_
          refine go (u' := T72.setTop (mkF m 59 #[.val (.ref o0), .val (.int p1), .val (.int p2), .val (.int (1 : Int32))] [(.ref o0), (.ref o0)])) (fun _ ks_ => XS.dup X72.here hx rfl (hb hby d4_58) rfl rfl ks_) ?_
          obtain ⟨T106, X106, e106, st106⟩ := getF X72 hx hZ hown (host := "") (Or.inl (ww hw 14 rfl)) Via.refl e72 F1 (g := (mkF m 59 #[.val (.ref o0), .val (.int p1), .val (.int p2), .val (.int (1 : Int32))] [(.ref o0), (.ref o0)])) rfl rfl (hb hby d4_59)
          refine go (u' := T106.setTop (mkF m 62 #[.val (.ref o0), .val (.int p1), .val (.int p2), .val (.int (1 : Int32))] [(.int li), (.ref o0)])) st106 ?_
          refine go (u' := T106.setTop (mkF m 63 #[.val (.ref o0), .val (.int p1), .val (.int p2), .val (.int (1 : Int32))] [(.int (1 : Int32)), (.int li), (.ref o0)])) (fun _ ks_ => XS.iconst X106.here hx rfl (hb hby d4_62) ks_) ?_
          refine go (u' := T106.setTop (mkF m 64 #[.val (.ref o0), .val (.int p1), .val (.int p2), .val (.int (1 : Int32))] [(.int (li + (1 : Int32))), (.ref o0)])) (fun _ ks_ => XS.iadd X106.here hx rfl (hb hby d4_63) rfl ks_) ?_
          obtain ⟨T107, h107, X107, e107, W107, st107⟩ := putF X106 hx hZ hown (host := "") (Or.inl (ww hw 14 rfl)) Via.refl e106 F1 F0 (Or.inl (ww hw 15 rfl)) (ww hw 6 rfl) (ty := .int) (by decide) rfl rfl (g := (mkF m 64 #[.val (.ref o0), .val (.int p1), .val (.int p2), .val (.int (1 : Int32))] [(.int (li + (1 : Int32))), (.ref o0)])) rfl rfl (hb hby d4_64)
          have N107 := Fr.snoc X107 N0 g_o0
          have K107 : Keep h0 h107 [o0] := (Keep.refl h0 [o0]).wr W107 (Or.inl (List.mem_of_getElem? (i := 0) rfl))
          have Z107 : n0 ≤ h107.size := Nat.le_trans Z0 (Keep.of_wr W107).1
          have Fa108 : Exa Z h107 o0 "com/example/locattr/locattr/PlaceCounter" := F0.wr W107
          have Fa109 : Fld Z h107 o0 "com/example/locattr/locattr/PlaceCounter" "column" "I" (.int co) := F2.other W107 (Or.inr (slot_ne (Or.inl (ww hw 17 rfl)) (Or.inl (ww hw 15 rfl)) (by decide) (t := .int) (t' := .int) (by decide) (by decide)))
          have Fa110 : Fld Z h107 o0 "com/example/locattr/locattr/PlaceCounter" "xml11" "Z" (.int xm) := F3.other W107 (Or.inr (slot_ne (Or.inr (ww hw 19 rfl)) (Or.inl (ww hw 15 rfl)) (by decide) (t := .boolean) (t' := .int) (by decide) (by decide)))
          have Fa111 : Fld Z h107 o0 "com/example/locattr/locattr/PlaceCounter" "afterReturn" "Z" (.int ar) := F4.other W107 (Or.inr (slot_ne (Or.inl (ww hw 26 rfl)) (Or.inl (ww hw 15 rfl)) (by decide) (t := .boolean) (t' := .int) (by decide) (by decide)))
          have Fa112 : Fld Z h107 o0 "com/example/locattr/locattr/PlaceCounter" "line" "I" (.int (li + (1 : Int32))) := F1.same W107
          refine go (u' := T107.setTop (mkF m 67 #[.val (.ref o0), .val (.int p1), .val (.int p2), .val (.int (1 : Int32))] [])) st107 ?_
          refine go (u' := T107.setTop (mkF m 68 #[.val (.ref o0), .val (.int p1), .val (.int p2), .val (.int (1 : Int32))] [(.ref o0)])) (fun _ ks_ => XS.aloadN X107.here hx rfl (hb hby d4_67) rfl rfl ks_) ?_
          refine go (u' := T107.setTop (mkF m 69 #[.val (.ref o0), .val (.int p1), .val (.int p2), .val (.int (1 : Int32))] [(.int (1 : Int32)), (.ref o0)])) (fun _ ks_ => XS.iconst X107.here hx rfl (hb hby d4_68) ks_) ?_
          obtain ⟨T113, h113, X113, e113, W113, st113⟩ := putF X107 hx hZ hown (host := "") (Or.inl (ww hw 16 rfl)) Via.refl e107 Fa109 Fa108 (Or.inl (ww hw 17 rfl)) (ww hw 6 rfl) (ty := .int) (by decide) rfl rfl (g := (mkF m 69 #[.val (.ref o0), .val (.int p1), .val (.int p2), .val (.int (1 : Int32))] [(.int (1 : Int32)), (.ref o0)])) rfl rfl (hb hby d4_69)
          have N113 := Fr.snoc X113 N107 g_o0
          have K113 : Keep h0 h113 [o0] := K107.wr W113 (Or.inl (List.mem_of_getElem? (i := 0) rfl))
          have Z113 : n0 ≤ h113.size := Nat.le_trans Z107 (Keep.of_wr W113).1
          have Fa114 : Exa Z h113 o0 "com/example/locattr/locattr/PlaceCounter" := Fa108.wr W113
          have Fa115 : Fld Z h113 o0 "com/example/locattr/locattr/PlaceCounter" "line" "I" (.int (li + (1 : Int32))) := Fa112.other W113 (Or.inr (slot_ne (Or.inl (ww hw 15 rfl)) (Or.inl (ww hw 17 rfl)) (by decide) (t := .int) (t' := .int) (by decide) (by decide)))
          have Fa116 : Fld Z h113 o0 "com/example/locattr/locattr/PlaceCounter" "xml11" "Z" (.int xm) := Fa110.other W113 (Or.inr (slot_ne (Or.inr (ww hw 19 rfl)) (Or.inl (ww hw 17 rfl)) (by decide) (t := .boolean) (t' := .int) (by decide) (by decide)))
          have Fa117 : Fld Z h113 o0 "com/example/locattr/locattr/PlaceCounter" "afterReturn" "Z" (.int ar) := Fa111.other W113 (Or.inr (slot_ne (Or.inl (ww hw 26 rfl)) (Or.inl (ww hw 17 rfl)) (by decide) (t := .boolean) (t' := .int) (by decide) (by decide)))
          have Fa118 : Fld Z h113 o0 "com/example/locattr/locattr/PlaceCounter" "column" "I" (.int (1 : Int32)) := Fa109.same W113
          refine go (u' := T113.setTop (mkF m 72 #[.val (.ref o0), .val (.int p1), .val (.int p2), .val (.int (1 : Int32))] [])) st113 ?_
          refine go (u' := T113.setTop (mkF m 89 #[.val (.ref o0), .val (.int p1), .val (.int p2), .val (.int (1 : Int32))] [])) (fun _ ks_ => XS.goto X113.here hx rfl (pc0 := 72) (pc' := 89) rfl (hb hby d4_72) (by decide) (by decide) ks_) ?_
          refine go (u' := T113.setTop (mkF m 90 #[.val (.ref o0), .val (.int p1), .val (.int p2), .val (.int (1 : Int32))] [(.ref o0)])) (fun _ ks_ => XS.aloadN X113.here hx rfl (hb hby d4_89) rfl rfl ks_) ?_
          refine go (u' := T113.setTop (mkF m 91 #[.val (.ref o0), .val (.int p1), .val (.int p2), .val (.int (1 : Int32))] [(.int p1), (.ref o0)])) (fun _ ks_ => XS.iloadN X113.here hx rfl (hb hby d4_90) rfl  ks_) ?_
          refine go (u' := T113.setTop (mkF m 93 #[.val (.ref o0), .val (.int p1), .val (.int p2), .val (.int (1 : Int32))] [(.int (13 : Int32)), (.int p1), (.ref o0)])) (fun _ ks_ => XS.bipush X113.here hx rfl (hb hby d4_91) ks_) ?_
          refine go (u' := T113.setTop (mkF m 96 #[.val (.ref o0), .val (.int p1), .val (.int p2), .val (.int (1 : Int32))] [(.ref o0)])) (fun _ ks_ => XS.icmpNo X113.here hx rfl (hb hby d4_93) rfl (teq c29_9).2 ks_) ?_
          refine go (u' := T113.setTop (mkF m 97 #[.val (.ref o0), .val (.int p1), .val (.int p2), .val (.int (1 : Int32))] [(.int (1 : Int32)), (.ref o0)])) (fun _ ks_ => XS.iconst X113.here hx rfl (hb hby d4_96) ks_) ?_
          refine go (u' := T113.setTop (mkF m 101 #[.val (.ref o0), .val (.int p1), .val (.int p2), .val (.int (1 : Int32))] [(.int (1 : Int32)), (.ref o0)])) (fun _ ks_ => XS.goto X113.here hx rfl (pc0 := 97) (pc' := 101) rfl (hb hby d4_97) (by decide) (by decide) ks_) ?_
          have hn119 : narrow .boolean (.int (1 : Int32)) = .int (1 : Int32) := rfl
          have hf119 : fits .boolean (.int (1 : Int32)) = true := rfl
          obtain ⟨T119, h119, X119, e119, W119, st119⟩ := putFN X113 hx hZ hown (ww hw 25 rfl) Via.refl e113 Fa117 Fa114 (Or.inl (ww hw 26 rfl)) (ww hw 6 rfl) (ty := .boolean) (v' := .int (1 : Int32)) (by decide) hn119 hf119 (g := (mkF m 101 #[.val (.ref o0), .val (.int p1), .val (.int p2), .val (.int (1 : Int32))] [(.int (1 : Int32)), (.ref o0)])) rfl rfl (hb hby d4_101)
          have N119 := Fr.snoc X119 N113 g_o0
          have K119 : Keep h0 h119 [o0] := K113.wr W119 (Or.inl (List.mem_of_getElem? (i := 0) rfl))
          have Z119 : n0 ≤ h119.size := Nat.le_trans Z113 (Keep.of_wr W119).1
          have Fa120 : Exa Z h119 o0 "com/example/locattr/locattr/PlaceCounter" := Fa114.wr W119
          have Fa121 : Fld Z h119 o0 "com/example/locattr/locattr/PlaceCounter" "line" "I" (.int (li + (1 : Int32))) := Fa115.other W119 (Or.inr (slot_ne (Or.inl (ww hw 15 rfl)) (Or.inl (ww hw 26 rfl)) (by decide) (t := .int) (t' := .boolean) (by decide) (by decide)))
          have Fa122 : Fld Z h119 o0 "com/example/locattr/locattr/PlaceCounter" "column" "I" (.int (1 : Int32)) := Fa118.other W119 (Or.inr (slot_ne (Or.inl (ww hw 17 rfl)) (Or.inl (ww hw 26 rfl)) (by decide) (t := .int) (t' := .boolean) (by decide) (by decide)))
          have Fa123 : Fld Z h119 o0 "com/example/locattr/locattr/PlaceCounter" "xml11" "Z" (.int xm) := Fa116.other W119 (Or.inr (slot_ne (Or.inr (ww hw 19 rfl)) (Or.inl (ww hw 26 rfl)) (by decide) (t := .boolean) (t' := .boolean) (by decide) (by decide)))
          have Fa124 : Fld Z h119 o0 "com/example/locattr/locattr/PlaceCounter" "afterReturn" "Z" (.int (1 : Int32)) := Fa117.same W119
          refine go (u' := T119.setTop (mkF m 104 #[.val (.ref o0), .val (.int p1), .val (.int p2), .val (.int (1 : Int32))] [])) st119 ?_
          rw [hG]
          refine g0 X119 hx hlk hret (hb hby d4_104) ?_ (Nat.le_of_ble_eq_true rfl) (Nat.le_of_ble_eq_true rfl)
          show Q_rm4 Z o0 p1 p2 li co xm ar h0 n0 (none) T119.heap _
          rw [e119]
          exact ⟨rfl, N119, K119, Fa120, (own_Fto Fa121 (congrArg Value.int (show (li + (1 : Int32)) = (if p1 = (10 : Int32) then (if p1 = (13 : Int32) then (li + (1 : Int32)) else (if ar = (0 : Int32) then (li + (1 : Int32)) else (if xm = (0 : Int32) then li else (if p1 = (8232 : Int32) then (li + (1 : Int32)) else li)))) else (if xm = (0 : Int32) then (if p1 = (13 : Int32) then (li + (1 : Int32)) else li) else (if p1 = (133 : Int32) then (if p1 = (13 : Int32) then (li + (1 : Int32)) else (if ar = (0 : Int32) then (li + (1 : Int32)) else (if p1 = (8232 : Int32) then (li + (1 : Int32)) else li))) else (if p1 = (13 : Int32) then (li + (1 : Int32)) else (if p1 = (8232 : Int32) then (li + (1 : Int32)) else li))))) from (((((if_neg c3_1).trans (if_neg c10_6)).trans (if_pos c17_8)).trans (if_pos c29_9))).symm))), (own_Fto Fa122 (congrArg Value.int (show (1 : Int32) = (if p1 = (10 : Int32) then (if p1 = (13 : Int32) then (1 : Int32) else (if ar = (0 : Int32) then (1 : Int32) else (if xm = (0 : Int32) then co else (if p1 = (8232 : Int32) then (1 : Int32) else co)))) else (if xm = (0 : Int32) then (if p1 = (13 : Int32) then (1 : Int32) else (co + p2)) else (if p1 = (133 : Int32) then (if p1 = (13 : Int32) then (1 : Int32) else (if ar = (0 : Int32) then (1 : Int32) else (if p1 = (8232 : Int32) then (1 : Int32) else co))) else (if p1 = (13 : Int32) then (1 : Int32) else (if p1 = (8232 : Int32) then (1 : Int32) else (co + p2)))))) from (((((if_neg c3_1).trans (if_neg c10_6)).trans (if_pos c17_8)).trans (if_pos c29_9))).symm))), Fa123, (own_Fto Fa124 (congrArg Value.int (show (1 : Int32) = (if p1 = (13 : Int32) then (1 : Int32) else (0 : Int32)) from ((if_pos c29_9)).symm)))⟩
        ·
          refine go (u' := T72.setTop (mkF m 32 #[.val (.ref o0), .val (.int p1), .val (.int p2), .val (.int (1 : Int32))] [])) (fun _ ks_ => XS.icmpNo X72.here hx rfl (hb hby d4_29) rfl (feq c29_9).1 ks_) ?_
          refine go (u' := T72.setTop (mkF m 33 #[.val (.ref o0), .val (.int p1), .val (.int p2), .val (.int (1 : Int32))] [(.int (1 : Int32))])) (fun _ ks_ => XS.iloadN X72.here hx rfl (hb hby d4_32) rfl  ks_) ?_
          refine go (u' := T72.setTop (mkF m 36 #[.val (.ref o0), .val (.int p1), .val (.int p2), .val (.int (1 : Int32))] [])) (fun _ ks_ => XS.ifNo X72.here hx rfl (hb hby d4_33) rfl ((if0 _ _).trans (feq (show ¬ ((1 : Int32) = (0 : Int32)) from (by decide))).1) ks_) ?_
          refine go (u' := T72.setTop (mkF m 37 #[.val (.ref o0), .val (.int p1), .val (.int p2), .val (.int (1 : Int32))] [(.ref o0)])) (fun _ ks_ => XS.aloadN X72.here hx rfl (hb hby d4_36) rfl rfl ks_) ?_
          obtain ⟨T125, X125, e125, st125⟩ := getF X72 hx hZ hown (host := "") (Or.inl (ww hw 25 rfl)) Via.refl e72 F4 (g := (mkF m 37 #[.val (.ref o0), .val (.int p1), .val (.int p2), .val (.int (1 : Int32))] [(.ref o0)])) rfl rfl (hb hby d4_37)
          refine go (u' := T125.setTop (mkF m 40 #[.val (.ref o0), .val (.int p1), .val (.int p2), .val (.int (1 : Int32))] [(.int ar)])) st125 ?_
          by_cases c40_10 : ar = (0 : Int32)
          ·
            refine go (u' := T125.setTop (mkF m 57 #[.val (.ref o0), .val (.int p1), .val (.int p2), .val (.int (1 : Int32))] [])) (fun _ ks_ => XS.ifYes X125.here hx rfl (pc0 := 40) (pc' := 57) rfl (hb hby d4_40) rfl ((if0 _ _).trans (teq c40_10).1) (by decide) (by decide) ks_) ?_
            refine go (u' := T125.setTop (mkF m 58 #[.val (.ref o0), .val (.int p1), .val (.int p2), .val (.int (1 : Int32))] [(.ref o0)])) (fun _ ks_ => XS.aloadN X125.here hx rfl (hb hby d4_57) rfl rfl ks_) ?_
            refine go (u' := T125.setTop (mkF m 59 #[.val (.ref o0), .val (.int p1), .val (.int p2), .val (.int (1 : Int32))] [(.ref o0), (.ref o0)])) (fun _ ks_ => XS.dup X125.here hx rfl (hb hby d4_58) rfl rfl ks_) ?_
            obtain ⟨T126, X126, e126, st126⟩ := getF X125 hx hZ hown (host := "") (Or.inl (ww hw 14 rfl)) Via.refl e125 F1 (g := (mkF m 59 #[.val (.ref o0), .val (.int p1), .val (.int p2), .val (.int (1 : Int32))] [(.ref o0), (.ref o0)])) rfl rfl (hb hby d4_59)
            refine go (u' := T126.setTop (mkF m 62 #[.val (.ref o0), .val (.int p1), .val (.int p2), .val (.int (1 : Int32))] [(.int li), (.ref o0)])) st126 ?_
            refine go (u' := T126.setTop (mkF m 63 #[.val (.ref o0), .val (.int p1), .val (.int p2), .val (.int (1 : Int32))] [(.int (1 : Int32)), (.int li), (.ref o0)])) (fun _ ks_ => XS.iconst X126.here hx rfl (hb hby d4_62) ks_) ?_
            refine go (u' := T126.setTop (mkF m 64 #[.val (.ref o0), .val (.int p1), .val (.int p2), .val (.int (1 : Int32))] [(.int (li + (1 : Int32))), (.ref o0)])) (fun _ ks_ => XS.iadd X126.here hx rfl (hb hby d4_63) rfl ks_) ?_
            obtain ⟨T127, h127, X127, e127, W127, st127⟩ := putF X126 hx hZ hown (host := "") (Or.inl (ww hw 14 rfl)) Via.refl e126 F1 F0 (Or.inl (ww hw 15 rfl)) (ww hw 6 rfl) (ty := .int) (by decide) rfl rfl (g := (mkF m 64 #[.val (.ref o0), .val (.int p1), .val (.int p2), .val (.int (1 : Int32))] [(.int (li + (1 : Int32))), (.ref o0)])) rfl rfl (hb hby d4_64)
            have N127 := Fr.snoc X127 N0 g_o0
            have K127 : Keep h0 h127 [o0] := (Keep.refl h0 [o0]).wr W127 (Or.inl (List.mem_of_getElem? (i := 0) rfl))
            have Z127 : n0 ≤ h127.size := Nat.le_trans Z0 (Keep.of_wr W127).1
            have Fa128 : Exa Z h127 o0 "com/example/locattr/locattr/PlaceCounter" := F0.wr W127
            have Fa129 : Fld Z h127 o0 "com/example/locattr/locattr/PlaceCounter" "column" "I" (.int co) := F2.other W127 (Or.inr (slot_ne (Or.inl (ww hw 17 rfl)) (Or.inl (ww hw 15 rfl)) (by decide) (t := .int) (t' := .int) (by decide) (by decide)))
            have Fa130 : Fld Z h127 o0 "com/example/locattr/locattr/PlaceCounter" "xml11" "Z" (.int xm) := F3.other W127 (Or.inr (slot_ne (Or.inr (ww hw 19 rfl)) (Or.inl (ww hw 15 rfl)) (by decide) (t := .boolean) (t' := .int) (by decide) (by decide)))
            have Fa131 : Fld Z h127 o0 "com/example/locattr/locattr/PlaceCounter" "afterReturn" "Z" (.int ar) := F4.other W127 (Or.inr (slot_ne (Or.inl (ww hw 26 rfl)) (Or.inl (ww hw 15 rfl)) (by decide) (t := .boolean) (t' := .int) (by decide) (by decide)))
            have Fa132 : Fld Z h127 o0 "com/example/locattr/locattr/PlaceCounter" "line" "I" (.int (li + (1 : Int32))) := F1.same W127
            refine go (u' := T127.setTop (mkF m 67 #[.val (.ref o0), .val (.int p1), .val (.int p2), .val (.int (1 : Int32))] [])) st127 ?_
            refine go (u' := T127.setTop (mkF m 68 #[.val (.ref o0), .val (.int p1), .val (.int p2), .val (.int (1 : Int32))] [(.ref o0)])) (fun _ ks_ => XS.aloadN X127.here hx rfl (hb hby d4_67) rfl rfl ks_) ?_
            refine go (u' := T127.setTop (mkF m 69 #[.val (.ref o0), .val (.int p1), .val (.int p2), .val (.int (1 : Int32))] [(.int (1 : Int32)), (.ref o0)])) (fun _ ks_ => XS.iconst X127.here hx rfl (hb hby d4_68) ks_) ?_
            obtain ⟨T133, h133, X133, e133, W133, st133⟩ := putF X127 hx hZ hown (host := "") (Or.inl (ww hw 16 rfl)) Via.refl e127 Fa129 Fa128 (Or.inl (ww hw 17 rfl)) (ww hw 6 rfl) (ty := .int) (by decide) rfl rfl (g := (mkF m 69 #[.val (.ref o0), .val (.int p1), .val (.int p2), .val (.int (1 : Int32))] [(.int (1 : Int32)), (.ref o0)])) rfl rfl (hb hby d4_69)
            have N133 := Fr.snoc X133 N127 g_o0
            have K133 : Keep h0 h133 [o0] := K127.wr W133 (Or.inl (List.mem_of_getElem? (i := 0) rfl))
            have Z133 : n0 ≤ h133.size := Nat.le_trans Z127 (Keep.of_wr W133).1
            have Fa134 : Exa Z h133 o0 "com/example/locattr/locattr/PlaceCounter" := Fa128.wr W133
            have Fa135 : Fld Z h133 o0 "com/example/locattr/locattr/PlaceCounter" "line" "I" (.int (li + (1 : Int32))) := Fa132.other W133 (Or.inr (slot_ne (Or.inl (ww hw 15 rfl)) (Or.inl (ww hw 17 rfl)) (by decide) (t := .int) (t' := .int) (by decide) (by decide)))
            have Fa136 : Fld Z h133 o0 "com/example/locattr/locattr/PlaceCounter" "xml11" "Z" (.int xm) := Fa130.other W133 (Or.inr (slot_ne (Or.inr (ww hw 19 rfl)) (Or.inl (ww hw 17 rfl)) (by decide) (t := .boolean) (t' := .int) (by decide) (by decide)))
            have Fa137 : Fld Z h133 o0 "com/example/locattr/locattr/PlaceCounter" "afterReturn" "Z" (.int ar) := Fa131.other W133 (Or.inr (slot_ne (Or.inl (ww hw 26 rfl)) (Or.inl (ww hw 17 rfl)) (by decide) (t := .boolean) (t' := .int) (by decide) (by decide)))
            have Fa138 : Fld Z h133 o0 "com/example/locattr/locattr/PlaceCounter" "column" "I" (.int (1 : Int32)) := Fa129.same W133
            refine go (u' := T133.setTop (mkF m 72 #[.val (.ref o0), .val (.int p1), .val (.int p2), .val (.int (1 : Int32))] [])) st133 ?_
            refine go (u' := T133.setTop (mkF m 89 #[.val (.ref o0), .val (.int p1), .val (.int p2), .val (.int (1 : Int32))] [])) (fun _ ks_ => XS.goto X133.here hx rfl (pc0 := 72) (pc' := 89) rfl (hb hby d4_72) (by decide) (by decide) ks_) ?_
            refine go (u' := T133.setTop (mkF m 90 #[.val (.ref o0), .val (.int p1), .val (.int p2), .val (.int (1 : Int32))] [(.ref o0)])) (fun _ ks_ => XS.aloadN X133.here hx rfl (hb hby d4_89) rfl rfl ks_) ?_
            refine go (u' := T133.setTop (mkF m 91 #[.val (.ref o0), .val (.int p1), .val (.int p2), .val (.int (1 : Int32))] [(.int p1), (.ref o0)])) (fun _ ks_ => XS.iloadN X133.here hx rfl (hb hby d4_90) rfl  ks_) ?_
            refine go (u' := T133.setTop (mkF m 93 #[.val (.ref o0), .val (.int p1), .val (.int p2), .val (.int (1 : Int32))] [(.int (13 : Int32)), (.int p1), (.ref o0)])) (fun _ ks_ => XS.bipush X133.here hx rfl (hb hby d4_91) ks_) ?_
            refine go (u' := T133.setTop (mkF m 100 #[.val (.ref o0), .val (.int p1), .val (.int p2), .val (.int (1 : Int32))] [(.ref o0)])) (fun _ ks_ => XS.icmpYes X133.here hx rfl (pc0 := 93) (pc' := 100) rfl (hb hby d4_93) rfl (feq c29_9).2 (by decide) (by decide) ks_) ?_
            refine go (u' := T133.setTop (mkF m 101 #[.val (.ref o0), .val (.int p1), .val (.int p2), .val (.int (1 : Int32))] [(.int (0 : Int32)), (.ref o0)])) (fun _ ks_ => XS.iconst X133.here hx rfl (hb hby d4_100) ks_) ?_
            have hn139 : narrow .boolean (.int (0 : Int32)) = .int (0 : Int32) := rfl
            have hf139 : fits .boolean (.int (0 : Int32)) = true := rfl
            obtain ⟨T139, h139, X139, e139, W139, st139⟩ := putFN X133 hx hZ hown (ww hw 25 rfl) Via.refl e133 Fa137 Fa134 (Or.inl (ww hw 26 rfl)) (ww hw 6 rfl) (ty := .boolean) (v' := .int (0 : Int32)) (by decide) hn139 hf139 (g := (mkF m 101 #[.val (.ref o0), .val (.int p1), .val (.int p2), .val (.int (1 : Int32))] [(.int (0 : Int32)), (.ref o0)])) rfl rfl (hb hby d4_101)
            have N139 := Fr.snoc X139 N133 g_o0
            have K139 : Keep h0 h139 [o0] := K133.wr W139 (Or.inl (List.mem_of_getElem? (i := 0) rfl))
            have Z139 : n0 ≤ h139.size := Nat.le_trans Z133 (Keep.of_wr W139).1
            have Fa140 : Exa Z h139 o0 "com/example/locattr/locattr/PlaceCounter" := Fa134.wr W139
            have Fa141 : Fld Z h139 o0 "com/example/locattr/locattr/PlaceCounter" "line" "I" (.int (li + (1 : Int32))) := Fa135.other W139 (Or.inr (slot_ne (Or.inl (ww hw 15 rfl)) (Or.inl (ww hw 26 rfl)) (by decide) (t := .int) (t' := .boolean) (by decide) (by decide)))
            have Fa142 : Fld Z h139 o0 "com/example/locattr/locattr/PlaceCounter" "column" "I" (.int (1 : Int32)) := Fa138.other W139 (Or.inr (slot_ne (Or.inl (ww hw 17 rfl)) (Or.inl (ww hw 26 rfl)) (by decide) (t := .int) (t' := .boolean) (by decide) (by decide)))
            have Fa143 : Fld Z h139 o0 "com/example/locattr/locattr/PlaceCounter" "xml11" "Z" (.int xm) := Fa136.other W139 (Or.inr (slot_ne (Or.inr (ww hw 19 rfl)) (Or.inl (ww hw 26 rfl)) (by decide) (t := .boolean) (t' := .boolean) (by decide) (by decide)))
            have Fa144 : Fld Z h139 o0 "com/example/locattr/locattr/PlaceCounter" "afterReturn" "Z" (.int (0 : Int32)) := Fa137.same W139
            refine go (u' := T139.setTop (mkF m 104 #[.val (.ref o0), .val (.int p1), .val (.int p2), .val (.int (1 : Int32))] [])) st139 ?_
            rw [hG]
            refine g0 X139 hx hlk hret (hb hby d4_104) ?_ (Nat.le_of_ble_eq_true rfl) (Nat.le_of_ble_eq_true rfl)
            show Q_rm4 Z o0 p1 p2 li co xm ar h0 n0 (none) T139.heap _
            rw [e139]
            exact ⟨rfl, N139, K139, Fa140, (own_Fto Fa141 (congrArg Value.int (show (li + (1 : Int32)) = (if p1 = (10 : Int32) then (if p1 = (13 : Int32) then (li + (1 : Int32)) else (if ar = (0 : Int32) then (li + (1 : Int32)) else (if xm = (0 : Int32) then li else (if p1 = (8232 : Int32) then (li + (1 : Int32)) else li)))) else (if xm = (0 : Int32) then (if p1 = (13 : Int32) then (li + (1 : Int32)) else li) else (if p1 = (133 : Int32) then (if p1 = (13 : Int32) then (li + (1 : Int32)) else (if ar = (0 : Int32) then (li + (1 : Int32)) else (if p1 = (8232 : Int32) then (li + (1 : Int32)) else li))) else (if p1 = (13 : Int32) then (li + (1 : Int32)) else (if p1 = (8232 : Int32) then (li + (1 : Int32)) else li))))) from ((((((if_neg c3_1).trans (if_neg c10_6)).trans (if_pos c17_8)).trans (if_neg c29_9)).trans (if_pos c40_10))).symm))), (own_Fto Fa142 (congrArg Value.int (show (1 : Int32) = (if p1 = (10 : Int32) then (if p1 = (13 : Int32) then (1 : Int32) else (if ar = (0 : Int32) then (1 : Int32) else (if xm = (0 : Int32) then co else (if p1 = (8232 : Int32) then (1 : Int32) else co)))) else (if xm = (0 : Int32) then (if p1 = (13 : Int32) then (1 : Int32) else (co + p2)) else (if p1 = (133 : Int32) then (if p1 = (13 : Int32) then (1 : Int32) else (if ar = (0 : Int32) then (1 : Int32) else (if p1 = (8232 : Int32) then (1 : Int32) else co))) else (if p1 = (13 : Int32) then (1 : Int32) else (if p1 = (8232 : Int32) then (1 : Int32) else (co + p2)))))) from ((((((if_neg c3_1).trans (if_neg c10_6)).trans (if_pos c17_8)).trans (if_neg c29_9)).trans (if_pos c40_10))).symm))), Fa143, (own_Fto Fa144 (congrArg Value.int (show (0 : Int32) = (if p1 = (13 : Int32) then (1 : Int32) else (0 : Int32)) from ((if_neg c29_9)).symm)))⟩
          ·
            refine go (u' := T125.setTop (mkF m 43 #[.val (.ref o0), .val (.int p1), .val (.int p2), .val (.int (1 : Int32))] [])) (fun _ ks_ => XS.ifNo X125.here hx rfl (hb hby d4_40) rfl ((if0 _ _).trans (feq c40_10).1) ks_) ?_
            refine go (u' := T125.setTop (mkF m 44 #[.val (.ref o0), .val (.int p1), .val (.int p2), .val (.int (1 : Int32))] [(.ref o0)])) (fun _ ks_ => XS.aloadN X125.here hx rfl (hb hby d4_43) rfl rfl ks_) ?_
            obtain ⟨T145, X145, e145, st145⟩ := getF X125 hx hZ hown (host := "") (Or.inl (ww hw 18 rfl)) Via.refl e125 F3 (g := (mkF m 44 #[.val (.ref o0), .val (.int p1), .val (.int p2), .val (.int (1 : Int32))] [(.ref o0)])) rfl rfl (hb hby d4_44)
            refine go (u' := T145.setTop (mkF m 47 #[.val (.ref o0), .val (.int p1), .val (.int p2), .val (.int (1 : Int32))] [(.int xm)])) st145 ?_
            refine go (u' := T145.setTop (mkF m 50 #[.val (.ref o0), .val (.int p1), .val (.int p2), .val (.int (1 : Int32))] [])) (fun _ ks_ => XS.ifNo X145.here hx rfl (hb hby d4_47) rfl ((if0 _ _).trans (feq c10_6).1) ks_) ?_
            refine go (u' := T145.setTop (mkF m 51 #[.val (.ref o0), .val (.int p1), .val (.int p2), .val (.int (1 : Int32))] [(.int p1)])) (fun _ ks_ => XS.iloadN X145.here hx rfl (hb hby d4_50) rfl  ks_) ?_
            refine go (u' := T145.setTop (mkF m 54 #[.val (.ref o0), .val (.int p1), .val (.int p2), .val (.int (1 : Int32))] [(.int (8232 : Int32)), (.int p1)])) (fun _ ks_ => XS.sipush X145.here hx rfl (hb hby d4_51) ks_) ?_
            by_cases c54_11 : p1 = (8232 : Int32)
            ·
              refine go (u' := T145.setTop (mkF m 57 #[.val (.ref o0), .val (.int p1), .val (.int p2), .val (.int (1 : Int32))] [])) (fun _ ks_ => XS.icmpNo X145.here hx rfl (hb hby d4_54) rfl (teq c54_11).2 ks_) ?_
              refine go (u' := T145.setTop (mkF m 58 #[.val (.ref o0), .val (.int p1), .val (.int p2), .val (.int (1 : Int32))] [(.ref o0)])) (fun _ ks_ => XS.aloadN X145.here hx rfl (hb hby d4_57) rfl rfl ks_) ?_
              refine go (u' := T145.setTop (mkF m 59 #[.val (.ref o0), .val (.int p1), .val (.int p2), .val (.int (1 : Int32))] [(.ref o0), (.ref o0)])) (fun _ ks_ => XS.dup X145.here hx rfl (hb hby d4_58) rfl rfl ks_) ?_
              obtain ⟨T146, X146, e146, st146⟩ := getF X145 hx hZ hown (host := "") (Or.inl (ww hw 14 rfl)) Via.refl e145 F1 (g := (mkF m 59 #[.val (.ref o0), .val (.int p1), .val (.int p2), .val (.int (1 : Int32))] [(.ref o0), (.ref o0)])) rfl rfl (hb hby d4_59)
              refine go (u' := T146.setTop (mkF m 62 #[.val (.ref o0), .val (.int p1), .val (.int p2), .val (.int (1 : Int32))] [(.int li), (.ref o0)])) st146 ?_
              refine go (u' := T146.setTop (mkF m 63 #[.val (.ref o0), .val (.int p1), .val (.int p2), .val (.int (1 : Int32))] [(.int (1 : Int32)), (.int li), (.ref o0)])) (fun _ ks_ => XS.iconst X146.here hx rfl (hb hby d4_62) ks_) ?_
              refine go (u' := T146.setTop (mkF m 64 #[.val (.ref o0), .val (.int p1), .val (.int p2), .val (.int (1 : Int32))] [(.int (li + (1 : Int32))), (.ref o0)])) (fun _ ks_ => XS.iadd X146.here hx rfl (hb hby d4_63) rfl ks_) ?_
              obtain ⟨T147, h147, X147, e147, W147, st147⟩ := putF X146 hx hZ hown (host := "") (Or.inl (ww hw 14 rfl)) Via.refl e146 F1 F0 (Or.inl (ww hw 15 rfl)) (ww hw 6 rfl) (ty := .int) (by decide) rfl rfl (g := (mkF m 64 #[.val (.ref o0), .val (.int p1), .val (.int p2), .val (.int (1 : Int32))] [(.int (li + (1 : Int32))), (.ref o0)])) rfl rfl (hb hby d4_64)
              have N147 := Fr.snoc X147 N0 g_o0
              have K147 : Keep h0 h147 [o0] := (Keep.refl h0 [o0]).wr W147 (Or.inl (List.mem_of_getElem? (i := 0) rfl))
              have Z147 : n0 ≤ h147.size := Nat.le_trans Z0 (Keep.of_wr W147).1
              have Fa148 : Exa Z h147 o0 "com/example/locattr/locattr/PlaceCounter" := F0.wr W147
              have Fa149 : Fld Z h147 o0 "com/example/locattr/locattr/PlaceCounter" "column" "I" (.int co) := F2.other W147 (Or.inr (slot_ne (Or.inl (ww hw 17 rfl)) (Or.inl (ww hw 15 rfl)) (by decide) (t := .int) (t' := .int) (by decide) (by decide)))
              have Fa150 : Fld Z h147 o0 "com/example/locattr/locattr/PlaceCounter" "xml11" "Z" (.int xm) := F3.other W147 (Or.inr (slot_ne (Or.inr (ww hw 19 rfl)) (Or.inl (ww hw 15 rfl)) (by decide) (t := .boolean) (t' := .int) (by decide) (by decide)))
              have Fa151 : Fld Z h147 o0 "com/example/locattr/locattr/PlaceCounter" "afterReturn" "Z" (.int ar) := F4.other W147 (Or.inr (slot_ne (Or.inl (ww hw 26 rfl)) (Or.inl (ww hw 15 rfl)) (by decide) (t := .boolean) (t' := .int) (by decide) (by decide)))
              have Fa152 : Fld Z h147 o0 "com/example/locattr/locattr/PlaceCounter" "line" "I" (.int (li + (1 : Int32))) := F1.same W147
              refine go (u' := T147.setTop (mkF m 67 #[.val (.ref o0), .val (.int p1), .val (.int p2), .val (.int (1 : Int32))] [])) st147 ?_
              refine go (u' := T147.setTop (mkF m 68 #[.val (.ref o0), .val (.int p1), .val (.int p2), .val (.int (1 : Int32))] [(.ref o0)])) (fun _ ks_ => XS.aloadN X147.here hx rfl (hb hby d4_67) rfl rfl ks_) ?_
              refine go (u' := T147.setTop (mkF m 69 #[.val (.ref o0), .val (.int p1), .val (.int p2), .val (.int (1 : Int32))] [(.int (1 : Int32)), (.ref o0)])) (fun _ ks_ => XS.iconst X147.here hx rfl (hb hby d4_68) ks_) ?_
              obtain ⟨T153, h153, X153, e153, W153, st153⟩ := putF X147 hx hZ hown (host := "") (Or.inl (ww hw 16 rfl)) Via.refl e147 Fa149 Fa148 (Or.inl (ww hw 17 rfl)) (ww hw 6 rfl) (ty := .int) (by decide) rfl rfl (g := (mkF m 69 #[.val (.ref o0), .val (.int p1), .val (.int p2), .val (.int (1 : Int32))] [(.int (1 : Int32)), (.ref o0)])) rfl rfl (hb hby d4_69)
              have N153 := Fr.snoc X153 N147 g_o0
              have K153 : Keep h0 h153 [o0] := K147.wr W153 (Or.inl (List.mem_of_getElem? (i := 0) rfl))
              have Z153 : n0 ≤ h153.size := Nat.le_trans Z147 (Keep.of_wr W153).1
              have Fa154 : Exa Z h153 o0 "com/example/locattr/locattr/PlaceCounter" := Fa148.wr W153
              have Fa155 : Fld Z h153 o0 "com/example/locattr/locattr/PlaceCounter" "line" "I" (.int (li + (1 : Int32))) := Fa152.other W153 (Or.inr (slot_ne (Or.inl (ww hw 15 rfl)) (Or.inl (ww hw 17 rfl)) (by decide) (t := .int) (t' := .int) (by decide) (by decide)))
              have Fa156 : Fld Z h153 o0 "com/example/locattr/locattr/PlaceCounter" "xml11" "Z" (.int xm) := Fa150.other W153 (Or.inr (slot_ne (Or.inr (ww hw 19 rfl)) (Or.inl (ww hw 17 rfl)) (by decide) (t := .boolean) (t' := .int) (by decide) (by decide)))
              have Fa157 : Fld Z h153 o0 "com/example/locattr/locattr/PlaceCounter" "afterReturn" "Z" (.int ar) := Fa151.other W153 (Or.inr (slot_ne (Or.inl (ww hw 26 rfl)) (Or.inl (ww hw 17 rfl)) (by decide) (t := .boolean) (t' := .int) (by decide) (by decide)))
              have Fa158 : Fld Z h153 o0 "com/example/locattr/locattr/PlaceCounter" "column" "I" (.int (1 : Int32)) := Fa149.same W153
              refine go (u' := T153.setTop (mkF m 72 #[.val (.ref o0), .val (.int p1), .val (.int p2), .val (.int (1 : Int32))] [])) st153 ?_
              refine go (u' := T153.setTop (mkF m 89 #[.val (.ref o0), .val (.int p1), .val (.int p2), .val (.int (1 : Int32))] [])) (fun _ ks_ => XS.goto X153.here hx rfl (pc0 := 72) (pc' := 89) rfl (hb hby d4_72) (by decide) (by decide) ks_) ?_
              refine go (u' := T153.setTop (mkF m 90 #[.val (.ref o0), .val (.int p1), .val (.int p2), .val (.int (1 : Int32))] [(.ref o0)])) (fun _ ks_ => XS.aloadN X153.here hx rfl (hb hby d4_89) rfl rfl ks_) ?_
              refine go (u' := T153.setTop (mkF m 91 #[.val (.ref o0), .val (.int p1), .val (.int p2), .val (.int (1 : Int32))] [(.int p1), (.ref o0)])) (fun _ ks_ => XS.iloadN X153.here hx rfl (hb hby d4_90) rfl  ks_) ?_
              refine go (u' := T153.setTop (mkF m 93 #[.val (.ref o0), .val (.int p1), .val (.int p2), .val (.int (1 : Int32))] [(.int (13 : Int32)), (.int p1), (.ref o0)])) (fun _ ks_ => XS.bipush X153.here hx rfl (hb hby d4_91) ks_) ?_
              refine go (u' := T153.setTop (mkF m 100 #[.val (.ref o0), .val (.int p1), .val (.int p2), .val (.int (1 : Int32))] [(.ref o0)])) (fun _ ks_ => XS.icmpYes X153.here hx rfl (pc0 := 93) (pc' := 100) rfl (hb hby d4_93) rfl (feq c29_9).2 (by decide) (by decide) ks_) ?_
              refine go (u' := T153.setTop (mkF m 101 #[.val (.ref o0), .val (.int p1), .val (.int p2), .val (.int (1 : Int32))] [(.int (0 : Int32)), (.ref o0)])) (fun _ ks_ => XS.iconst X153.here hx rfl (hb hby d4_100) ks_) ?_
              have hn159 : narrow .boolean (.int (0 : Int32)) = .int (0 : Int32) := rfl
              have hf159 : fits .boolean (.int (0 : Int32)) = true := rfl
              obtain ⟨T159, h159, X159, e159, W159, st159⟩ := putFN X153 hx hZ hown (ww hw 25 rfl) Via.refl e153 Fa157 Fa154 (Or.inl (ww hw 26 rfl)) (ww hw 6 rfl) (ty := .boolean) (v' := .int (0 : Int32)) (by decide) hn159 hf159 (g := (mkF m 101 #[.val (.ref o0), .val (.int p1), .val (.int p2), .val (.int (1 : Int32))] [(.int (0 : Int32)), (.ref o0)])) rfl rfl (hb hby d4_101)
              have N159 := Fr.snoc X159 N153 g_o0
              have K159 : Keep h0 h159 [o0] := K153.wr W159 (Or.inl (List.mem_of_getElem? (i := 0) rfl))
              have Z159 : n0 ≤ h159.size := Nat.le_trans Z153 (Keep.of_wr W159).1
              have Fa160 : Exa Z h159 o0 "com/example/locattr/locattr/PlaceCounter" := Fa154.wr W159
              have Fa161 : Fld Z h159 o0 "com/example/locattr/locattr/PlaceCounter" "line" "I" (.int (li + (1 : Int32))) := Fa155.other W159 (Or.inr (slot_ne (Or.inl (ww hw 15 rfl)) (Or.inl (ww hw 26 rfl)) (by decide) (t := .int) (t' := .boolean) (by decide) (by decide)))
              have Fa162 : Fld Z h159 o0 "com/example/locattr/locattr/PlaceCounter" "column" "I" (.int (1 : Int32)) := Fa158.other W159 (Or.inr (slot_ne (Or.inl (ww hw 17 rfl)) (Or.inl (ww hw 26 rfl)) (by decide) (t := .int) (t' := .boolean) (by decide) (by decide)))
              have Fa163 : Fld Z h159 o0 "com/example/locattr/locattr/PlaceCounter" "xml11" "Z" (.int xm) := Fa156.other W159 (Or.inr (slot_ne (Or.inr (ww hw 19 rfl)) (Or.inl (ww hw 26 rfl)) (by decide) (t := .boolean) (t' := .boolean) (by decide) (by decide)))
              have Fa164 : Fld Z h159 o0 "com/example/locattr/locattr/PlaceCounter" "afterReturn" "Z" (.int (0 : Int32)) := Fa157.same W159
              refine go (u' := T159.setTop (mkF m 104 #[.val (.ref o0), .val (.int p1), .val (.int p2), .val (.int (1 : Int32))] [])) st159 ?_
              rw [hG]
              refine g0 X159 hx hlk hret (hb hby d4_104) ?_ (Nat.le_of_ble_eq_true rfl) (Nat.le_of_ble_eq_true rfl)
              show Q_rm4 Z o0 p1 p2 li co xm ar h0 n0 (none) T159.heap _
              rw [e159]
              exact ⟨rfl, N159, K159, Fa160, (own_Fto Fa161 (congrArg Value.int (show (li + (1 : Int32)) = (if p1 = (10 : Int32) then (if p1 = (13 : Int32) then (li + (1 : Int32)) else (if ar = (0 : Int32) then (li + (1 : Int32)) else (if xm = (0 : Int32) then li else (if p1 = (8232 : Int32) then (li + (1 : Int32)) else li)))) else (if xm = (0 : Int32) then (if p1 = (13 : Int32) then (li + (1 : Int32)) else li) else (if p1 = (133 : Int32) then (if p1 = (13 : Int32) then (li + (1 : Int32)) else (if ar = (0 : Int32) then (li + (1 : Int32)) else (if p1 = (8232 : Int32) then (li + (1 : Int32)) else li))) else (if p1 = (13 : Int32) then (li + (1 : Int32)) else (if p1 = (8232 : Int32) then (li + (1 : Int32)) else li))))) from (((((((if_neg c3_1).trans (if_neg c10_6)).trans (if_pos c17_8)).trans (if_neg c29_9)).trans (if_neg c40_10)).trans (if_pos c54_11))).symm))), (own_Fto Fa162 (congrArg Value.int (show (1 : Int32) = (if p1 = (10 : Int32) then (if p1 = (13 : Int32) then (1 : Int32) else (if ar = (0 : Int32) then (1 : Int32) else (if xm = (0 : Int32) then co else (if p1 = (8232 : Int32) then (1 : Int32) else co)))) else (if xm = (0 : Int32) then (if p1 = (13 : Int32) then (1 : Int32) else (co + p2)) else (if p1 = (133 : Int32) then (if p1 = (13 : Int32) then (1 : Int32) else (if ar = (0 : Int32) then (1 : Int32) else (if p1 = (8232 : Int32) then (1 : Int32) else co))) else (if p1 = (13 : Int32) then (1 : Int32) else (if p1 = (8232 : Int32) then (1 : Int32) else (co + p2)))))) from (((((((if_neg c3_1).trans (if_neg c10_6)).trans (if_pos c17_8)).trans (if_neg c29_9)).trans (if_neg c40_10)).trans (if_pos c54_11))).symm))), Fa163, (own_Fto Fa164 (congrArg Value.int (show (0 : Int32) = (if p1 = (13 : Int32) then (1 : Int32) else (0 : Int32)) from ((if_neg c29_9)).symm)))⟩
            ·
              refine go (u' := T145.setTop (mkF m 75 #[.val (.ref o0), .val (.int p1), .val (.int p2), .val (.int (1 : Int32))] [])) (fun _ ks_ => XS.icmpYes X145.here hx rfl (pc0 := 54) (pc' := 75) rfl (hb hby d4_54) rfl (feq c54_11).2 (by decide) (by decide) ks_) ?_
              refine go (u' := T145.setTop (mkF m 76 #[.val (.ref o0), .val (.int p1), .val (.int p2), .val (.int (1 : Int32))] [(.int (1 : Int32))])) (fun _ ks_ => XS.iloadN X145.here hx rfl (hb hby d4_75) rfl  ks_) ?_
              refine go (u' := T145.setTop (mkF m 89 #[.val (.ref o0), .val (.int p1), .val (.int p2), .val (.int (1 : Int32))] [])) (fun _ ks_ => XS.ifYes X145.here hx rfl (pc0 := 76) (pc' := 89) rfl (hb hby d4_76) rfl ((if0 _ _).trans (feq (show ¬ ((1 : Int32) = (0 : Int32)) from (by decide))).2) (by decide) (by decide) ks_) ?_
              refine go (u' := T145.setTop (mkF m 90 #[.val (.ref o0), .val (.int p1), .val (.int p2), .val (.int (1 : Int32))] [(.ref o0)])) (fun _ ks_ => XS.aloadN X145.here hx rfl (hb hby d4_89) rfl rfl ks_) ?_
              refine go (u' := T145.setTop (mkF m 91 #[.val (.ref o0), .val (.int p1), .val (.int p2), .val (.int (1 : Int32))] [(.int p1), (.ref o0)])) (fun _ ks_ => XS.iloadN X145.here hx rfl (hb hby d4_90) rfl  ks_) ?_
              refine go (u' := T145.setTop (mkF m 93 #[.val (.ref o0), .val (.int p1), .val (.int p2), .val (.int (1 : Int32))] [(.int (13 : Int32)), (.int p1), (.ref o0)])) (fun _ ks_ => XS.bipush X145.here hx rfl (hb hby d4_91) ks_) ?_
              refine go (u' := T145.setTop (mkF m 100 #[.val (.ref o0), .val (.int p1), .val (.int p2), .val (.int (1 : Int32))] [(.ref o0)])) (fun _ ks_ => XS.icmpYes X145.here hx rfl (pc0 := 93) (pc' := 100) rfl (hb hby d4_93) rfl (feq c29_9).2 (by decide) (by decide) ks_) ?_
              refine go (u' := T145.setTop (mkF m 101 #[.val (.ref o0), .val (.int p1), .val (.int p2), .val (.int (1 : Int32))] [(.int (0 : Int32)), (.ref o0)])) (fun _ ks_ => XS.iconst X145.here hx rfl (hb hby d4_100) ks_) ?_
              have hn165 : narrow .boolean (.int (0 : Int32)) = .int (0 : Int32) := rfl
              have hf165 : fits .boolean (.int (0 : Int32)) = true := rfl
              obtain ⟨T165, h165, X165, e165, W165, st165⟩ := putFN X145 hx hZ hown (ww hw 25 rfl) Via.refl e145 F4 F0 (Or.inl (ww hw 26 rfl)) (ww hw 6 rfl) (ty := .boolean) (v' := .int (0 : Int32)) (by decide) hn165 hf165 (g := (mkF m 101 #[.val (.ref o0), .val (.int p1), .val (.int p2), .val (.int (1 : Int32))] [(.int (0 : Int32)), (.ref o0)])) rfl rfl (hb hby d4_101)
              have N165 := Fr.snoc X165 N0 g_o0
              have K165 : Keep h0 h165 [o0] := (Keep.refl h0 [o0]).wr W165 (Or.inl (List.mem_of_getElem? (i := 0) rfl))
              have Z165 : n0 ≤ h165.size := Nat.le_trans Z0 (Keep.of_wr W165).1
              have Fa166 : Exa Z h165 o0 "com/example/locattr/locattr/PlaceCounter" := F0.wr W165
              have Fa167 : Fld Z h165 o0 "com/example/locattr/locattr/PlaceCounter" "line" "I" (.int li) := F1.other W165 (Or.inr (slot_ne (Or.inl (ww hw 15 rfl)) (Or.inl (ww hw 26 rfl)) (by decide) (t := .int) (t' := .boolean) (by decide) (by decide)))
              have Fa168 : Fld Z h165 o0 "com/example/locattr/locattr/PlaceCounter" "column" "I" (.int co) := F2.other W165 (Or.inr (slot_ne (Or.inl (ww hw 17 rfl)) (Or.inl (ww hw 26 rfl)) (by decide) (t := .int) (t' := .boolean) (by decide) (by decide)))
              have Fa169 : Fld Z h165 o0 "com/example/locattr/locattr/PlaceCounter" "xml11" "Z" (.int xm) := F3.other W165 (Or.inr (slot_ne (Or.inr (ww hw 19 rfl)) (Or.inl (ww hw 26 rfl)) (by decide) (t := .boolean) (t' := .boolean) (by decide) (by decide)))
              have Fa170 : Fld Z h165 o0 "com/example/locattr/locattr/PlaceCounter" "afterReturn" "Z" (.int (0 : Int32)) := F4.same W165
              refine go (u' := T165.setTop (mkF m 104 #[.val (.ref o0), .val (.int p1), .val (.int p2), .val (.int (1 : Int32))] [])) st165 ?_
              rw [hG]
              refine g0 X165 hx hlk hret (hb hby d4_104) ?_ (Nat.le_of_ble_eq_true rfl) (Nat.le_of_ble_eq_true rfl)
              show Q_rm4 Z o0 p1 p2 li co xm ar h0 n0 (none) T165.heap _
              rw [e165]
              exact ⟨rfl, N165, K165, Fa166, (own_Fto Fa167 (congrArg Value.int (show li = (if p1 = (10 : Int32) then (if p1 = (13 : Int32) then (li + (1 : Int32)) else (if ar = (0 : Int32) then (li + (1 : Int32)) else (if xm = (0 : Int32) then li else (if p1 = (8232 : Int32) then (li + (1 : Int32)) else li)))) else (if xm = (0 : Int32) then (if p1 = (13 : Int32) then (li + (1 : Int32)) else li) else (if p1 = (133 : Int32) then (if p1 = (13 : Int32) then (li + (1 : Int32)) else (if ar = (0 : Int32) then (li + (1 : Int32)) else (if p1 = (8232 : Int32) then (li + (1 : Int32)) else li))) else (if p1 = (13 : Int32) then (li + (1 : Int32)) else (if p1 = (8232 : Int32) then (li + (1 : Int32)) else li))))) from (((((((if_neg c3_1).trans (if_neg c10_6)).trans (if_pos c17_8)).trans (if_neg c29_9)).trans (if_neg c40_10)).trans (if_neg c54_11))).symm))), (own_Fto Fa168 (congrArg Value.int (show co = (if p1 = (10 : Int32) then (if p1 = (13 : Int32) then (1 : Int32) else (if ar = (0 : Int32) then (1 : Int32) else (if xm = (0 : Int32) then co else (if p1 = (8232 : Int32) then (1 : Int32) else co)))) else (if xm = (0 : Int32) then (if p1 = (13 : Int32) then (1 : Int32) else (co + p2)) else (if p1 = (133 : Int32) then (if p1 = (13 : Int32) then (1 : Int32) else (if ar = (0 : Int32) then (1 : Int32) else (if p1 = (8232 : Int32) then (1 : Int32) else co))) else (if p1 = (13 : Int32) then (1 : Int32) else (if p1 = (8232 : Int32) then (1 : Int32) else (co + p2)))))) from (((((((if_neg c3_1).trans (if_neg c10_6)).trans (if_pos c17_8)).trans (if_neg c29_9)).trans (if_neg c40_10)).trans (if_neg c54_11))).symm))), Fa169, (own_Fto Fa170 (congrArg Value.int (show (0 : Int32) = (if p1 = (13 : Int32) then (1 : Int32) else (0 : Int32)) from ((if_neg c29_9)).symm)))⟩
      ·
        refine go (u' := T72.setTop (mkF m 24 #[.val (.ref o0), .val (.int p1), .val (.int p2), .unset] [])) (fun _ ks_ => XS.icmpYes X72.here hx rfl (pc0 := 17) (pc' := 24) rfl (hb hby d4_17) rfl (feq c17_8).2 (by decide) (by decide) ks_) ?_
        refine go (u' := T72.setTop (mkF m 25 #[.val (.ref o0), .val (.int p1), .val (.int p2), .unset] [(.int (0 : Int32))])) (fun _ ks_ => XS.iconst X72.here hx rfl (hb hby d4_24) ks_) ?_
        refine go (u' := T72.setTop (mkF m 26 #[.val (.ref o0), .val (.int p1), .val (.int p2), .val (.int (0 : Int32))] [])) (fun _ ks_ => XS.istoreN X72.here hx rfl (hb hby d4_25) rfl  (l' := #[.val (.ref o0), .val (.int p1), .val (.int p2), .val (.int (0 : Int32))]) rfl ks_) ?_
        refine go (u' := T72.setTop (mkF m 27 #[.val (.ref o0), .val (.int p1), .val (.int p2), .val (.int (0 : Int32))] [(.int p1)])) (fun _ ks_ => XS.iloadN X72.here hx rfl (hb hby d4_26) rfl  ks_) ?_
        refine go (u' := T72.setTop (mkF m 29 #[.val (.ref o0), .val (.int p1), .val (.int p2), .val (.int (0 : Int32))] [(.int (13 : Int32)), (.int p1)])) (fun _ ks_ => XS.bipush X72.here hx rfl (hb hby d4_27) ks_) ?_
        by_cases c29_12 : p1 = (13 : Int32)
        ·
          refine go (u' := T72.setTop (mkF m 57 #[.val (.ref o0), .val (.int p1), .val (.int p2), .val (.int (0 : Int32))] [])) (fun _ ks_ => XS.icmpYes X72.here hx rfl (pc0 := 29) (pc' := 57) rfl (hb hby d4_29) rfl (teq c29_12).1 (by decide) (by decide) ks_) ?_
          refine go (u' := T72.setTop (mkF m 58 #[.val (.ref o0), .val (.int p1), .val (.int p2), .val (.int (0 : Int32))] [(.ref o0)])) (fun _ ks_ => XS.aloadN X72.here hx rfl (hb hby d4_57) rfl rfl ks_) ?_
          refine go (u' := T72.setTop (mkF m 59 #[.val (.ref o0), .val (.int p1), .val (.int p2), .val (.int (0 : Int32))] [(.ref o0), (.ref o0)])) (fun _ ks_ => XS.dup X72.here hx rfl (hb hby d4_58) rfl rfl ks_) ?_
          obtain ⟨T171, X171, e171, st171⟩ := getF X72 hx hZ hown (host := "") (Or.inl (ww hw 14 rfl)) Via.refl e72 F1 (g := (mkF m 59 #[.val (.ref o0), .val (.int p1), .val (.int p2), .val (.int (0 : Int32))] [(.ref o0), (.ref o0)])) rfl rfl (hb hby d4_59)
          refine go (u' := T171.setTop (mkF m 62 #[.val (.ref o0), .val (.int p1), .val (.int p2), .val (.int (0 : Int32))] [(.int li), (.ref o0)])) st171 ?_
          refine go (u' := T171.setTop (mkF m 63 #[.val (.ref o0), .val (.int p1), .val (.int p2), .val (.int (0 : Int32))] [(.int (1 : Int32)), (.int li), (.ref o0)])) (fun _ ks_ => XS.iconst X171.here hx rfl (hb hby d4_62) ks_) ?_
          refine go (u' := T171.setTop (mkF m 64 #[.val (.ref o0), .val (.int p1), .val (.int p2), .val (.int (0 : Int32))] [(.int (li + (1 : Int32))), (.ref o0)])) (fun _ ks_ => XS.iadd X171.here hx rfl (hb hby d4_63) rfl ks_) ?_
          obtain ⟨T172, h172, X172, e172, W172, st172⟩ := putF X171 hx hZ hown (host := "") (Or.inl (ww hw 14 rfl)) Via.refl e171 F1 F0 (Or.inl (ww hw 15 rfl)) (ww hw 6 rfl) (ty := .int) (by decide) rfl rfl (g := (mkF m 64 #[.val (.ref o0), .val (.int p1), .val (.int p2), .val (.int (0 : Int32))] [(.int (li + (1 : Int32))), (.ref o0)])) rfl rfl (hb hby d4_64)
          have N172 := Fr.snoc X172 N0 g_o0
          have K172 : Keep h0 h172 [o0] := (Keep.refl h0 [o0]).wr W172 (Or.inl (List.mem_of_getElem? (i := 0) rfl))
          have Z172 : n0 ≤ h172.size := Nat.le_trans Z0 (Keep.of_wr W172).1
          have Fa173 : Exa Z h172 o0 "com/example/locattr/locattr/PlaceCounter" := F0.wr W172
          have Fa174 : Fld Z h172 o0 "com/example/locattr/locattr/PlaceCounter" "column" "I" (.int co) := F2.other W172 (Or.inr (slot_ne (Or.inl (ww hw 17 rfl)) (Or.inl (ww hw 15 rfl)) (by decide) (t := .int) (t' := .int) (by decide) (by decide)))
          have Fa175 : Fld Z h172 o0 "com/example/locattr/locattr/PlaceCounter" "xml11" "Z" (.int xm) := F3.other W172 (Or.inr (slot_ne (Or.inr (ww hw 19 rfl)) (Or.inl (ww hw 15 rfl)) (by decide) (t := .boolean) (t' := .int) (by decide) (by decide)))
          have Fa176 : Fld Z h172 o0 "com/example/locattr/locattr/PlaceCounter" "afterReturn" "Z" (.int ar) := F4.other W172 (Or.inr (slot_ne (Or.inl (ww hw 26 rfl)) (Or.inl (ww hw 15 rfl)) (by decide) (t := .boolean) (t' := .int) (by decide) (by decide)))
          have Fa177 : Fld Z h172 o0 "com/example/locattr/locattr/PlaceCounter" "line" "I" (.int (li + (1 : Int32))) := F1.same W172
          refine go (u' := T172.setTop (mkF m 67 #[.val (.ref o0), .val (.int p1), .val (.int p2), .val (.int (0 : Int32))] [])) st172 ?_
          refine go (u' := T172.setTop (mkF m 68 #[.val (.ref o0), .val (.int p1), .val (.int p2), .val (.int (0 : Int32))] [(.ref o0)])) (fun _ ks_ => XS.aloadN X172.here hx rfl (hb hby d4_67) rfl rfl ks_) ?_
          refine go (u' := T172.setTop (mkF m 69 #[.val (.ref o0), .val (.int p1), .val (.int p2), .val (.int (0 : Int32))] [(.int (1 : Int32)), (.ref o0)])) (fun _ ks_ => XS.iconst X172.here hx rfl (hb hby d4_68) ks_) ?_
          obtain ⟨T178, h178, X178, e178, W178, st178⟩ := putF X172 hx hZ hown (host := "") (Or.inl (ww hw 16 rfl)) Via.refl e172 Fa174 Fa173 (Or.inl (ww hw 17 rfl)) (ww hw 6 rfl) (ty := .int) (by decide) rfl rfl (g := (mkF m 69 #[.val (.ref o0), .val (.int p1), .val (.int p2), .val (.int (0 : Int32))] [(.int (1 : Int32)), (.ref o0)])) rfl rfl (hb hby d4_69)
          have N178 := Fr.snoc X178 N172 g_o0
          have K178 : Keep h0 h178 [o0] := K172.wr W178 (Or.inl (List.mem_of_getElem? (i := 0) rfl))
          have Z178 : n0 ≤ h178.size := Nat.le_trans Z172 (Keep.of_wr W178).1
          have Fa179 : Exa Z h178 o0 "com/example/locattr/locattr/PlaceCounter" := Fa173.wr W178
          have Fa180 : Fld Z h178 o0 "com/example/locattr/locattr/PlaceCounter" "line" "I" (.int (li + (1 : Int32))) := Fa177.other W178 (Or.inr (slot_ne (Or.inl (ww hw 15 rfl)) (Or.inl (ww hw 17 rfl)) (by decide) (t := .int) (t' := .int) (by decide) (by decide)))
          have Fa181 : Fld Z h178 o0 "com/example/locattr/locattr/PlaceCounter" "xml11" "Z" (.int xm) := Fa175.other W178 (Or.inr (slot_ne (Or.inr (ww hw 19 rfl)) (Or.inl (ww hw 17 rfl)) (by decide) (t := .boolean) (t' := .int) (by decide) (by decide)))
          have Fa182 : Fld Z h178 o0 "com/example/locattr/locattr/PlaceCounter" "afterReturn" "Z" (.int ar) := Fa176.other W178 (Or.inr (slot_ne (Or.inl (ww hw 26 rfl)) (Or.inl (ww hw 17 rfl)) (by decide) (t := .boolean) (t' := .int) (by decide) (by decide)))
          have Fa183 : Fld Z h178 o0 "com/example/locattr/locattr/PlaceCounter" "column" "I" (.int (1 : Int32)) := Fa174.same W178
          refine go (u' := T178.setTop (mkF m 72 #[.val (.ref o0), .val (.int p1), .val (.int p2), .val (.int (0 : Int32))] [])) st178 ?_
          refine go (u' := T178.setTop (mkF m 89 #[.val (.ref o0), .val (.int p1), .val (.int p2), .val (.int (0 : Int32))] [])) (fun _ ks_ => XS.goto X178.here hx rfl (pc0 := 72) (pc' := 89) rfl (hb hby d4_72) (by decide) (by decide) ks_) ?_
          refine go (u' := T178.setTop (mkF m 90 #[.val (.ref o0), .val (.int p1), .val (.int p2), .val (.int (0 : Int32))] [(.ref o0)])) (fun _ ks_ => XS.aloadN X178.here hx rfl (hb hby d4_89) rfl rfl ks_) ?_
          refine go (u' := T178.setTop (mkF m 91 #[.val (.ref o0), .val (.int p1), .val (.int p2), .val (.int (0 : Int32))] [(.int p1), (.ref o0)])) (fun _ ks_ => XS.iloadN X178.here hx rfl (hb hby d4_90) rfl  ks_) ?_
          refine go (u' := T178.setTop (mkF m 93 #[.val (.ref o0), .val (.int p1), .val (.int p2), .val (.int (0 : Int32))] [(.int (13 : Int32)), (.int p1), (.ref o0)])) (fun _ ks_ => XS.bipush X178.here hx rfl (hb hby d4_91) ks_) ?_
          refine go (u' := T178.setTop (mkF m 96 #[.val (.ref o0), .val (.int p1), .val (.int p2), .val (.int (0 : Int32))] [(.ref o0)])) (fun _ ks_ => XS.icmpNo X178.here hx rfl (hb hby d4_93) rfl (teq c29_12).2 ks_) ?_
          refine go (u' := T178.setTop (mkF m 97 #[.val (.ref o0), .val (.int p1), .val (.int p2), .val (.int (0 : Int32))] [(.int (1 : Int32)), (.ref o0)])) (fun _ ks_ => XS.iconst X178.here hx rfl (hb hby d4_96) ks_) ?_
          refine go (u' := T178.setTop (mkF m 101 #[.val (.ref o0), .val (.int p1), .val (.int p2), .val (.int (0 : Int32))] [(.int (1 : Int32)), (.ref o0)])) (fun _ ks_ => XS.goto X178.here hx rfl (pc0 := 97) (pc' := 101) rfl (hb hby d4_97) (by decide) (by decide) ks_) ?_
          have hn184 : narrow .boolean (.int (1 : Int32)) = .int (1 : Int32) := rfl
          have hf184 : fits .boolean (.int (1 : Int32)) = true := rfl
          obtain ⟨T184, h184, X184, e184, W184, st184⟩ := putFN X178 hx hZ hown (ww hw 25 rfl) Via.refl e178 Fa182 Fa179 (Or.inl (ww hw 26 rfl)) (ww hw 6 rfl) (ty := .boolean) (v' := .int (1 : Int32)) (by decide) hn184 hf184 (g := (mkF m 101 #[.val (.ref o0), .val (.int p1), .val (.int p2), .val (.int (0 : Int32))] [(.int (1 : Int32)), (.ref o0)])) rfl rfl (hb hby d4_101)
          have N184 := Fr.snoc X184 N178 g_o0
          have K184 : Keep h0 h184 [o0] := K178.wr W184 (Or.inl (List.mem_of_getElem? (i := 0) rfl))
          have Z184 : n0 ≤ h184.size := Nat.le_trans Z178 (Keep.of_wr W184).1
          have Fa185 : Exa Z h184 o0 "com/example/locattr/locattr/PlaceCounter" := Fa179.wr W184
          have Fa186 : Fld Z h184 o0 "com/example/locattr/locattr/PlaceCounter" "line" "I" (.int (li + (1 : Int32))) := Fa180.other W184 (Or.inr (slot_ne (Or.inl (ww hw 15 rfl)) (Or.inl (ww hw 26 rfl)) (by decide) (t := .int) (t' := .boolean) (by decide) (by decide)))
          have Fa187 : Fld Z h184 o0 "com/example/locattr/locattr/PlaceCounter" "column" "I" (.int (1 : Int32)) := Fa183.other W184 (Or.inr (slot_ne (Or.inl (ww hw 17 rfl)) (Or.inl (ww hw 26 rfl)) (by decide) (t := .int) (t' := .boolean) (by decide) (by decide)))
          have Fa188 : Fld Z h184 o0 "com/example/locattr/locattr/PlaceCounter" "xml11" "Z" (.int xm) := Fa181.other W184 (Or.inr (slot_ne (Or.inr (ww hw 19 rfl)) (Or.inl (ww hw 26 rfl)) (by decide) (t := .boolean) (t' := .boolean) (by decide) (by decide)))
          have Fa189 : Fld Z h184 o0 "com/example/locattr/locattr/PlaceCounter" "afterReturn" "Z" (.int (1 : Int32)) := Fa182.same W184
          refine go (u' := T184.setTop (mkF m 104 #[.val (.ref o0), .val (.int p1), .val (.int p2), .val (.int (0 : Int32))] [])) st184 ?_
          rw [hG]
          refine g0 X184 hx hlk hret (hb hby d4_104) ?_ (Nat.le_of_ble_eq_true rfl) (Nat.le_of_ble_eq_true rfl)
          show Q_rm4 Z o0 p1 p2 li co xm ar h0 n0 (none) T184.heap _
          rw [e184]
          exact ⟨rfl, N184, K184, Fa185, (own_Fto Fa186 (congrArg Value.int (show (li + (1 : Int32)) = (if p1 = (10 : Int32) then (if p1 = (13 : Int32) then (li + (1 : Int32)) else (if ar = (0 : Int32) then (li + (1 : Int32)) else (if xm = (0 : Int32) then li else (if p1 = (8232 : Int32) then (li + (1 : Int32)) else li)))) else (if xm = (0 : Int32) then (if p1 = (13 : Int32) then (li + (1 : Int32)) else li) else (if p1 = (133 : Int32) then (if p1 = (13 : Int32) then (li + (1 : Int32)) else (if ar = (0 : Int32) then (li + (1 : Int32)) else (if p1 = (8232 : Int32) then (li + (1 : Int32)) else li))) else (if p1 = (13 : Int32) then (li + (1 : Int32)) else (if p1 = (8232 : Int32) then (li + (1 : Int32)) else li))))) from (((((if_neg c3_1).trans (if_neg c10_6)).trans (if_neg c17_8)).trans (if_pos c29_12))).symm))), (own_Fto Fa187 (congrArg Value.int (show (1 : Int32) = (if p1 = (10 : Int32) then (if p1 = (13 : Int32) then (1 : Int32) else (if ar = (0 : Int32) then (1 : Int32) else (if xm = (0 : Int32) then co else (if p1 = (8232 : Int32) then (1 : Int32) else co)))) else (if xm = (0 : Int32) then (if p1 = (13 : Int32) then (1 : Int32) else (co + p2)) else (if p1 = (133 : Int32) then (if p1 = (13 : Int32) then (1 : Int32) else (if ar = (0 : Int32) then (1 : Int32) else (if p1 = (8232 : Int32) then (1 : Int32) else co))) else (if p1 = (13 : Int32) then (1 : Int32) else (if p1 = (8232 : Int32) then (1 : Int32) else (co + p2)))))) from (((((if_neg c3_1).trans (if_neg c10_6)).trans (if_neg c17_8)).trans (if_pos c29_12))).symm))), Fa188, (own_Fto Fa189 (congrArg Value.int (show (1 : Int32) = (if p1 = (13 : Int32) then (1 : Int32) else (0 : Int32)) from ((if_pos c29_12)).symm)))⟩
        ·
          refine go (u' := T72.setTop (mkF m 32 #[.val (.ref o0), .val (.int p1), .val (.int p2), .val (.int (0 : Int32))] [])) (fun _ ks_ => XS.icmpNo X72.here hx rfl (hb hby d4_29) rfl (feq c29_12).1 ks_) ?_
          refine go (u' := T72.setTop (mkF m 33 #[.val (.ref o0), .val (.int p1), .val (.int p2), .val (.int (0 : Int32))] [(.int (0 : Int32))])) (fun _ ks_ => XS.iloadN X72.here hx rfl (hb hby d4_32) rfl  ks_) ?_
          refine go (u' := T72.setTop (mkF m 43 #[.val (.ref o0), .val (.int p1), .val (.int p2), .val (.int (0 : Int32))] [])) (fun _ ks_ => XS.ifYes X72.here hx rfl (pc0 := 33) (pc' := 43) rfl (hb hby d4_33) rfl ((if0 _ _).trans (teq (show (0 : Int32) = (0 : Int32) from (by decide))).1) (by decide) (by decide) ks_) ?_
          refine go (u' := T72.setTop (mkF m 44 #[.val (.ref o0), .val (.int p1), .val (.int p2), .val (.int (0 : Int32))] [(.ref o0)])) (fun _ ks_ => XS.aloadN X72.here hx rfl (hb hby d4_43) rfl rfl ks_) ?_
          obtain ⟨T190, X190, e190, st190⟩ := getF X72 hx hZ hown (host := "") (Or.inl (ww hw 18 rfl)) Via.refl e72 F3 (g := (mkF m 44 #[.val (.ref o0), .val (.int p1), .val (.int p2), .val (.int (0 : Int32))] [(.ref o0)])) rfl rfl (hb hby d4_44)
          refine go (u' := T190.setTop (mkF m 47 #[.val (.ref o0), .val (.int p1), .val (.int p2), .val (.int (0 : Int32))] [(.int xm)])) st190 ?_
          refine go (u' := T190.setTop (mkF m 50 #[.val (.ref o0), .val (.int p1), .val (.int p2), .val (.int (0 : Int32))] [])) (fun _ ks_ => XS.ifNo X190.here hx rfl (hb hby d4_47) rfl ((if0 _ _).trans (feq c10_6).1) ks_) ?_
          refine go (u' := T190.setTop (mkF m 51 #[.val (.ref o0), .val (.int p1), .val (.int p2), .val (.int (0 : Int32))] [(.int p1)])) (fun _ ks_ => XS.iloadN X190.here hx rfl (hb hby d4_50) rfl  ks_) ?_
          refine go (u' := T190.setTop (mkF m 54 #[.val (.ref o0), .val (.int p1), .val (.int p2), .val (.int (0 : Int32))] [(.int (8232 : Int32)), (.int p1)])) (fun _ ks_ => XS.sipush X190.here hx rfl (hb hby d4_51) ks_) ?_
          by_cases c54_13 : p1 = (8232 : Int32)
          ·
            refine go (u' := T190.setTop (mkF m 57 #[.val (.ref o0), .val (.int p1), .val (.int p2), .val (.int (0 : Int32))] [])) (fun _ ks_ => XS.icmpNo X190.here hx rfl (hb hby d4_54) rfl (teq c54_13).2 ks_) ?_
            refine go (u' := T190.setTop (mkF m 58 #[.val (.ref o0), .val (.int p1), .val (.int p2), .val (.int (0 : Int32))] [(.ref o0)])) (fun _ ks_ => XS.aloadN X190.here hx rfl (hb hby d4_57) rfl rfl ks_) ?_
            refine go (u' := T190.setTop (mkF m 59 #[.val (.ref o0), .val (.int p1), .val (.int p2), .val (.int (0 : Int32))] [(.ref o0), (.ref o0)])) (fun _ ks_ => XS.dup X190.here hx rfl (hb hby d4_58) rfl rfl ks_) ?_
            obtain ⟨T191, X191, e191, st191⟩ := getF X190 hx hZ hown (host := "") (Or.inl (ww hw 14 rfl)) Via.refl e190 F1 (g := (mkF m 59 #[.val (.ref o0), .val (.int p1), .val (.int p2), .val (.int (0 : Int32))] [(.ref o0), (.ref o0)])) rfl rfl (hb hby d4_59)
            refine go (u' := T191.setTop (mkF m 62 #[.val (.ref o0), .val (.int p1), .val (.int p2), .val (.int (0 : Int32))] [(.int li), (.ref o0)])) st191 ?_
            refine go (u' := T191.setTop (mkF m 63 #[.val (.ref o0), .val (.int p1), .val (.int p2), .val (.int (0 : Int32))] [(.int (1 : Int32)), (.int li), (.ref o0)])) (fun _ ks_ => XS.iconst X191.here hx rfl (hb hby d4_62) ks_) ?_
            refine go (u' := T191.setTop (mkF m 64 #[.val (.ref o0), .val (.int p1), .val (.int p2), .val (.int (0 : Int32))] [(.int (li + (1 : Int32))), (.ref o0)])) (fun _ ks_ => XS.iadd X191.here hx rfl (hb hby d4_63) rfl ks_) ?_
            obtain ⟨T192, h192, X192, e192, W192, st192⟩ := putF X191 hx hZ hown (host := "") (Or.inl (ww hw 14 rfl)) Via.refl e191 F1 F0 (Or.inl (ww hw 15 rfl)) (ww hw 6 rfl) (ty := .int) (by decide) rfl rfl (g := (mkF m 64 #[.val (.ref o0), .val (.int p1), .val (.int p2), .val (.int (0 : Int32))] [(.int (li + (1 : Int32))), (.ref o0)])) rfl rfl (hb hby d4_64)
            have N192 := Fr.snoc X192 N0 g_o0
            have K192 : Keep h0 h192 [o0] := (Keep.refl h0 [o0]).wr W192 (Or.inl (List.mem_of_getElem? (i := 0) rfl))
            have Z192 : n0 ≤ h192.size := Nat.le_trans Z0 (Keep.of_wr W192).1
            have Fa193 : Exa Z h192 o0 "com/example/locattr/locattr/PlaceCounter" := F0.wr W192
            have Fa194 : Fld Z h192 o0 "com/example/locattr/locattr/PlaceCounter" "column" "I" (.int co) := F2.other W192 (Or.inr (slot_ne (Or.inl (ww hw 17 rfl)) (Or.inl (ww hw 15 rfl)) (by decide) (t := .int) (t' := .int) (by decide) (by decide)))
            have Fa195 : Fld Z h192 o0 "com/example/locattr/locattr/PlaceCounter" "xml11" "Z" (.int xm) := F3.other W192 (Or.inr (slot_ne (Or.inr (ww hw 19 rfl)) (Or.inl (ww hw 15 rfl)) (by decide) (t := .boolean) (t' := .int) (by decide) (by decide)))
            have Fa196 : Fld Z h192 o0 "com/example/locattr/locattr/PlaceCounter" "afterReturn" "Z" (.int ar) := F4.other W192 (Or.inr (slot_ne (Or.inl (ww hw 26 rfl)) (Or.inl (ww hw 15 rfl)) (by decide) (t := .boolean) (t' := .int) (by decide) (by decide)))
            have Fa197 : Fld Z h192 o0 "com/example/locattr/locattr/PlaceCounter" "line" "I" (.int (li + (1 : Int32))) := F1.same W192
            refine go (u' := T192.setTop (mkF m 67 #[.val (.ref o0), .val (.int p1), .val (.int p2), .val (.int (0 : Int32))] [])) st192 ?_
            refine go (u' := T192.setTop (mkF m 68 #[.val (.ref o0), .val (.int p1), .val (.int p2), .val (.int (0 : Int32))] [(.ref o0)])) (fun _ ks_ => XS.aloadN X192.here hx rfl (hb hby d4_67) rfl rfl ks_) ?_
            refine go (u' := T192.setTop (mkF m 69 #[.val (.ref o0), .val (.int p1), .val (.int p2), .val (.int (0 : Int32))] [(.int (1 : Int32)), (.ref o0)])) (fun _ ks_ => XS.iconst X192.here hx rfl (hb hby d4_68) ks_) ?_
            obtain ⟨T198, h198, X198, e198, W198, st198⟩ := putF X192 hx hZ hown (host := "") (Or.inl (ww hw 16 rfl)) Via.refl e192 Fa194 Fa193 (Or.inl (ww hw 17 rfl)) (ww hw 6 rfl) (ty := .int) (by decide) rfl rfl (g := (mkF m 69 #[.val (.ref o0), .val (.int p1), .val (.int p2), .val (.int (0 : Int32))] [(.int (1 : Int32)), (.ref o0)])) rfl rfl (hb hby d4_69)
            have N198 := Fr.snoc X198 N192 g_o0
            have K198 : Keep h0 h198 [o0] := K192.wr W198 (Or.inl (List.mem_of_getElem? (i := 0) rfl))
            have Z198 : n0 ≤ h198.size := Nat.le_trans Z192 (Keep.of_wr W198).1
            have Fa199 : Exa Z h198 o0 "com/example/locattr/locattr/PlaceCounter" := Fa193.wr W198
            have Fa200 : Fld Z h198 o0 "com/example/locattr/locattr/PlaceCounter" "line" "I" (.int (li + (1 : Int32))) := Fa197.other W198 (Or.inr (slot_ne (Or.inl (ww hw 15 rfl)) (Or.inl (ww hw 17 rfl)) (by decide) (t := .int) (t' := .int) (by decide) (by decide)))
            have Fa201 : Fld Z h198 o0 "com/example/locattr/locattr/PlaceCounter" "xml11" "Z" (.int xm) := Fa195.other W198 (Or.inr (slot_ne (Or.inr (ww hw 19 rfl)) (Or.inl (ww hw 17 rfl)) (by decide) (t := .boolean) (t' := .int) (by decide) (by decide)))
            have Fa202 : Fld Z h198 o0 "com/example/locattr/locattr/PlaceCounter" "afterReturn" "Z" (.int ar) := Fa196.other W198 (Or.inr (slot_ne (Or.inl (ww hw 26 rfl)) (Or.inl (ww hw 17 rfl)) (by decide) (t := .boolean) (t' := .int) (by decide) (by decide)))
            have Fa203 : Fld Z h198 o0 "com/example/locattr/locattr/PlaceCounter" "column" "I" (.int (1 : Int32)) := Fa194.same W198
            refine go (u' := T198.setTop (mkF m 72 #[.val (.ref o0), .val (.int p1), .val (.int p2), .val (.int (0 : Int32))] [])) st198 ?_
            refine go (u' := T198.setTop (mkF m 89 #[.val (.ref o0), .val (.int p1), .val (.int p2), .val (.int (0 : Int32))] [])) (fun _ ks_ => XS.goto X198.here hx rfl (pc0 := 72) (pc' := 89) rfl (hb hby d4_72) (by decide) (by decide) ks_) ?_
            refine go (u' := T198.setTop (mkF m 90 #[.val (.ref o0), .val (.int p1), .val (.int p2), .val (.int (0 : Int32))] [(.ref o0)])) (fun _ ks_ => XS.aloadN X198.here hx rfl (hb hby d4_89) rfl rfl ks_) ?_
            refine go (u' := T198.setTop (mkF m 91 #[.val (.ref o0), .val (.int p1), .val (.int p2), .val (.int (0 : Int32))] [(.int p1), (.ref o0)])) (fun _ ks_ => XS.iloadN X198.here hx rfl (hb hby d4_90) rfl  ks_) ?_
            refine go (u' := T198.setTop (mkF m 93 #[.val (.ref o0), .val (.int p1), .val (.int p2), .val (.int (0 : Int32))] [(.int (13 : Int32)), (.int p1), (.ref o0)])) (fun _ ks_ => XS.bipush X198.here hx rfl (hb hby d4_91) ks_) ?_
            refine go (u' := T198.setTop (mkF m 100 #[.val (.ref o0), .val (.int p1), .val (.int p2), .val (.int (0 : Int32))] [(.ref o0)])) (fun _ ks_ => XS.icmpYes X198.here hx rfl (pc0 := 93) (pc' := 100) rfl (hb hby d4_93) rfl (feq c29_12).2 (by decide) (by decide) ks_) ?_
            refine go (u' := T198.setTop (mkF m 101 #[.val (.ref o0), .val (.int p1), .val (.int p2), .val (.int (0 : Int32))] [(.int (0 : Int32)), (.ref o0)])) (fun _ ks_ => XS.iconst X198.here hx rfl (hb hby d4_100) ks_) ?_
            have hn204 : narrow .boolean (.int (0 : Int32)) = .int (0 : Int32) := rfl
            have hf204 : fits .boolean (.int (0 : Int32)) = true := rfl
            obtain ⟨T204, h204, X204, e204, W204, st204⟩ := putFN X198 hx hZ hown (ww hw 25 rfl) Via.refl e198 Fa202 Fa199 (Or.inl (ww hw 26 rfl)) (ww hw 6 rfl) (ty := .boolean) (v' := .int (0 : Int32)) (by decide) hn204 hf204 (g := (mkF m 101 #[.val (.ref o0), .val (.int p1), .val (.int p2), .val (.int (0 : Int32))] [(.int (0 : Int32)), (.ref o0)])) rfl rfl (hb hby d4_101)
            have N204 := Fr.snoc X204 N198 g_o0
            have K204 : Keep h0 h204 [o0] := K198.wr W204 (Or.inl (List.mem_of_getElem? (i := 0) rfl))
            have Z204 : n0 ≤ h204.size := Nat.le_trans Z198 (Keep.of_wr W204).1
            have Fa205 : Exa Z h204 o0 "com/example/locattr/locattr/PlaceCounter" := Fa199.wr W204
            have Fa206 : Fld Z h204 o0 "com/example/locattr/locattr/PlaceCounter" "line" "I" (.int (li + (1 : Int32))) := Fa200.other W204 (Or.inr (slot_ne (Or.inl (ww hw 15 rfl)) (Or.inl (ww hw 26 rfl)) (by decide) (t := .int) (t' := .boolean) (by decide) (by decide)))
            have Fa207 : Fld Z h204 o0 "com/example/locattr/locattr/PlaceCounter" "column" "I" (.int (1 : Int32)) := Fa203.other W204 (Or.inr (slot_ne (Or.inl (ww hw 17 rfl)) (Or.inl (ww hw 26 rfl)) (by decide) (t := .int) (t' := .boolean) (by decide) (by decide)))
            have Fa208 : Fld Z h204 o0 "com/example/locattr/locattr/PlaceCounter" "xml11" "Z" (.int xm) := Fa201.other W204 (Or.inr (slot_ne (Or.inr (ww hw 19 rfl)) (Or.inl (ww hw 26 rfl)) (by decide) (t := .boolean) (t' := .boolean) (by decide) (by decide)))
            have Fa209 : Fld Z h204 o0 "com/example/locattr/locattr/PlaceCounter" "afterReturn" "Z" (.int (0 : Int32)) := Fa202.same W204
            refine go (u' := T204.setTop (mkF m 104 #[.val (.ref o0), .val (.int p1), .val (.int p2), .val (.int (0 : Int32))] [])) st204 ?_
            rw [hG]
            refine g0 X204 hx hlk hret (hb hby d4_104) ?_ (Nat.le_of_ble_eq_true rfl) (Nat.le_of_ble_eq_true rfl)
            show Q_rm4 Z o0 p1 p2 li co xm ar h0 n0 (none) T204.heap _
            rw [e204]
            exact ⟨rfl, N204, K204, Fa205, (own_Fto Fa206 (congrArg Value.int (show (li + (1 : Int32)) = (if p1 = (10 : Int32) then (if p1 = (13 : Int32) then (li + (1 : Int32)) else (if ar = (0 : Int32) then (li + (1 : Int32)) else (if xm = (0 : Int32) then li else (if p1 = (8232 : Int32) then (li + (1 : Int32)) else li)))) else (if xm = (0 : Int32) then (if p1 = (13 : Int32) then (li + (1 : Int32)) else li) else (if p1 = (133 : Int32) then (if p1 = (13 : Int32) then (li + (1 : Int32)) else (if ar = (0 : Int32) then (li + (1 : Int32)) else (if p1 = (8232 : Int32) then (li + (1 : Int32)) else li))) else (if p1 = (13 : Int32) then (li + (1 : Int32)) else (if p1 = (8232 : Int32) then (li + (1 : Int32)) else li))))) from ((((((if_neg c3_1).trans (if_neg c10_6)).trans (if_neg c17_8)).trans (if_neg c29_12)).trans (if_pos c54_13))).symm))), (own_Fto Fa207 (congrArg Value.int (show (1 : Int32) = (if p1 = (10 : Int32) then (if p1 = (13 : Int32) then (1 : Int32) else (if ar = (0 : Int32) then (1 : Int32) else (if xm = (0 : Int32) then co else (if p1 = (8232 : Int32) then (1 : Int32) else co)))) else (if xm = (0 : Int32) then (if p1 = (13 : Int32) then (1 : Int32) else (co + p2)) else (if p1 = (133 : Int32) then (if p1 = (13 : Int32) then (1 : Int32) else (if ar = (0 : Int32) then (1 : Int32) else (if p1 = (8232 : Int32) then (1 : Int32) else co))) else (if p1 = (13 : Int32) then (1 : Int32) else (if p1 = (8232 : Int32) then (1 : Int32) else (co + p2)))))) from ((((((if_neg c3_1).trans (if_neg c10_6)).trans (if_neg c17_8)).trans (if_neg c29_12)).trans (if_pos c54_13))).symm))), Fa208, (own_Fto Fa209 (congrArg Value.int (show (0 : Int32) = (if p1 = (13 : Int32) then (1 : Int32) else (0 : Int32)) from ((if_neg c29_12)).symm)))⟩
          ·
            refine go (u' := T190.setTop (mkF m 75 #[.val (.ref o0), .val (.int p1), .val (.int p2), .val (.int (0 : Int32))] [])) (fun _ ks_ => XS.icmpYes X190.here hx rfl (pc0 := 54) (pc' := 75) rfl (hb hby d4_54) rfl (feq c54_13).2 (by decide) (by decide) ks_) ?_
            refine go (u' := T190.setTop (mkF m 76 #[.val (.ref o0), .val (.int p1), .val (.int p2), .val (.int (0 : Int32))] [(.int (0 : Int32))])) (fun _ ks_ => XS.iloadN X190.here hx rfl (hb hby d4_75) rfl  ks_) ?_
            refine go (u' := T190.setTop (mkF m 79 #[.val (.ref o0), .val (.int p1), .val (.int p2), .val (.int (0 : Int32))] [])) (fun _ ks_ => XS.ifNo X190.here hx rfl (hb hby d4_76) rfl ((if0 _ _).trans (teq (show (0 : Int32) = (0 : Int32) from (by decide))).2) ks_) ?_
            refine go (u' := T190.setTop (mkF m 80 #[.val (.ref o0), .val (.int p1), .val (.int p2), .val (.int (0 : Int32))] [(.ref o0)])) (fun _ ks_ => XS.aloadN X190.here hx rfl (hb hby d4_79) rfl rfl ks_) ?_
            refine go (u' := T190.setTop (mkF m 81 #[.val (.ref o0), .val (.int p1), .val (.int p2), .val (.int (0 : Int32))] [(.ref o0), (.ref o0)])) (fun _ ks_ => XS.dup X190.here hx rfl (hb hby d4_80) rfl rfl ks_) ?_
            obtain ⟨T210, X210, e210, st210⟩ := getF X190 hx hZ hown (host := "") (Or.inl (ww hw 16 rfl)) Via.refl e190 F2 (g := (mkF m 81 #[.val (.ref o0), .val (.int p1), .val (.int p2), .val (.int (0 : Int32))] [(.ref o0), (.ref o0)])) rfl rfl (hb hby d4_81)
            refine go (u' := T210.setTop (mkF m 84 #[.val (.ref o0), .val (.int p1), .val (.int p2), .val (.int (0 : Int32))] [(.int co), (.ref o0)])) st210 ?_
            refine go (u' := T210.setTop (mkF m 85 #[.val (.ref o0), .val (.int p1), .val (.int p2), .val (.int (0 : Int32))] [(.int p2), (.int co), (.ref o0)])) (fun _ ks_ => XS.iloadN X210.here hx rfl (hb hby d4_84) rfl  ks_) ?_
            refine go (u' := T210.setTop (mkF m 86 #[.val (.ref o0), .val (.int p1), .val (.int p2), .val (.int (0 : Int32))] [(.int (co + p2)), (.ref o0)])) (fun _ ks_ => XS.iadd X210.here hx rfl (hb hby d4_85) rfl ks_) ?_
            obtain ⟨T211, h211, X211, e211, W211, st211⟩ := putF X210 hx hZ hown (host := "") (Or.inl (ww hw 16 rfl)) Via.refl e210 F2 F0 (Or.inl (ww hw 17 rfl)) (ww hw 6 rfl) (ty := .int) (by decide) rfl rfl (g := (mkF m 86 #[.val (.ref o0), .val (.int p1), .val (.int p2), .val (.int (0 : Int32))] [(.int (co + p2)), (.ref o0)])) rfl rfl (hb hby d4_86)
            have N211 := Fr.snoc X211 N0 g_o0
            have K211 : Keep h0 h211 [o0] := (Keep.refl h0 [o0]).wr W211 (Or.inl (List.mem_of_getElem? (i := 0) rfl))
            have Z211 : n0 ≤ h211.size := Nat.le_trans Z0 (Keep.of_wr W211).1
            have Fa212 : Exa Z h211 o0 "com/example/locattr/locattr/PlaceCounter" := F0.wr W211
            have Fa213 : Fld Z h211 o0 "com/example/locattr/locattr/PlaceCounter" "line" "I" (.int li) := F1.other W211 (Or.inr (slot_ne (Or.inl (ww hw 15 rfl)) (Or.inl (ww hw 17 rfl)) (by decide) (t := .int) (t' := .int) (by decide) (by decide)))
            have Fa214 : Fld Z h211 o0 "com/example/locattr/locattr/PlaceCounter" "xml11" "Z" (.int xm) := F3.other W211 (Or.inr (slot_ne (Or.inr (ww hw 19 rfl)) (Or.inl (ww hw 17 rfl)) (by decide) (t := .boolean) (t' := .int) (by decide) (by decide)))
            have Fa215 : Fld Z h211 o0 "com/example/locattr/locattr/PlaceCounter" "afterReturn" "Z" (.int ar) := F4.other W211 (Or.inr (slot_ne (Or.inl (ww hw 26 rfl)) (Or.inl (ww hw 17 rfl)) (by decide) (t := .boolean) (t' := .int) (by decide) (by decide)))
            have Fa216 : Fld Z h211 o0 "com/example/locattr/locattr/PlaceCounter" "column" "I" (.int (co + p2)) := F2.same W211
            refine go (u' := T211.setTop (mkF m 89 #[.val (.ref o0), .val (.int p1), .val (.int p2), .val (.int (0 : Int32))] [])) st211 ?_
            refine go (u' := T211.setTop (mkF m 90 #[.val (.ref o0), .val (.int p1), .val (.int p2), .val (.int (0 : Int32))] [(.ref o0)])) (fun _ ks_ => XS.aloadN X211.here hx rfl (hb hby d4_89) rfl rfl ks_) ?_
            refine go (u' := T211.setTop (mkF m 91 #[.val (.ref o0), .val (.int p1), .val (.int p2), .val (.int (0 : Int32))] [(.int p1), (.ref o0)])) (fun _ ks_ => XS.iloadN X211.here hx rfl (hb hby d4_90) rfl  ks_) ?_
            refine go (u' := T211.setTop (mkF m 93 #[.val (.ref o0), .val (.int p1), .val (.int p2), .val (.int (0 : Int32))] [(.int (13 : Int32)), (.int p1), (.ref o0)])) (fun _ ks_ => XS.bipush X211.here hx rfl (hb hby d4_91) ks_) ?_
            refine go (u' := T211.setTop (mkF m 100 #[.val (.ref o0), .val (.int p1), .val (.int p2), .val (.int (0 : Int32))] [(.ref o0)])) (fun _ ks_ => XS.icmpYes X211.here hx rfl (pc0 := 93) (pc' := 100) rfl (hb hby d4_93) rfl (feq c29_12).2 (by decide) (by decide) ks_) ?_
            refine go (u' := T211.setTop (mkF m 101 #[.val (.ref o0), .val (.int p1), .val (.int p2), .val (.int (0 : Int32))] [(.int (0 : Int32)), (.ref o0)])) (fun _ ks_ => XS.iconst X211.here hx rfl (hb hby d4_100) ks_) ?_
            have hn217 : narrow .boolean (.int (0 : Int32)) = .int (0 : Int32) := rfl
            have hf217 : fits .boolean (.int (0 : Int32)) = true := rfl
            obtain ⟨T217, h217, X217, e217, W217, st217⟩ := putFN X211 hx hZ hown (ww hw 25 rfl) Via.refl e211 Fa215 Fa212 (Or.inl (ww hw 26 rfl)) (ww hw 6 rfl) (ty := .boolean) (v' := .int (0 : Int32)) (by decide) hn217 hf217 (g := (mkF m 101 #[.val (.ref o0), .val (.int p1), .val (.int p2), .val (.int (0 : Int32))] [(.int (0 : Int32)), (.ref o0)])) rfl rfl (hb hby d4_101)
            have N217 := Fr.snoc X217 N211 g_o0
            have K217 : Keep h0 h217 [o0] := K211.wr W217 (Or.inl (List.mem_of_getElem? (i := 0) rfl))
            have Z217 : n0 ≤ h217.size := Nat.le_trans Z211 (Keep.of_wr W217).1
            have Fa218 : Exa Z h217 o0 "com/example/locattr/locattr/PlaceCounter" := Fa212.wr W217
            have Fa219 : Fld Z h217 o0 "com/example/locattr/locattr/PlaceCounter" "line" "I" (.int li) := Fa213.other W217 (Or.inr (slot_ne (Or.inl (ww hw 15 rfl)) (Or.inl (ww hw 26 rfl)) (by decide) (t := .int) (t' := .boolean) (by decide) (by decide)))
            have Fa220 : Fld Z h217 o0 "com/example/locattr/locattr/PlaceCounter" "column" "I" (.int (co + p2)) := Fa216.other W217 (Or.inr (slot_ne (Or.inl (ww hw 17 rfl)) (Or.inl (ww hw 26 rfl)) (by decide) (t := .int) (t' := .boolean) (by decide) (by decide)))
            have Fa221 : Fld Z h217 o0 "com/example/locattr/locattr/PlaceCounter" "xml11" "Z" (.int xm) := Fa214.other W217 (Or.inr (slot_ne (Or.inr (ww hw 19 rfl)) (Or.inl (ww hw 26 rfl)) (by decide) (t := .boolean) (t' := .boolean) (by decide) (by decide)))
            have Fa222 : Fld Z h217 o0 "com/example/locattr/locattr/PlaceCounter" "afterReturn" "Z" (.int (0 : Int32)) := Fa215.same W217
            refine go (u' := T217.setTop (mkF m 104 #[.val (.ref o0), .val (.int p1), .val (.int p2), .val (.int (0 : Int32))] [])) st217 ?_
            rw [hG]
            refine g0 X217 hx hlk hret (hb hby d4_104) ?_ (Nat.le_of_ble_eq_true rfl) (Nat.le_of_ble_eq_true rfl)
            show Q_rm4 Z o0 p1 p2 li co xm ar h0 n0 (none) T217.heap _
            rw [e217]
            exact ⟨rfl, N217, K217, Fa218, (own_Fto Fa219 (congrArg Value.int (show li = (if p1 = (10 : Int32) then (if p1 = (13 : Int32) then (li + (1 : Int32)) else (if ar = (0 : Int32) then (li + (1 : Int32)) else (if xm = (0 : Int32) then li else (if p1 = (8232 : Int32) then (li + (1 : Int32)) else li)))) else (if xm = (0 : Int32) then (if p1 = (13 : Int32) then (li + (1 : Int32)) else li) else (if p1 = (133 : Int32) then (if p1 = (13 : Int32) then (li + (1 : Int32)) else (if ar = (0 : Int32) then (li + (1 : Int32)) else (if p1 = (8232 : Int32) then (li + (1 : Int32)) else li))) else (if p1 = (13 : Int32) then (li + (1 : Int32)) else (if p1 = (8232 : Int32) then (li + (1 : Int32)) else li))))) from ((((((if_neg c3_1).trans (if_neg c10_6)).trans (if_neg c17_8)).trans (if_neg c29_12)).trans (if_neg c54_13))).symm))), (own_Fto Fa220 (congrArg Value.int (show (co + p2) = (if p1 = (10 : Int32) then (if p1 = (13 : Int32) then (1 : Int32) else (if ar = (0 : Int32) then (1 : Int32) else (if xm = (0 : Int32) then co else (if p1 = (8232 : Int32) then (1 : Int32) else co)))) else (if xm = (0 : Int32) then (if p1 = (13 : Int32) then (1 : Int32) else (co + p2)) else (if p1 = (133 : Int32) then (if p1 = (13 : Int32) then (1 : Int32) else (if ar = (0 : Int32) then (1 : Int32) else (if p1 = (8232 : Int32) then (1 : Int32) else co))) else (if p1 = (13 : Int32) then (1 : Int32) else (if p1 = (8232 : Int32) then (1 : Int32) else (co + p2)))))) from ((((((if_neg c3_1).trans (if_neg c10_6)).trans (if_neg c17_8)).trans (if_neg c29_12)).trans (if_neg c54_13))).symm))), Fa221, (own_Fto Fa222 (congrArg Value.int (show (0 : Int32) = (if p1 = (13 : Int32) then (1 : Int32) else (0 : Int32)) from ((if_neg c29_12)).symm)))⟩
def sp_a0 (p1 : Int32) (p2 : Int32) (s0 : Int32) (s2 : Int32) : Int32 := (if p2 = (13 : Int32) then (s0 + (1 : Int32)) else (if p2 = (10 : Int32) then (if p1 = (0 : Int32) then (if s2 = (0 : Int32) then (s0 + (1 : Int32)) else s0) else (if p2 = (8232 : Int32) then (s0 + (1 : Int32)) else (if s2 = (0 : Int32) then (s0 + (1 : Int32)) else s0))) else (if p1 = (0 : Int32) then s0 else (if p2 = (133 : Int32) then (if p2 = (8232 : Int32) then (s0 + (1 : Int32)) else (if s2 = (0 : Int32) then (s0 + (1 : Int32)) else s0)) else (if p2 = (8232 : Int32) then (s0 + (1 : Int32)) else s0)))))
def sp_a1 (p1 : Int32) (p2 : Int32) (p3 : Int32) (s1 : Int32) (s2 : Int32) : Int32 := (if p2 = (13 : Int32) then (1 : Int32) else (if p2 = (10 : Int32) then (if p1 = (0 : Int32) then (if s2 = (0 : Int32) then (1 : Int32) else s1) else (if p2 = (8232 : Int32) then (1 : Int32) else (if s2 = (0 : Int32) then (1 : Int32) else s1))) else (if p1 = (0 : Int32) then (s1 + p3) else (if p2 = (133 : Int32) then (if p2 = (8232 : Int32) then (1 : Int32) else (if s2 = (0 : Int32) then (1 : Int32) else s1)) else (if p2 = (8232 : Int32) then (1 : Int32) else (s1 + p3))))))
def sp_a2 (p2 : Int32) : Int32 := (if p2 = (13 : Int32) then (1 : Int32) else (0 : Int32))
theorem pn_com_example_locattr_locattr_PlaceCounterPassPinLaw_step_5 : plainFor (⟨"com/example/locattr/locattr/PlaceCounterPassPinLaw", "step", "([IZII)V"⟩ : MethodName) = true := by first | exact plainFor_of_name (by first | (simp [plainName, overriddenIn]; done) | decide +kernel) | decide +kernel
def Q_rm5 (Z : State) (o0 : Addr) (p1 : Int32) (p2 : Int32) (p3 : Int32) (s0 : Int32) (s1 : Int32) (s2 : Int32) (h0 : Heap) (n0 : Nat) (v : Option Value) (h : Heap) (L : List Loc) : Prop := v = none ∧ Fr n0 L ∧ Keep h0 h [o0] ∧ (PI Z h o0 .int 3 (own_l [(sp_a0 p1 p2 s0 s2), (sp_a1 p1 p2 p3 s1 s2), (sp_a2 p2)]))
set_option maxRecDepth 65536 in
set_option maxHeartbeats 4000000 in
theorem ef_rm5 (m : MethodId) (o0 : Addr) (p1 : Int32) (p2 : Int32) (p3 : Int32) : entryFrame m #[(.ref o0), (.int p1), (.int p2), (.int p3)] 7 = mkF m 0 #[.val (.ref o0), .val (.int p1), .val (.int p2), .val (.int p3), .unset, .unset, .unset] [] := by first | (simp [entryFrame, mkF, argsToLocals, Value.category, maxLocals]; done) | rfl
theorem d5_0 : decode method_3_code 0 = .ok (.iload_n 2, 1) := by decide +kernel
theorem d5_1 : decode method_3_code 1 = .ok (.bipush 13, 2) := by decide +kernel
theorem d5_3 : decode method_3_code 3 = .ok (.if_icmp .ne 7, 3) := by decide +kernel
theorem d5_6 : decode method_3_code 6 = .ok (.iconst 1, 1) := by decide +kernel
theorem d5_7 : decode method_3_code 7 = .ok (.goto 4, 3) := by decide +kernel
theorem d5_10 : decode method_3_code 10 = .ok (.iconst 0, 1) := by decide +kernel
theorem d5_11 : decode method_3_code 11 = .ok (.istore 4, 2) := by decide +kernel
theorem d5_13 : decode method_3_code 13 = .ok (.iload_n 2, 1) := by decide +kernel
theorem d5_14 : decode method_3_code 14 = .ok (.bipush 10, 2) := by decide +kernel
theorem d5_16 : decode method_3_code 16 = .ok (.if_icmp .eq 14, 3) := by decide +kernel
theorem d5_19 : decode method_3_code 19 = .ok (.iload_n 1, 1) := by decide +kernel
theorem d5_20 : decode method_3_code 20 = .ok (.ifCond .eq 14, 3) := by decide +kernel
theorem d5_23 : decode method_3_code 23 = .ok (.iload_n 2, 1) := by decide +kernel
theorem d5_24 : decode method_3_code 24 = .ok (.sipush 133, 3) := by decide +kernel
theorem d5_27 : decode method_3_code 27 = .ok (.if_icmp .ne 7, 3) := by decide +kernel
theorem d5_30 : decode method_3_code 30 = .ok (.iconst 1, 1) := by decide +kernel
theorem d5_31 : decode method_3_code 31 = .ok (.goto 4, 3) := by decide +kernel
theorem d5_34 : decode method_3_code 34 = .ok (.iconst 0, 1) := by decide +kernel
theorem d5_35 : decode method_3_code 35 = .ok (.istore 5, 2) := by decide +kernel
theorem d5_37 : decode method_3_code 37 = .ok (.iload_n 1, 1) := by decide +kernel
theorem d5_38 : decode method_3_code 38 = .ok (.ifCond .eq 14, 3) := by decide +kernel
theorem d5_41 : decode method_3_code 41 = .ok (.iload_n 2, 1) := by decide +kernel
theorem d5_42 : decode method_3_code 42 = .ok (.sipush 8232, 3) := by decide +kernel
theorem d5_45 : decode method_3_code 45 = .ok (.if_icmp .ne 7, 3) := by decide +kernel
theorem d5_48 : decode method_3_code 48 = .ok (.iconst 1, 1) := by decide +kernel
theorem d5_49 : decode method_3_code 49 = .ok (.goto 4, 3) := by decide +kernel
theorem d5_52 : decode method_3_code 52 = .ok (.iconst 0, 1) := by decide +kernel
theorem d5_53 : decode method_3_code 53 = .ok (.istore 6, 2) := by decide +kernel
theorem d5_55 : decode method_3_code 55 = .ok (.iload 4, 2) := by decide +kernel
theorem d5_57 : decode method_3_code 57 = .ok (.ifCond .ne 8, 3) := by decide +kernel
theorem d5_60 : decode method_3_code 60 = .ok (.iload 6, 2) := by decide +kernel
theorem d5_62 : decode method_3_code 62 = .ok (.ifCond .eq 18, 3) := by decide +kernel
theorem d5_65 : decode method_3_code 65 = .ok (.aload_n 0, 1) := by decide +kernel
theorem d5_66 : decode method_3_code 66 = .ok (.iconst 0, 1) := by decide +kernel
theorem d5_67 : decode method_3_code 67 = .ok (.aload_n 0, 1) := by decide +kernel
theorem d5_68 : decode method_3_code 68 = .ok (.iconst 0, 1) := by decide +kernel
theorem d5_69 : decode method_3_code 69 = .ok (.iaload, 1) := by decide +kernel
theorem d5_70 : decode method_3_code 70 = .ok (.iconst 1, 1) := by decide +kernel
theorem d5_71 : decode method_3_code 71 = .ok (.iadd, 1) := by decide +kernel
theorem d5_72 : decode method_3_code 72 = .ok (.iastore, 1) := by decide +kernel
theorem d5_73 : decode method_3_code 73 = .ok (.aload_n 0, 1) := by decide +kernel
theorem d5_74 : decode method_3_code 74 = .ok (.iconst 1, 1) := by decide +kernel
theorem d5_75 : decode method_3_code 75 = .ok (.iconst 1, 1) := by decide +kernel
theorem d5_76 : decode method_3_code 76 = .ok (.iastore, 1) := by decide +kernel
theorem d5_77 : decode method_3_code 77 = .ok (.goto 37, 3) := by decide +kernel
theorem d5_80 : decode method_3_code 80 = .ok (.iload 5, 2) := by decide +kernel
theorem d5_82 : decode method_3_code 82 = .ok (.ifCond .eq 24, 3) := by decide +kernel
theorem d5_85 : decode method_3_code 85 = .ok (.aload_n 0, 1) := by decide +kernel
theorem d5_86 : decode method_3_code 86 = .ok (.iconst 2, 1) := by decide +kernel
theorem d5_87 : decode method_3_code 87 = .ok (.iaload, 1) := by decide +kernel
theorem d5_88 : decode method_3_code 88 = .ok (.ifCond .ne 26, 3) := by decide +kernel
theorem d5_91 : decode method_3_code 91 = .ok (.aload_n 0, 1) := by decide +kernel
theorem d5_92 : decode method_3_code 92 = .ok (.iconst 0, 1) := by decide +kernel
theorem d5_93 : decode method_3_code 93 = .ok (.aload_n 0, 1) := by decide +kernel
theorem d5_94 : decode method_3_code 94 = .ok (.iconst 0, 1) := by decide +kernel
theorem d5_95 : decode method_3_code 95 = .ok (.iaload, 1) := by decide +kernel
theorem d5_96 : decode method_3_code 96 = .ok (.iconst 1, 1) := by decide +kernel
theorem d5_97 : decode method_3_code 97 = .ok (.iadd, 1) := by decide +kernel
theorem d5_98 : decode method_3_code 98 = .ok (.iastore, 1) := by decide +kernel
theorem d5_99 : decode method_3_code 99 = .ok (.aload_n 0, 1) := by decide +kernel
theorem d5_100 : decode method_3_code 100 = .ok (.iconst 1, 1) := by decide +kernel
theorem d5_101 : decode method_3_code 101 = .ok (.iconst 1, 1) := by decide +kernel
theorem d5_102 : decode method_3_code 102 = .ok (.iastore, 1) := by decide +kernel
theorem d5_103 : decode method_3_code 103 = .ok (.goto 11, 3) := by decide +kernel
theorem d5_106 : decode method_3_code 106 = .ok (.aload_n 0, 1) := by decide +kernel
theorem d5_107 : decode method_3_code 107 = .ok (.iconst 1, 1) := by decide +kernel
theorem d5_108 : decode method_3_code 108 = .ok (.aload_n 0, 1) := by decide +kernel
theorem d5_109 : decode method_3_code 109 = .ok (.iconst 1, 1) := by decide +kernel
theorem d5_110 : decode method_3_code 110 = .ok (.iaload, 1) := by decide +kernel
theorem d5_111 : decode method_3_code 111 = .ok (.iload_n 3, 1) := by decide +kernel
theorem d5_112 : decode method_3_code 112 = .ok (.iadd, 1) := by decide +kernel
theorem d5_113 : decode method_3_code 113 = .ok (.iastore, 1) := by decide +kernel
theorem d5_114 : decode method_3_code 114 = .ok (.aload_n 0, 1) := by decide +kernel
theorem d5_115 : decode method_3_code 115 = .ok (.iconst 2, 1) := by decide +kernel
theorem d5_116 : decode method_3_code 116 = .ok (.iload 4, 2) := by decide +kernel
theorem d5_118 : decode method_3_code 118 = .ok (.ifCond .eq 7, 3) := by decide +kernel
theorem d5_121 : decode method_3_code 121 = .ok (.iconst 1, 1) := by decide +kernel
theorem d5_122 : decode method_3_code 122 = .ok (.goto 4, 3) := by decide +kernel
theorem d5_125 : decode method_3_code 125 = .ok (.iconst 0, 1) := by decide +kernel
theorem d5_126 : decode method_3_code 126 = .ok (.iastore, 1) := by decide +kernel
theorem d5_127 : decode method_3_code 127 = .ok (.return_, 1) := by decide +kernel
set_option maxRecDepth 65536 in
set_option maxHeartbeats 40000000 in
theorem rm5 (l : Launch) (Z : State) (a0 : Array Value) (hw : ∀ d ∈ tables_1, d.before a0 Z = true) (ws : List Jvm.Cond) (o0 : Addr) (p1 : Int32) (p2 : Int32) (p3 : Int32) (s0 : Int32) (s1 : Int32) (s2 : Int32) (h0 : Heap) (n0 : Nat) (Z0 : n0 ≤ h0.size) (g_o0 : n0 ≤ o0) (F0 : PI Z h0 o0 .int 3 (own_l [s0, s1, s2])) :
    MetFree l (⟨"com/example/locattr/locattr/PlaceCounterPassPinLaw", "step", "([IZII)V"⟩ : MethodName) (head1 (Jvm.Cond.code (⟨"com/example/locattr/locattr/PlaceCounterPassPinLaw", "step", "([IZII)V"⟩ : MethodName) method_3_code 7 none :: ws) ({ frames := 0, cells := 0, slots := 0, locals := 0 } : Room)) (fun a U => a = #[(.ref o0), (.int p1), (.int p2), (.int p3)] ∧ Z.Warmed39 U.vm ∧ U.heap = h0) (fun _ _ _ _ _ => True) (fun _ U o U' => ∃ v L, o = .returned v ∧ Q_rm5 Z o0 p1 p2 p3 s0 s1 s2 h0 n0 v U'.heap L ∧ FrameEnd U o U' L ({ frames := 0, cells := 0, slots := 0, locals := 0 } : Room).cells ({ frames := 0, cells := 0, slots := 0, locals := 0 } : Room).slots) := by
  refine body pn_com_example_locattr_locattr_PlaceCounterPassPinLaw_step_5 ?_
  intro p e s m below meth c s₁ hx hby hml hown hnm hret hlk hZ e0 X0
  replace hml : c.maxLocals = 7 := hml
  replace hown : s.vm.findClass "com/example/locattr/locattr/PlaceCounterPassPinLaw" = some m.cls := hown
  replace hnm : meth.name = "step" := hnm
  replace hret : meth.sig.returnType = none := hret
  have N0 := Fr.nil n0
  rw [ef_rm5]
  obtain ⟨G, hG⟩ : ∃ G, G = End (Q_rm5 Z o0 p1 p2 p3 s0 s1 s2 h0 n0) s ({ frames := 0, cells := 0, slots := 0, locals := 0 } : Room).cells ({ frames := 0, cells := 0, slots := 0, locals := 0 } : Room).slots := ⟨_, rfl⟩
  rw [← hG]
  refine go (u' := s₁.setTop (mkF m 1 #[.val (.ref o0), .val (.int p1), .val (.int p2), .val (.int p3), .unset, .unset, .unset] [(.int p2)])) (fun _ ks_ => XS.iloadN X0.here hx rfl (hb hby d5_0) rfl  ks_) ?_
  refine go (u' := s₁.setTop (mkF m 3 #[.val (.ref o0), .val (.int p1), .val (.int p2), .val (.int p3), .unset, .unset, .unset] [(.int (13 : Int32)), (.int p2)])) (fun _ ks_ => XS.bipush X0.here hx rfl (hb hby d5_1) ks_) ?_
  by_cases c3_1 : p2 = (13 : Int32)
  ·
    refine go (u' := s₁.setTop (mkF m 6 #[.val (.ref o0), .val (.int p1), .val (.int p2), .val (.int p3), .unset, .unset, .unset] [])) (fun _ ks_ => XS.icmpNo X0.here hx rfl (hb hby d5_3) rfl (teq c3_1).2 ks_) ?_
    refine go (u' := s₁.setTop (mkF m 7 #[.val (.ref o0), .val (.int p1), .val (.int p2), .val (.int p3), .unset, .unset, .unset] [(.int (1 : Int32))])) (fun _ ks_ => XS.iconst X0.here hx rfl (hb hby d5_6) ks_) ?_
    refine go (u' := s₁.setTop (mkF m 11 #[.val (.ref o0), .val (.int p1), .val (.int p2), .val (.int p3), .unset, .unset, .unset] [(.int (1 : Int32))])) (fun _ ks_ => XS.goto X0.here hx rfl (pc0 := 7) (pc' := 11) rfl (hb hby d5_7) (by decide) (by decide) ks_) ?_
    refine go (u' := s₁.setTop (mkF m 13 #[.val (.ref o0), .val (.int p1), .val (.int p2), .val (.int p3), .val (.int (1 : Int32)), .unset, .unset] [])) (fun _ ks_ => XS.istore X0.here hx rfl (hb hby d5_11) rfl  (l' := #[.val (.ref o0), .val (.int p1), .val (.int p2), .val (.int p3), .val (.int (1 : Int32)), .unset, .unset]) rfl ks_) ?_
    refine go (u' := s₁.setTop (mkF m 14 #[.val (.ref o0), .val (.int p1), .val (.int p2), .val (.int p3), .val (.int (1 : Int32)), .unset, .unset] [(.int p2)])) (fun _ ks_ => XS.iloadN X0.here hx rfl (hb hby d5_13) rfl  ks_) ?_
    refine go (u' := s₁.setTop (mkF m 16 #[.val (.ref o0), .val (.int p1), .val (.int p2), .val (.int p3), .val (.int (1 : Int32)), .unset, .unset] [(.int (10 : Int32)), (.int p2)])) (fun _ ks_ => XS.bipush X0.here hx rfl (hb hby d5_14) ks_) ?_
    by_cases c16_2 : p2 = (10 : Int32)
    ·
      refine go (u' := s₁.setTop (mkF m 30 #[.val (.ref o0), .val (.int p1), .val (.int p2), .val (.int p3), .val (.int (1 : Int32)), .unset, .unset] [])) (fun _ ks_ => XS.icmpYes X0.here hx rfl (pc0 := 16) (pc' := 30) rfl (hb hby d5_16) rfl (teq c16_2).1 (by decide) (by decide) ks_) ?_
      refine go (u' := s₁.setTop (mkF m 31 #[.val (.ref o0), .val (.int p1), .val (.int p2), .val (.int p3), .val (.int (1 : Int32)), .unset, .unset] [(.int (1 : Int32))])) (fun _ ks_ => XS.iconst X0.here hx rfl (hb hby d5_30) ks_) ?_
      refine go (u' := s₁.setTop (mkF m 35 #[.val (.ref o0), .val (.int p1), .val (.int p2), .val (.int p3), .val (.int (1 : Int32)), .unset, .unset] [(.int (1 : Int32))])) (fun _ ks_ => XS.goto X0.here hx rfl (pc0 := 31) (pc' := 35) rfl (hb hby d5_31) (by decide) (by decide) ks_) ?_
      refine go (u' := s₁.setTop (mkF m 37 #[.val (.ref o0), .val (.int p1), .val (.int p2), .val (.int p3), .val (.int (1 : Int32)), .val (.int (1 : Int32)), .unset] [])) (fun _ ks_ => XS.istore X0.here hx rfl (hb hby d5_35) rfl  (l' := #[.val (.ref o0), .val (.int p1), .val (.int p2), .val (.int p3), .val (.int (1 : Int32)), .val (.int (1 : Int32)), .unset]) rfl ks_) ?_
      refine go (u' := s₁.setTop (mkF m 38 #[.val (.ref o0), .val (.int p1), .val (.int p2), .val (.int p3), .val (.int (1 : Int32)), .val (.int (1 : Int32)), .unset] [(.int p1)])) (fun _ ks_ => XS.iloadN X0.here hx rfl (hb hby d5_37) rfl  ks_) ?_
      by_cases c38_3 : p1 = (0 : Int32)
      ·
        refine go (u' := s₁.setTop (mkF m 52 #[.val (.ref o0), .val (.int p1), .val (.int p2), .val (.int p3), .val (.int (1 : Int32)), .val (.int (1 : Int32)), .unset] [])) (fun _ ks_ => XS.ifYes X0.here hx rfl (pc0 := 38) (pc' := 52) rfl (hb hby d5_38) rfl ((if0 _ _).trans (teq c38_3).1) (by decide) (by decide) ks_) ?_
        refine go (u' := s₁.setTop (mkF m 53 #[.val (.ref o0), .val (.int p1), .val (.int p2), .val (.int p3), .val (.int (1 : Int32)), .val (.int (1 : Int32)), .unset] [(.int (0 : Int32))])) (fun _ ks_ => XS.iconst X0.here hx rfl (hb hby d5_52) ks_) ?_
        refine go (u' := s₁.setTop (mkF m 55 #[.val (.ref o0), .val (.int p1), .val (.int p2), .val (.int p3), .val (.int (1 : Int32)), .val (.int (1 : Int32)), .val (.int (0 : Int32))] [])) (fun _ ks_ => XS.istore X0.here hx rfl (hb hby d5_53) rfl  (l' := #[.val (.ref o0), .val (.int p1), .val (.int p2), .val (.int p3), .val (.int (1 : Int32)), .val (.int (1 : Int32)), .val (.int (0 : Int32))]) rfl ks_) ?_
        refine go (u' := s₁.setTop (mkF m 57 #[.val (.ref o0), .val (.int p1), .val (.int p2), .val (.int p3), .val (.int (1 : Int32)), .val (.int (1 : Int32)), .val (.int (0 : Int32))] [(.int (1 : Int32))])) (fun _ ks_ => XS.iload X0.here hx rfl (hb hby d5_55) rfl  ks_) ?_
        refine go (u' := s₁.setTop (mkF m 65 #[.val (.ref o0), .val (.int p1), .val (.int p2), .val (.int p3), .val (.int (1 : Int32)), .val (.int (1 : Int32)), .val (.int (0 : Int32))] [])) (fun _ ks_ => XS.ifYes X0.here hx rfl (pc0 := 57) (pc' := 65) rfl (hb hby d5_57) rfl ((if0 _ _).trans (feq (show ¬ ((1 : Int32) = (0 : Int32)) from (by decide))).2) (by decide) (by decide) ks_) ?_
        refine go (u' := s₁.setTop (mkF m 66 #[.val (.ref o0), .val (.int p1), .val (.int p2), .val (.int p3), .val (.int (1 : Int32)), .val (.int (1 : Int32)), .val (.int (0 : Int32))] [(.ref o0)])) (fun _ ks_ => XS.aloadN X0.here hx rfl (hb hby d5_65) rfl rfl ks_) ?_
        refine go (u' := s₁.setTop (mkF m 67 #[.val (.ref o0), .val (.int p1), .val (.int p2), .val (.int p3), .val (.int (1 : Int32)), .val (.int (1 : Int32)), .val (.int (0 : Int32))] [(.int (0 : Int32)), (.ref o0)])) (fun _ ks_ => XS.iconst X0.here hx rfl (hb hby d5_66) ks_) ?_
        refine go (u' := s₁.setTop (mkF m 68 #[.val (.ref o0), .val (.int p1), .val (.int p2), .val (.int p3), .val (.int (1 : Int32)), .val (.int (1 : Int32)), .val (.int (0 : Int32))] [(.ref o0), (.int (0 : Int32)), (.ref o0)])) (fun _ ks_ => XS.aloadN X0.here hx rfl (hb hby d5_67) rfl rfl ks_) ?_
        refine go (u' := s₁.setTop (mkF m 69 #[.val (.ref o0), .val (.int p1), .val (.int p2), .val (.int p3), .val (.int (1 : Int32)), .val (.int (1 : Int32)), .val (.int (0 : Int32))] [(.int (0 : Int32)), (.ref o0), (.int (0 : Int32)), (.ref o0)])) (fun _ ks_ => XS.iconst X0.here hx rfl (hb hby d5_68) ks_) ?_
        refine go (u' := s₁.setTop (mkF m 70 #[.val (.ref o0), .val (.int p1), .val (.int p2), .val (.int p3), .val (.int (1 : Int32)), .val (.int (1 : Int32)), .val (.int (0 : Int32))] [(.int s0), (.int (0 : Int32)), (.ref o0)])) (own_iaload X0 hx hZ e0 F0 (j := (0 : Int32)) (v := s0) (by decide) (by decide) rfl (f := (mkF m 69 #[.val (.ref o0), .val (.int p1), .val (.int p2), .val (.int p3), .val (.int (1 : Int32)), .val (.int (1 : Int32)), .val (.int (0 : Int32))] [(.int (0 : Int32)), (.ref o0), (.int (0 : Int32)), (.ref o0)])) rfl rfl (hb hby d5_69)) ?_
        refine go (u' := s₁.setTop (mkF m 71 #[.val (.ref o0), .val (.int p1), .val (.int p2), .val (.int p3), .val (.int (1 : Int32)), .val (.int (1 : Int32)), .val (.int (0 : Int32))] [(.int (1 : Int32)), (.int s0), (.int (0 : Int32)), (.ref o0)])) (fun _ ks_ => XS.iconst X0.here hx rfl (hb hby d5_70) ks_) ?_
        refine go (u' := s₁.setTop (mkF m 72 #[.val (.ref o0), .val (.int p1), .val (.int p2), .val (.int p3), .val (.int (1 : Int32)), .val (.int (1 : Int32)), .val (.int (0 : Int32))] [(.int (s0 + (1 : Int32))), (.int (0 : Int32)), (.ref o0)])) (fun _ ks_ => XS.iadd X0.here hx rfl (hb hby d5_71) rfl ks_) ?_
        obtain ⟨T1, h1, X1, e1, W1, st1⟩ := own_iastore X0 hx hZ e0 F0 (j := (0 : Int32)) (x := (s0 + (1 : Int32)))  (by decide) (by decide) (f := (mkF m 72 #[.val (.ref o0), .val (.int p1), .val (.int p2), .val (.int p3), .val (.int (1 : Int32)), .val (.int (1 : Int32)), .val (.int (0 : Int32))] [(.int (s0 + (1 : Int32))), (.int (0 : Int32)), (.ref o0)])) rfl rfl (hb hby d5_72)
        have N1 := Fr.snoc X1 N0 g_o0
        have K1 : Keep h0 h1 [o0] := (Keep.refl h0 [o0]).wr W1 (Or.inl (List.mem_of_getElem? (i := 0) rfl))
        have Z1 : n0 ≤ h1.size := Nat.le_trans Z0 (Keep.of_wr W1).1
        have Fa2 : PI Z h1 o0 .int 3 (own_l [(s0 + (1 : Int32)), s1, s2]) := F0.setL (by decide) W1 rfl (Nat.le_of_ble_eq_true rfl) rfl
        refine go (u' := T1.setTop (mkF m 73 #[.val (.ref o0), .val (.int p1), .val (.int p2), .val (.int p3), .val (.int (1 : Int32)), .val (.int (1 : Int32)), .val (.int (0 : Int32))] [])) st1 ?_
        refine go (u' := T1.setTop (mkF m 74 #[.val (.ref o0), .val (.int p1), .val (.int p2), .val (.int p3), .val (.int (1 : Int32)), .val (.int (1 : Int32)), .val (.int (0 : Int32))] [(.ref o0)])) (fun _ ks_ => XS.aloadN X1.here hx rfl (hb hby d5_73) rfl rfl ks_) ?_
        refine go (u' := T1.setTop (mkF m 75 #[.val (.ref o0), .val (.int p1), .val (.int p2), .val (.int p3), .val (.int (1 : Int32)), .val (.int (1 : Int32)), .val (.int (0 : Int32))] [(.int (1 : Int32)), (.ref o0)])) (fun _ ks_ => XS.iconst X1.here hx rfl (hb hby d5_74) ks_) ?_
        refine go (u' := T1.setTop (mkF m 76 #[.val (.ref o0), .val (.int p1), .val (.int p2), .val (.int p3), .val (.int (1 : Int32)), .val (.int (1 : Int32)), .val (.int (0 : Int32))] [(.int (1 : Int32)), (.int (1 : Int32)), (.ref o0)])) (fun _ ks_ => XS.iconst X1.here hx rfl (hb hby d5_75) ks_) ?_
        obtain ⟨T3, h3, X3, e3, W3, st3⟩ := own_iastore X1 hx hZ e1 Fa2 (j := (1 : Int32)) (x := (1 : Int32))  (by decide) (by decide) (f := (mkF m 76 #[.val (.ref o0), .val (.int p1), .val (.int p2), .val (.int p3), .val (.int (1 : Int32)), .val (.int (1 : Int32)), .val (.int (0 : Int32))] [(.int (1 : Int32)), (.int (1 : Int32)), (.ref o0)])) rfl rfl (hb hby d5_76)
        have N3 := Fr.snoc X3 N1 g_o0
        have K3 : Keep h0 h3 [o0] := K1.wr W3 (Or.inl (List.mem_of_getElem? (i := 0) rfl))
        have Z3 : n0 ≤ h3.size := Nat.le_trans Z1 (Keep.of_wr W3).1
        have Fa4 : PI Z h3 o0 .int 3 (own_l [(s0 + (1 : Int32)), (1 : Int32), s2]) := Fa2.setL (by decide) W3 rfl (Nat.le_of_ble_eq_true rfl) rfl
        refine go (u' := T3.setTop (mkF m 77 #[.val (.ref o0), .val (.int p1), .val (.int p2), .val (.int p3), .val (.int (1 : Int32)), .val (.int (1 : Int32)), .val (.int (0 : Int32))] [])) st3 ?_
        refine go (u' := T3.setTop (mkF m 114 #[.val (.ref o0), .val (.int p1), .val (.int p2), .val (.int p3), .val (.int (1 : Int32)), .val (.int (1 : Int32)), .val (.int (0 : Int32))] [])) (fun _ ks_ => XS.goto X3.here hx rfl (pc0 := 77) (pc' := 114) rfl (hb hby d5_77) (by decide) (by decide) ks_) ?_
        refine go (u' := T3.setTop (mkF m 115 #[.val (.ref o0), .val (.int p1), .val (.int p2), .val (.int p3), .val (.int (1 : Int32)), .val (.int (1 : Int32)), .val (.int (0 : Int32))] [(.ref o0)])) (fun _ ks_ => XS.aloadN X3.here hx rfl (hb hby d5_114) rfl rfl ks_) ?_
        refine go (u' := T3.setTop (mkF m 116 #[.val (.ref o0), .val (.int p1), .val (.int p2), .val (.int p3), .val (.int (1 : Int32)), .val (.int (1 : Int32)), .val (.int (0 : Int32))] [(.int (2 : Int32)), (.ref o0)])) (fun _ ks_ => XS.iconst X3.here hx rfl (hb hby d5_115) ks_) ?_
        refine go (u' := T3.setTop (mkF m 118 #[.val (.ref o0), .val (.int p1), .val (.int p2), .val (.int p3), .val (.int (1 : Int32)), .val (.int (1 : Int32)), .val (.int (0 : Int32))] [(.int (1 : Int32)), (.int (2 : Int32)), (.ref o0)])) (fun _ ks_ => XS.iload X3.here hx rfl (hb hby d5_116) rfl  ks_) ?_
        refine go (u' := T3.setTop (mkF m 121 #[.val (.ref o0), .val (.int p1), .val (.int p2), .val (.int p3), .val (.int (1 : Int32)), .val (.int (1 : Int32)), .val (.int (0 : Int32))] [(.int (2 : Int32)), (.ref o0)])) (fun _ ks_ => XS.ifNo X3.here hx rfl (hb hby d5_118) rfl ((if0 _ _).trans (feq (show ¬ ((1 : Int32) = (0 : Int32)) from (by decide))).1) ks_) ?_
        refine go (u' := T3.setTop (mkF m 122 #[.val (.ref o0), .val (.int p1), .val (.int p2), .val (.int p3), .val (.int (1 : Int32)), .val (.int (1 : Int32)), .val (.int (0 : Int32))] [(.int (1 : Int32)), (.int (2 : Int32)), (.ref o0)])) (fun _ ks_ => XS.iconst X3.here hx rfl (hb hby d5_121) ks_) ?_
        refine go (u' := T3.setTop (mkF m 126 #[.val (.ref o0), .val (.int p1), .val (.int p2), .val (.int p3), .val (.int (1 : Int32)), .val (.int (1 : Int32)), .val (.int (0 : Int32))] [(.int (1 : Int32)), (.int (2 : Int32)), (.ref o0)])) (fun _ ks_ => XS.goto X3.here hx rfl (pc0 := 122) (pc' := 126) rfl (hb hby d5_122) (by decide) (by decide) ks_) ?_
        obtain ⟨T5, h5, X5, e5, W5, st5⟩ := own_iastore X3 hx hZ e3 Fa4 (j := (2 : Int32)) (x := (1 : Int32))  (by decide) (by decide) (f := (mkF m 126 #[.val (.ref o0), .val (.int p1), .val (.int p2), .val (.int p3), .val (.int (1 : Int32)), .val (.int (1 : Int32)), .val (.int (0 : Int32))] [(.int (1 : Int32)), (.int (2 : Int32)), (.ref o0)])) rfl rfl (hb hby d5_126)
        have N5 := Fr.snoc X5 N3 g_o0
        have K5 : Keep h0 h5 [o0] := K3.wr W5 (Or.inl (List.mem_of_getElem? (i := 0) rfl))
        have Z5 : n0 ≤ h5.size := Nat.le_trans Z3 (Keep.of_wr W5).1
        have Fa6 : PI Z h5 o0 .int 3 (own_l [(s0 + (1 : Int32)), (1 : Int32), (1 : Int32)]) := Fa4.setL (by decide) W5 rfl (Nat.le_of_ble_eq_true rfl) rfl
        refine go (u' := T5.setTop (mkF m 127 #[.val (.ref o0), .val (.int p1), .val (.int p2), .val (.int p3), .val (.int (1 : Int32)), .val (.int (1 : Int32)), .val (.int (0 : Int32))] [])) st5 ?_
        rw [hG]
        refine g0 X5 hx hlk hret (hb hby d5_127) ?_ (Nat.le_of_ble_eq_true rfl) (Nat.le_of_ble_eq_true rfl)
        show Q_rm5 Z o0 p1 p2 p3 s0 s1 s2 h0 n0 (none) T5.heap _
        rw [e5]
        exact ⟨rfl, N5, K5, (own_Lto Fa6 (congr (congrArg List.cons (show (s0 + (1 : Int32)) = (if p2 = (13 : Int32) then (s0 + (1 : Int32)) else (if p2 = (10 : Int32) then (if p1 = (0 : Int32) then (if s2 = (0 : Int32) then (s0 + (1 : Int32)) else s0) else (if p2 = (8232 : Int32) then (s0 + (1 : Int32)) else (if s2 = (0 : Int32) then (s0 + (1 : Int32)) else s0))) else (if p1 = (0 : Int32) then s0 else (if p2 = (133 : Int32) then (if p2 = (8232 : Int32) then (s0 + (1 : Int32)) else (if s2 = (0 : Int32) then (s0 + (1 : Int32)) else s0)) else (if p2 = (8232 : Int32) then (s0 + (1 : Int32)) else s0))))) from ((if_pos c3_1)).symm)) (congr (congrArg List.cons (show (1 : Int32) = (if p2 = (13 : Int32) then (1 : Int32) else (if p2 = (10 : Int32) then (if p1 = (0 : Int32) then (if s2 = (0 : Int32) then (1 : Int32) else s1) else (if p2 = (8232 : Int32) then (1 : Int32) else (if s2 = (0 : Int32) then (1 : Int32) else s1))) else (if p1 = (0 : Int32) then (s1 + p3) else (if p2 = (133 : Int32) then (if p2 = (8232 : Int32) then (1 : Int32) else (if s2 = (0 : Int32) then (1 : Int32) else s1)) else (if p2 = (8232 : Int32) then (1 : Int32) else (s1 + p3)))))) from ((if_pos c3_1)).symm)) (congr (congrArg List.cons (show (1 : Int32) = (if p2 = (13 : Int32) then (1 : Int32) else (0 : Int32)) from ((if_pos c3_1)).symm)) rfl))))⟩
      ·
        refine go (u' := s₁.setTop (mkF m 41 #[.val (.ref o0), .val (.int p1), .val (.int p2), .val (.int p3), .val (.int (1 : Int32)), .val (.int (1 : Int32)), .unset] [])) (fun _ ks_ => XS.ifNo X0.here hx rfl (hb hby d5_38) rfl ((if0 _ _).trans (feq c38_3).1) ks_) ?_
        refine go (u' := s₁.setTop (mkF m 42 #[.val (.ref o0), .val (.int p1), .val (.int p2), .val (.int p3), .val (.int (1 : Int32)), .val (.int (1 : Int32)), .unset] [(.int p2)])) (fun _ ks_ => XS.iloadN X0.here hx rfl (hb hby d5_41) rfl  ks_) ?_
        refine go (u' := s₁.setTop (mkF m 45 #[.val (.ref o0), .val (.int p1), .val (.int p2), .val (.int p3), .val (.int (1 : Int32)), .val (.int (1 : Int32)), .unset] [(.int (8232 : Int32)), (.int p2)])) (fun _ ks_ => XS.sipush X0.here hx rfl (hb hby d5_42) ks_) ?_
        by_cases c45_4 : p2 = (8232 : Int32)
        ·
          refine go (u' := s₁.setTop (mkF m 48 #[.val (.ref o0), .val (.int p1), .val (.int p2), .val (.int p3), .val (.int (1 : Int32)), .val (.int (1 : Int32)), .unset] [])) (fun _ ks_ => XS.icmpNo X0.here hx rfl (hb hby d5_45) rfl (teq c45_4).2 ks_) ?_
          refine go (u' := s₁.setTop (mkF m 49 #[.val (.ref o0), .val (.int p1), .val (.int p2), .val (.int p3), .val (.int (1 : Int32)), .val (.int (1 : Int32)), .unset] [(.int (1 : Int32))])) (fun _ ks_ => XS.iconst X0.here hx rfl (hb hby d5_48) ks_) ?_
          refine go (u' := s₁.setTop (mkF m 53 #[.val (.ref o0), .val (.int p1), .val (.int p2), .val (.int p3), .val (.int (1 : Int32)), .val (.int (1 : Int32)), .unset] [(.int (1 : Int32))])) (fun _ ks_ => XS.goto X0.here hx rfl (pc0 := 49) (pc' := 53) rfl (hb hby d5_49) (by decide) (by decide) ks_) ?_
          refine go (u' := s₁.setTop (mkF m 55 #[.val (.ref o0), .val (.int p1), .val (.int p2), .val (.int p3), .val (.int (1 : Int32)), .val (.int (1 : Int32)), .val (.int (1 : Int32))] [])) (fun _ ks_ => XS.istore X0.here hx rfl (hb hby d5_53) rfl  (l' := #[.val (.ref o0), .val (.int p1), .val (.int p2), .val (.int p3), .val (.int (1 : Int32)), .val (.int (1 : Int32)), .val (.int (1 : Int32))]) rfl ks_) ?_
          refine go (u' := s₁.setTop (mkF m 57 #[.val (.ref o0), .val (.int p1), .val (.int p2), .val (.int p3), .val (.int (1 : Int32)), .val (.int (1 : Int32)), .val (.int (1 : Int32))] [(.int (1 : Int32))])) (fun _ ks_ => XS.iload X0.here hx rfl (hb hby d5_55) rfl  ks_) ?_
          refine go (u' := s₁.setTop (mkF m 65 #[.val (.ref o0), .val (.int p1), .val (.int p2), .val (.int p3), .val (.int (1 : Int32)), .val (.int (1 : Int32)), .val (.int (1 : Int32))] [])) (fun _ ks_ => XS.ifYes X0.here hx rfl (pc0 := 57) (pc' := 65) rfl (hb hby d5_57) rfl ((if0 _ _).trans (feq (show ¬ ((1 : Int32) = (0 : Int32)) from (by decide))).2) (by decide) (by decide) ks_) ?_
          refine go (u' := s₁.setTop (mkF m 66 #[.val (.ref o0), .val (.int p1), .val (.int p2), .val (.int p3), .val (.int (1 : Int32)), .val (.int (1 : Int32)), .val (.int (1 : Int32))] [(.ref o0)])) (fun _ ks_ => XS.aloadN X0.here hx rfl (hb hby d5_65) rfl rfl ks_) ?_
          refine go (u' := s₁.setTop (mkF m 67 #[.val (.ref o0), .val (.int p1), .val (.int p2), .val (.int p3), .val (.int (1 : Int32)), .val (.int (1 : Int32)), .val (.int (1 : Int32))] [(.int (0 : Int32)), (.ref o0)])) (fun _ ks_ => XS.iconst X0.here hx rfl (hb hby d5_66) ks_) ?_
          refine go (u' := s₁.setTop (mkF m 68 #[.val (.ref o0), .val (.int p1), .val (.int p2), .val (.int p3), .val (.int (1 : Int32)), .val (.int (1 : Int32)), .val (.int (1 : Int32))] [(.ref o0), (.int (0 : Int32)), (.ref o0)])) (fun _ ks_ => XS.aloadN X0.here hx rfl (hb hby d5_67) rfl rfl ks_) ?_
          refine go (u' := s₁.setTop (mkF m 69 #[.val (.ref o0), .val (.int p1), .val (.int p2), .val (.int p3), .val (.int (1 : Int32)), .val (.int (1 : Int32)), .val (.int (1 : Int32))] [(.int (0 : Int32)), (.ref o0), (.int (0 : Int32)), (.ref o0)])) (fun _ ks_ => XS.iconst X0.here hx rfl (hb hby d5_68) ks_) ?_
          refine go (u' := s₁.setTop (mkF m 70 #[.val (.ref o0), .val (.int p1), .val (.int p2), .val (.int p3), .val (.int (1 : Int32)), .val (.int (1 : Int32)), .val (.int (1 : Int32))] [(.int s0), (.int (0 : Int32)), (.ref o0)])) (own_iaload X0 hx hZ e0 F0 (j := (0 : Int32)) (v := s0) (by decide) (by decide) rfl (f := (mkF m 69 #[.val (.ref o0), .val (.int p1), .val (.int p2), .val (.int p3), .val (.int (1 : Int32)), .val (.int (1 : Int32)), .val (.int (1 : Int32))] [(.int (0 : Int32)), (.ref o0), (.int (0 : Int32)), (.ref o0)])) rfl rfl (hb hby d5_69)) ?_
          refine go (u' := s₁.setTop (mkF m 71 #[.val (.ref o0), .val (.int p1), .val (.int p2), .val (.int p3), .val (.int (1 : Int32)), .val (.int (1 : Int32)), .val (.int (1 : Int32))] [(.int (1 : Int32)), (.int s0), (.int (0 : Int32)), (.ref o0)])) (fun _ ks_ => XS.iconst X0.here hx rfl (hb hby d5_70) ks_) ?_
          refine go (u' := s₁.setTop (mkF m 72 #[.val (.ref o0), .val (.int p1), .val (.int p2), .val (.int p3), .val (.int (1 : Int32)), .val (.int (1 : Int32)), .val (.int (1 : Int32))] [(.int (s0 + (1 : Int32))), (.int (0 : Int32)), (.ref o0)])) (fun _ ks_ => XS.iadd X0.here hx rfl (hb hby d5_71) rfl ks_) ?_
          obtain ⟨T7, h7, X7, e7, W7, st7⟩ := own_iastore X0 hx hZ e0 F0 (j := (0 : Int32)) (x := (s0 + (1 : Int32)))  (by decide) (by decide) (f := (mkF m 72 #[.val (.ref o0), .val (.int p1), .val (.int p2), .val (.int p3), .val (.int (1 : Int32)), .val (.int (1 : Int32)), .val (.int (1 : Int32))] [(.int (s0 + (1 : Int32))), (.int (0 : Int32)), (.ref o0)])) rfl rfl (hb hby d5_72)
          have N7 := Fr.snoc X7 N0 g_o0
          have K7 : Keep h0 h7 [o0] := (Keep.refl h0 [o0]).wr W7 (Or.inl (List.mem_of_getElem? (i := 0) rfl))
          have Z7 : n0 ≤ h7.size := Nat.le_trans Z0 (Keep.of_wr W7).1
          have Fa8 : PI Z h7 o0 .int 3 (own_l [(s0 + (1 : Int32)), s1, s2]) := F0.setL (by decide) W7 rfl (Nat.le_of_ble_eq_true rfl) rfl
          refine go (u' := T7.setTop (mkF m 73 #[.val (.ref o0), .val (.int p1), .val (.int p2), .val (.int p3), .val (.int (1 : Int32)), .val (.int (1 : Int32)), .val (.int (1 : Int32))] [])) st7 ?_
          refine go (u' := T7.setTop (mkF m 74 #[.val (.ref o0), .val (.int p1), .val (.int p2), .val (.int p3), .val (.int (1 : Int32)), .val (.int (1 : Int32)), .val (.int (1 : Int32))] [(.ref o0)])) (fun _ ks_ => XS.aloadN X7.here hx rfl (hb hby d5_73) rfl rfl ks_) ?_
          refine go (u' := T7.setTop (mkF m 75 #[.val (.ref o0), .val (.int p1), .val (.int p2), .val (.int p3), .val (.int (1 : Int32)), .val (.int (1 : Int32)), .val (.int (1 : Int32))] [(.int (1 : Int32)), (.ref o0)])) (fun _ ks_ => XS.iconst X7.here hx rfl (hb hby d5_74) ks_) ?_
          refine go (u' := T7.setTop (mkF m 76 #[.val (.ref o0), .val (.int p1), .val (.int p2), .val (.int p3), .val (.int (1 : Int32)), .val (.int (1 : Int32)), .val (.int (1 : Int32))] [(.int (1 : Int32)), (.int (1 : Int32)), (.ref o0)])) (fun _ ks_ => XS.iconst X7.here hx rfl (hb hby d5_75) ks_) ?_
          obtain ⟨T9, h9, X9, e9, W9, st9⟩ := own_iastore X7 hx hZ e7 Fa8 (j := (1 : Int32)) (x := (1 : Int32))  (by decide) (by decide) (f := (mkF m 76 #[.val (.ref o0), .val (.int p1), .val (.int p2), .val (.int p3), .val (.int (1 : Int32)), .val (.int (1 : Int32)), .val (.int (1 : Int32))] [(.int (1 : Int32)), (.int (1 : Int32)), (.ref o0)])) rfl rfl (hb hby d5_76)
          have N9 := Fr.snoc X9 N7 g_o0
          have K9 : Keep h0 h9 [o0] := K7.wr W9 (Or.inl (List.mem_of_getElem? (i := 0) rfl))
          have Z9 : n0 ≤ h9.size := Nat.le_trans Z7 (Keep.of_wr W9).1
          have Fa10 : PI Z h9 o0 .int 3 (own_l [(s0 + (1 : Int32)), (1 : Int32), s2]) := Fa8.setL (by decide) W9 rfl (Nat.le_of_ble_eq_true rfl) rfl
          refine go (u' := T9.setTop (mkF m 77 #[.val (.ref o0), .val (.int p1), .val (.int p2), .val (.int p3), .val (.int (1 : Int32)), .val (.int (1 : Int32)), .val (.int (1 : Int32))] [])) st9 ?_
          refine go (u' := T9.setTop (mkF m 114 #[.val (.ref o0), .val (.int p1), .val (.int p2), .val (.int p3), .val (.int (1 : Int32)), .val (.int (1 : Int32)), .val (.int (1 : Int32))] [])) (fun _ ks_ => XS.goto X9.here hx rfl (pc0 := 77) (pc' := 114) rfl (hb hby d5_77) (by decide) (by decide) ks_) ?_
          refine go (u' := T9.setTop (mkF m 115 #[.val (.ref o0), .val (.int p1), .val (.int p2), .val (.int p3), .val (.int (1 : Int32)), .val (.int (1 : Int32)), .val (.int (1 : Int32))] [(.ref o0)])) (fun _ ks_ => XS.aloadN X9.here hx rfl (hb hby d5_114) rfl rfl ks_) ?_
          refine go (u' := T9.setTop (mkF m 116 #[.val (.ref o0), .val (.int p1), .val (.int p2), .val (.int p3), .val (.int (1 : Int32)), .val (.int (1 : Int32)), .val (.int (1 : Int32))] [(.int (2 : Int32)), (.ref o0)])) (fun _ ks_ => XS.iconst X9.here hx rfl (hb hby d5_115) ks_) ?_
          refine go (u' := T9.setTop (mkF m 118 #[.val (.ref o0), .val (.int p1), .val (.int p2), .val (.int p3), .val (.int (1 : Int32)), .val (.int (1 : Int32)), .val (.int (1 : Int32))] [(.int (1 : Int32)), (.int (2 : Int32)), (.ref o0)])) (fun _ ks_ => XS.iload X9.here hx rfl (hb hby d5_116) rfl  ks_) ?_
          refine go (u' := T9.setTop (mkF m 121 #[.val (.ref o0), .val (.int p1), .val (.int p2), .val (.int p3), .val (.int (1 : Int32)), .val (.int (1 : Int32)), .val (.int (1 : Int32))] [(.int (2 : Int32)), (.ref o0)])) (fun _ ks_ => XS.ifNo X9.here hx rfl (hb hby d5_118) rfl ((if0 _ _).trans (feq (show ¬ ((1 : Int32) = (0 : Int32)) from (by decide))).1) ks_) ?_
          refine go (u' := T9.setTop (mkF m 122 #[.val (.ref o0), .val (.int p1), .val (.int p2), .val (.int p3), .val (.int (1 : Int32)), .val (.int (1 : Int32)), .val (.int (1 : Int32))] [(.int (1 : Int32)), (.int (2 : Int32)), (.ref o0)])) (fun _ ks_ => XS.iconst X9.here hx rfl (hb hby d5_121) ks_) ?_
          refine go (u' := T9.setTop (mkF m 126 #[.val (.ref o0), .val (.int p1), .val (.int p2), .val (.int p3), .val (.int (1 : Int32)), .val (.int (1 : Int32)), .val (.int (1 : Int32))] [(.int (1 : Int32)), (.int (2 : Int32)), (.ref o0)])) (fun _ ks_ => XS.goto X9.here hx rfl (pc0 := 122) (pc' := 126) rfl (hb hby d5_122) (by decide) (by decide) ks_) ?_
          obtain ⟨T11, h11, X11, e11, W11, st11⟩ := own_iastore X9 hx hZ e9 Fa10 (j := (2 : Int32)) (x := (1 : Int32))  (by decide) (by decide) (f := (mkF m 126 #[.val (.ref o0), .val (.int p1), .val (.int p2), .val (.int p3), .val (.int (1 : Int32)), .val (.int (1 : Int32)), .val (.int (1 : Int32))] [(.int (1 : Int32)), (.int (2 : Int32)), (.ref o0)])) rfl rfl (hb hby d5_126)
          have N11 := Fr.snoc X11 N9 g_o0
          have K11 : Keep h0 h11 [o0] := K9.wr W11 (Or.inl (List.mem_of_getElem? (i := 0) rfl))
          have Z11 : n0 ≤ h11.size := Nat.le_trans Z9 (Keep.of_wr W11).1
          have Fa12 : PI Z h11 o0 .int 3 (own_l [(s0 + (1 : Int32)), (1 : Int32), (1 : Int32)]) := Fa10.setL (by decide) W11 rfl (Nat.le_of_ble_eq_true rfl) rfl
          refine go (u' := T11.setTop (mkF m 127 #[.val (.ref o0), .val (.int p1), .val (.int p2), .val (.int p3), .val (.int (1 : Int32)), .val (.int (1 : Int32)), .val (.int (1 : Int32))] [])) st11 ?_
          rw [hG]
          refine g0 X11 hx hlk hret (hb hby d5_127) ?_ (Nat.le_of_ble_eq_true rfl) (Nat.le_of_ble_eq_true rfl)
          show Q_rm5 Z o0 p1 p2 p3 s0 s1 s2 h0 n0 (none) T11.heap _
          rw [e11]
          exact ⟨rfl, N11, K11, (own_Lto Fa12 (congr (congrArg List.cons (show (s0 + (1 : Int32)) = (if p2 = (13 : Int32) then (s0 + (1 : Int32)) else (if p2 = (10 : Int32) then (if p1 = (0 : Int32) then (if s2 = (0 : Int32) then (s0 + (1 : Int32)) else s0) else (if p2 = (8232 : Int32) then (s0 + (1 : Int32)) else (if s2 = (0 : Int32) then (s0 + (1 : Int32)) else s0))) else (if p1 = (0 : Int32) then s0 else (if p2 = (133 : Int32) then (if p2 = (8232 : Int32) then (s0 + (1 : Int32)) else (if s2 = (0 : Int32) then (s0 + (1 : Int32)) else s0)) else (if p2 = (8232 : Int32) then (s0 + (1 : Int32)) else s0))))) from ((if_pos c3_1)).symm)) (congr (congrArg List.cons (show (1 : Int32) = (if p2 = (13 : Int32) then (1 : Int32) else (if p2 = (10 : Int32) then (if p1 = (0 : Int32) then (if s2 = (0 : Int32) then (1 : Int32) else s1) else (if p2 = (8232 : Int32) then (1 : Int32) else (if s2 = (0 : Int32) then (1 : Int32) else s1))) else (if p1 = (0 : Int32) then (s1 + p3) else (if p2 = (133 : Int32) then (if p2 = (8232 : Int32) then (1 : Int32) else (if s2 = (0 : Int32) then (1 : Int32) else s1)) else (if p2 = (8232 : Int32) then (1 : Int32) else (s1 + p3)))))) from ((if_pos c3_1)).symm)) (congr (congrArg List.cons (show (1 : Int32) = (if p2 = (13 : Int32) then (1 : Int32) else (0 : Int32)) from ((if_pos c3_1)).symm)) rfl))))⟩
        ·
          refine go (u' := s₁.setTop (mkF m 52 #[.val (.ref o0), .val (.int p1), .val (.int p2), .val (.int p3), .val (.int (1 : Int32)), .val (.int (1 : Int32)), .unset] [])) (fun _ ks_ => XS.icmpYes X0.here hx rfl (pc0 := 45) (pc' := 52) rfl (hb hby d5_45) rfl (feq c45_4).2 (by decide) (by decide) ks_) ?_
          refine go (u' := s₁.setTop (mkF m 53 #[.val (.ref o0), .val (.int p1), .val (.int p2), .val (.int p3), .val (.int (1 : Int32)), .val (.int (1 : Int32)), .unset] [(.int (0 : Int32))])) (fun _ ks_ => XS.iconst X0.here hx rfl (hb hby d5_52) ks_) ?_
          refine go (u' := s₁.setTop (mkF m 55 #[.val (.ref o0), .val (.int p1), .val (.int p2), .val (.int p3), .val (.int (1 : Int32)), .val (.int (1 : Int32)), .val (.int (0 : Int32))] [])) (fun _ ks_ => XS.istore X0.here hx rfl (hb hby d5_53) rfl  (l' := #[.val (.ref o0), .val (.int p1), .val (.int p2), .val (.int p3), .val (.int (1 : Int32)), .val (.int (1 : Int32)), .val (.int (0 : Int32))]) rfl ks_) ?_
          refine go (u' := s₁.setTop (mkF m 57 #[.val (.ref o0), .val (.int p1), .val (.int p2), .val (.int p3), .val (.int (1 : Int32)), .val (.int (1 : Int32)), .val (.int (0 : Int32))] [(.int (1 : Int32))])) (fun _ ks_ => XS.iload X0.here hx rfl (hb hby d5_55) rfl  ks_) ?_
          refine go (u' := s₁.setTop (mkF m 65 #[.val (.ref o0), .val (.int p1), .val (.int p2), .val (.int p3), .val (.int (1 : Int32)), .val (.int (1 : Int32)), .val (.int (0 : Int32))] [])) (fun _ ks_ => XS.ifYes X0.here hx rfl (pc0 := 57) (pc' := 65) rfl (hb hby d5_57) rfl ((if0 _ _).trans (feq (show ¬ ((1 : Int32) = (0 : Int32)) from (by decide))).2) (by decide) (by decide) ks_) ?_
          refine go (u' := s₁.setTop (mkF m 66 #[.val (.ref o0), .val (.int p1), .val (.int p2), .val (.int p3), .val (.int (1 : Int32)), .val (.int (1 : Int32)), .val (.int (0 : Int32))] [(.ref o0)])) (fun _ ks_ => XS.aloadN X0.here hx rfl (hb hby d5_65) rfl rfl ks_) ?_
          refine go (u' := s₁.setTop (mkF m 67 #[.val (.ref o0), .val (.int p1), .val (.int p2), .val (.int p3), .val (.int (1 : Int32)), .val (.int (1 : Int32)), .val (.int (0 : Int32))] [(.int (0 : Int32)), (.ref o0)])) (fun _ ks_ => XS.iconst X0.here hx rfl (hb hby d5_66) ks_) ?_
          refine go (u' := s₁.setTop (mkF m 68 #[.val (.ref o0), .val (.int p1), .val (.int p2), .val (.int p3), .val (.int (1 : Int32)), .val (.int (1 : Int32)), .val (.int (0 : Int32))] [(.ref o0), (.int (0 : Int32)), (.ref o0)])) (fun _ ks_ => XS.aloadN X0.here hx rfl (hb hby d5_67) rfl rfl ks_) ?_
          refine go (u' := s₁.setTop (mkF m 69 #[.val (.ref o0), .val (.int p1), .val (.int p2), .val (.int p3), .val (.int (1 : Int32)), .val (.int (1 : Int32)), .val (.int (0 : Int32))] [(.int (0 : Int32)), (.ref o0), (.int (0 : Int32)), (.ref o0)])) (fun _ ks_ => XS.iconst X0.here hx rfl (hb hby d5_68) ks_) ?_
          refine go (u' := s₁.setTop (mkF m 70 #[.val (.ref o0), .val (.int p1), .val (.int p2), .val (.int p3), .val (.int (1 : Int32)), .val (.int (1 : Int32)), .val (.int (0 : Int32))] [(.int s0), (.int (0 : Int32)), (.ref o0)])) (own_iaload X0 hx hZ e0 F0 (j := (0 : Int32)) (v := s0) (by decide) (by decide) rfl (f := (mkF m 69 #[.val (.ref o0), .val (.int p1), .val (.int p2), .val (.int p3), .val (.int (1 : Int32)), .val (.int (1 : Int32)), .val (.int (0 : Int32))] [(.int (0 : Int32)), (.ref o0), (.int (0 : Int32)), (.ref o0)])) rfl rfl (hb hby d5_69)) ?_
          refine go (u' := s₁.setTop (mkF m 71 #[.val (.ref o0), .val (.int p1), .val (.int p2), .val (.int p3), .val (.int (1 : Int32)), .val (.int (1 : Int32)), .val (.int (0 : Int32))] [(.int (1 : Int32)), (.int s0), (.int (0 : Int32)), (.ref o0)])) (fun _ ks_ => XS.iconst X0.here hx rfl (hb hby d5_70) ks_) ?_
          refine go (u' := s₁.setTop (mkF m 72 #[.val (.ref o0), .val (.int p1), .val (.int p2), .val (.int p3), .val (.int (1 : Int32)), .val (.int (1 : Int32)), .val (.int (0 : Int32))] [(.int (s0 + (1 : Int32))), (.int (0 : Int32)), (.ref o0)])) (fun _ ks_ => XS.iadd X0.here hx rfl (hb hby d5_71) rfl ks_) ?_
          obtain ⟨T13, h13, X13, e13, W13, st13⟩ := own_iastore X0 hx hZ e0 F0 (j := (0 : Int32)) (x := (s0 + (1 : Int32)))  (by decide) (by decide) (f := (mkF m 72 #[.val (.ref o0), .val (.int p1), .val (.int p2), .val (.int p3), .val (.int (1 : Int32)), .val (.int (1 : Int32)), .val (.int (0 : Int32))] [(.int (s0 + (1 : Int32))), (.int (0 : Int32)), (.ref o0)])) rfl rfl (hb hby d5_72)
          have N13 := Fr.snoc X13 N0 g_o0
          have K13 : Keep h0 h13 [o0] := (Keep.refl h0 [o0]).wr W13 (Or.inl (List.mem_of_getElem? (i := 0) rfl))
          have Z13 : n0 ≤ h13.size := Nat.le_trans Z0 (Keep.of_wr W13).1
          have Fa14 : PI Z h13 o0 .int 3 (own_l [(s0 + (1 : Int32)), s1, s2]) := F0.setL (by decide) W13 rfl (Nat.le_of_ble_eq_true rfl) rfl
          refine go (u' := T13.setTop (mkF m 73 #[.val (.ref o0), .val (.int p1), .val (.int p2), .val (.int p3), .val (.int (1 : Int32)), .val (.int (1 : Int32)), .val (.int (0 : Int32))] [])) st13 ?_
          refine go (u' := T13.setTop (mkF m 74 #[.val (.ref o0), .val (.int p1), .val (.int p2), .val (.int p3), .val (.int (1 : Int32)), .val (.int (1 : Int32)), .val (.int (0 : Int32))] [(.ref o0)])) (fun _ ks_ => XS.aloadN X13.here hx rfl (hb hby d5_73) rfl rfl ks_) ?_
          refine go (u' := T13.setTop (mkF m 75 #[.val (.ref o0), .val (.int p1), .val (.int p2), .val (.int p3), .val (.int (1 : Int32)), .val (.int (1 : Int32)), .val (.int (0 : Int32))] [(.int (1 : Int32)), (.ref o0)])) (fun _ ks_ => XS.iconst X13.here hx rfl (hb hby d5_74) ks_) ?_
          refine go (u' := T13.setTop (mkF m 76 #[.val (.ref o0), .val (.int p1), .val (.int p2), .val (.int p3), .val (.int (1 : Int32)), .val (.int (1 : Int32)), .val (.int (0 : Int32))] [(.int (1 : Int32)), (.int (1 : Int32)), (.ref o0)])) (fun _ ks_ => XS.iconst X13.here hx rfl (hb hby d5_75) ks_) ?_
          obtain ⟨T15, h15, X15, e15, W15, st15⟩ := own_iastore X13 hx hZ e13 Fa14 (j := (1 : Int32)) (x := (1 : Int32))  (by decide) (by decide) (f := (mkF m 76 #[.val (.ref o0), .val (.int p1), .val (.int p2), .val (.int p3), .val (.int (1 : Int32)), .val (.int (1 : Int32)), .val (.int (0 : Int32))] [(.int (1 : Int32)), (.int (1 : Int32)), (.ref o0)])) rfl rfl (hb hby d5_76)
          have N15 := Fr.snoc X15 N13 g_o0
          have K15 : Keep h0 h15 [o0] := K13.wr W15 (Or.inl (List.mem_of_getElem? (i := 0) rfl))
          have Z15 : n0 ≤ h15.size := Nat.le_trans Z13 (Keep.of_wr W15).1
          have Fa16 : PI Z h15 o0 .int 3 (own_l [(s0 + (1 : Int32)), (1 : Int32), s2]) := Fa14.setL (by decide) W15 rfl (Nat.le_of_ble_eq_true rfl) rfl
          refine go (u' := T15.setTop (mkF m 77 #[.val (.ref o0), .val (.int p1), .val (.int p2), .val (.int p3), .val (.int (1 : Int32)), .val (.int (1 : Int32)), .val (.int (0 : Int32))] [])) st15 ?_
          refine go (u' := T15.setTop (mkF m 114 #[.val (.ref o0), .val (.int p1), .val (.int p2), .val (.int p3), .val (.int (1 : Int32)), .val (.int (1 : Int32)), .val (.int (0 : Int32))] [])) (fun _ ks_ => XS.goto X15.here hx rfl (pc0 := 77) (pc' := 114) rfl (hb hby d5_77) (by decide) (by decide) ks_) ?_
          refine go (u' := T15.setTop (mkF m 115 #[.val (.ref o0), .val (.int p1), .val (.int p2), .val (.int p3), .val (.int (1 : Int32)), .val (.int (1 : Int32)), .val (.int (0 : Int32))] [(.ref o0)])) (fun _ ks_ => XS.aloadN X15.here hx rfl (hb hby d5_114) rfl rfl ks_) ?_
          refine go (u' := T15.setTop (mkF m 116 #[.val (.ref o0), .val (.int p1), .val (.int p2), .val (.int p3), .val (.int (1 : Int32)), .val (.int (1 : Int32)), .val (.int (0 : Int32))] [(.int (2 : Int32)), (.ref o0)])) (fun _ ks_ => XS.iconst X15.here hx rfl (hb hby d5_115) ks_) ?_
          refine go (u' := T15.setTop (mkF m 118 #[.val (.ref o0), .val (.int p1), .val (.int p2), .val (.int p3), .val (.int (1 : Int32)), .val (.int (1 : Int32)), .val (.int (0 : Int32))] [(.int (1 : Int32)), (.int (2 : Int32)), (.ref o0)])) (fun _ ks_ => XS.iload X15.here hx rfl (hb hby d5_116) rfl  ks_) ?_
          refine go (u' := T15.setTop (mkF m 121 #[.val (.ref o0), .val (.int p1), .val (.int p2), .val (.int p3), .val (.int (1 : Int32)), .val (.int (1 : Int32)), .val (.int (0 : Int32))] [(.int (2 : Int32)), (.ref o0)])) (fun _ ks_ => XS.ifNo X15.here hx rfl (hb hby d5_118) rfl ((if0 _ _).trans (feq (show ¬ ((1 : Int32) = (0 : Int32)) from (by decide))).1) ks_) ?_
          refine go (u' := T15.setTop (mkF m 122 #[.val (.ref o0), .val (.int p1), .val (.int p2), .val (.int p3), .val (.int (1 : Int32)), .val (.int (1 : Int32)), .val (.int (0 : Int32))] [(.int (1 : Int32)), (.int (2 : Int32)), (.ref o0)])) (fun _ ks_ => XS.iconst X15.here hx rfl (hb hby d5_121) ks_) ?_
          refine go (u' := T15.setTop (mkF m 126 #[.val (.ref o0), .val (.int p1), .val (.int p2), .val (.int p3), .val (.int (1 : Int32)), .val (.int (1 : Int32)), .val (.int (0 : Int32))] [(.int (1 : Int32)), (.int (2 : Int32)), (.ref o0)])) (fun _ ks_ => XS.goto X15.here hx rfl (pc0 := 122) (pc' := 126) rfl (hb hby d5_122) (by decide) (by decide) ks_) ?_
          obtain ⟨T17, h17, X17, e17, W17, st17⟩ := own_iastore X15 hx hZ e15 Fa16 (j := (2 : Int32)) (x := (1 : Int32))  (by decide) (by decide) (f := (mkF m 126 #[.val (.ref o0), .val (.int p1), .val (.int p2), .val (.int p3), .val (.int (1 : Int32)), .val (.int (1 : Int32)), .val (.int (0 : Int32))] [(.int (1 : Int32)), (.int (2 : Int32)), (.ref o0)])) rfl rfl (hb hby d5_126)
          have N17 := Fr.snoc X17 N15 g_o0
          have K17 : Keep h0 h17 [o0] := K15.wr W17 (Or.inl (List.mem_of_getElem? (i := 0) rfl))
          have Z17 : n0 ≤ h17.size := Nat.le_trans Z15 (Keep.of_wr W17).1
          have Fa18 : PI Z h17 o0 .int 3 (own_l [(s0 + (1 : Int32)), (1 : Int32), (1 : Int32)]) := Fa16.setL (by decide) W17 rfl (Nat.le_of_ble_eq_true rfl) rfl
          refine go (u' := T17.setTop (mkF m 127 #[.val (.ref o0), .val (.int p1), .val (.int p2), .val (.int p3), .val (.int (1 : Int32)), .val (.int (1 : Int32)), .val (.int (0 : Int32))] [])) st17 ?_
          rw [hG]
          refine g0 X17 hx hlk hret (hb hby d5_127) ?_ (Nat.le_of_ble_eq_true rfl) (Nat.le_of_ble_eq_true rfl)
          show Q_rm5 Z o0 p1 p2 p3 s0 s1 s2 h0 n0 (none) T17.heap _
          rw [e17]
          exact ⟨rfl, N17, K17, (own_Lto Fa18 (congr (congrArg List.cons (show (s0 + (1 : Int32)) = (if p2 = (13 : Int32) then (s0 + (1 : Int32)) else (if p2 = (10 : Int32) then (if p1 = (0 : Int32) then (if s2 = (0 : Int32) then (s0 + (1 : Int32)) else s0) else (if p2 = (8232 : Int32) then (s0 + (1 : Int32)) else (if s2 = (0 : Int32) then (s0 + (1 : Int32)) else s0))) else (if p1 = (0 : Int32) then s0 else (if p2 = (133 : Int32) then (if p2 = (8232 : Int32) then (s0 + (1 : Int32)) else (if s2 = (0 : Int32) then (s0 + (1 : Int32)) else s0)) else (if p2 = (8232 : Int32) then (s0 + (1 : Int32)) else s0))))) from ((if_pos c3_1)).symm)) (congr (congrArg List.cons (show (1 : Int32) = (if p2 = (13 : Int32) then (1 : Int32) else (if p2 = (10 : Int32) then (if p1 = (0 : Int32) then (if s2 = (0 : Int32) then (1 : Int32) else s1) else (if p2 = (8232 : Int32) then (1 : Int32) else (if s2 = (0 : Int32) then (1 : Int32) else s1))) else (if p1 = (0 : Int32) then (s1 + p3) else (if p2 = (133 : Int32) then (if p2 = (8232 : Int32) then (1 : Int32) else (if s2 = (0 : Int32) then (1 : Int32) else s1)) else (if p2 = (8232 : Int32) then (1 : Int32) else (s1 + p3)))))) from ((if_pos c3_1)).symm)) (congr (congrArg List.cons (show (1 : Int32) = (if p2 = (13 : Int32) then (1 : Int32) else (0 : Int32)) from ((if_pos c3_1)).symm)) rfl))))⟩
    ·
      refine go (u' := s₁.setTop (mkF m 19 #[.val (.ref o0), .val (.int p1), .val (.int p2), .val (.int p3), .val (.int (1 : Int32)), .unset, .unset] [])) (fun _ ks_ => XS.icmpNo X0.here hx rfl (hb hby d5_16) rfl (feq c16_2).1 ks_) ?_
      refine go (u' := s₁.setTop (mkF m 20 #[.val (.ref o0), .val (.int p1), .val (.int p2), .val (.int p3), .val (.int (1 : Int32)), .unset, .unset] [(.int p1)])) (fun _ ks_ => XS.iloadN X0.here hx rfl (hb hby d5_19) rfl  ks_) ?_
      by_cases c20_5 : p1 = (0 : Int32)
      ·
        refine go (u' := s₁.setTop (mkF m 34 #[.val (.ref o0), .val (.int p1), .val (.int p2), .val (.int p3), .val (.int (1 : Int32)), .unset, .unset] [])) (fun _ ks_ => XS.ifYes X0.here hx rfl (pc0 := 20) (pc' := 34) rfl (hb hby d5_20) rfl ((if0 _ _).trans (teq c20_5).1) (by decide) (by decide) ks_) ?_
        refine go (u' := s₁.setTop (mkF m 35 #[.val (.ref o0), .val (.int p1), .val (.int p2), .val (.int p3), .val (.int (1 : Int32)), .unset, .unset] [(.int (0 : Int32))])) (fun _ ks_ => XS.iconst X0.here hx rfl (hb hby d5_34) ks_) ?_
        refine go (u' := s₁.setTop (mkF m 37 #[.val (.ref o0), .val (.int p1), .val (.int p2), .val (.int p3), .val (.int (1 : Int32)), .val (.int (0 : Int32)), .unset] [])) (fun _ ks_ => XS.istore X0.here hx rfl (hb hby d5_35) rfl  (l' := #[.val (.ref o0), .val (.int p1), .val (.int p2), .val (.int p3), .val (.int (1 : Int32)), .val (.int (0 : Int32)), .unset]) rfl ks_) ?_
        refine go (u' := s₁.setTop (mkF m 38 #[.val (.ref o0), .val (.int p1), .val (.int p2), .val (.int p3), .val (.int (1 : Int32)), .val (.int (0 : Int32)), .unset] [(.int p1)])) (fun _ ks_ => XS.iloadN X0.here hx rfl (hb hby d5_37) rfl  ks_) ?_
        refine go (u' := s₁.setTop (mkF m 52 #[.val (.ref o0), .val (.int p1), .val (.int p2), .val (.int p3), .val (.int (1 : Int32)), .val (.int (0 : Int32)), .unset] [])) (fun _ ks_ => XS.ifYes X0.here hx rfl (pc0 := 38) (pc' := 52) rfl (hb hby d5_38) rfl ((if0 _ _).trans (teq c20_5).1) (by decide) (by decide) ks_) ?_
        refine go (u' := s₁.setTop (mkF m 53 #[.val (.ref o0), .val (.int p1), .val (.int p2), .val (.int p3), .val (.int (1 : Int32)), .val (.int (0 : Int32)), .unset] [(.int (0 : Int32))])) (fun _ ks_ => XS.iconst X0.here hx rfl (hb hby d5_52) ks_) ?_
        refine go (u' := s₁.setTop (mkF m 55 #[.val (.ref o0), .val (.int p1), .val (.int p2), .val (.int p3), .val (.int (1 : Int32)), .val (.int (0 : Int32)), .val (.int (0 : Int32))] [])) (fun _ ks_ => XS.istore X0.here hx rfl (hb hby d5_53) rfl  (l' := #[.val (.ref o0), .val (.int p1), .val (.int p2), .val (.int p3), .val (.int (1 : Int32)), .val (.int (0 : Int32)), .val (.int (0 : Int32))]) rfl ks_) ?_
        refine go (u' := s₁.setTop (mkF m 57 #[.val (.ref o0), .val (.int p1), .val (.int p2), .val (.int p3), .val (.int (1 : Int32)), .val (.int (0 : Int32)), .val (.int (0 : Int32))] [(.int (1 : Int32))])) (fun _ ks_ => XS.iload X0.here hx rfl (hb hby d5_55) rfl  ks_) ?_
        refine go (u' := s₁.setTop (mkF m 65 #[.val (.ref o0), .val (.int p1), .val (.int p2), .val (.int p3), .val (.int (1 : Int32)), .val (.int (0 : Int32)), .val (.int (0 : Int32))] [])) (fun _ ks_ => XS.ifYes X0.here hx rfl (pc0 := 57) (pc' := 65) rfl (hb hby d5_57) rfl ((if0 _ _).trans (feq (show ¬ ((1 : Int32) = (0 : Int32)) from (by decide))).2) (by decide) (by decide) ks_) ?_
        refine go (u' := s₁.setTop (mkF m 66 #[.val (.ref o0), .val (.int p1), .val (.int p2), .val (.int p3), .val (.int (1 : Int32)), .val (.int (0 : Int32)), .val (.int (0 : Int32))] [(.ref o0)])) (fun _ ks_ => XS.aloadN X0.here hx rfl (hb hby d5_65) rfl rfl ks_) ?_
        refine go (u' := s₁.setTop (mkF m 67 #[.val (.ref o0), .val (.int p1), .val (.int p2), .val (.int p3), .val (.int (1 : Int32)), .val (.int (0 : Int32)), .val (.int (0 : Int32))] [(.int (0 : Int32)), (.ref o0)])) (fun _ ks_ => XS.iconst X0.here hx rfl (hb hby d5_66) ks_) ?_
        refine go (u' := s₁.setTop (mkF m 68 #[.val (.ref o0), .val (.int p1), .val (.int p2), .val (.int p3), .val (.int (1 : Int32)), .val (.int (0 : Int32)), .val (.int (0 : Int32))] [(.ref o0), (.int (0 : Int32)), (.ref o0)])) (fun _ ks_ => XS.aloadN X0.here hx rfl (hb hby d5_67) rfl rfl ks_) ?_
        refine go (u' := s₁.setTop (mkF m 69 #[.val (.ref o0), .val (.int p1), .val (.int p2), .val (.int p3), .val (.int (1 : Int32)), .val (.int (0 : Int32)), .val (.int (0 : Int32))] [(.int (0 : Int32)), (.ref o0), (.int (0 : Int32)), (.ref o0)])) (fun _ ks_ => XS.iconst X0.here hx rfl (hb hby d5_68) ks_) ?_
        refine go (u' := s₁.setTop (mkF m 70 #[.val (.ref o0), .val (.int p1), .val (.int p2), .val (.int p3), .val (.int (1 : Int32)), .val (.int (0 : Int32)), .val (.int (0 : Int32))] [(.int s0), (.int (0 : Int32)), (.ref o0)])) (own_iaload X0 hx hZ e0 F0 (j := (0 : Int32)) (v := s0) (by decide) (by decide) rfl (f := (mkF m 69 #[.val (.ref o0), .val (.int p1), .val (.int p2), .val (.int p3), .val (.int (1 : Int32)), .val (.int (0 : Int32)), .val (.int (0 : Int32))] [(.int (0 : Int32)), (.ref o0), (.int (0 : Int32)), (.ref o0)])) rfl rfl (hb hby d5_69)) ?_
        refine go (u' := s₁.setTop (mkF m 71 #[.val (.ref o0), .val (.int p1), .val (.int p2), .val (.int p3), .val (.int (1 : Int32)), .val (.int (0 : Int32)), .val (.int (0 : Int32))] [(.int (1 : Int32)), (.int s0), (.int (0 : Int32)), (.ref o0)])) (fun _ ks_ => XS.iconst X0.here hx rfl (hb hby d5_70) ks_) ?_
        refine go (u' := s₁.setTop (mkF m 72 #[.val (.ref o0), .val (.int p1), .val (.int p2), .val (.int p3), .val (.int (1 : Int32)), .val (.int (0 : Int32)), .val (.int (0 : Int32))] [(.int (s0 + (1 : Int32))), (.int (0 : Int32)), (.ref o0)])) (fun _ ks_ => XS.iadd X0.here hx rfl (hb hby d5_71) rfl ks_) ?_
        obtain ⟨T19, h19, X19, e19, W19, st19⟩ := own_iastore X0 hx hZ e0 F0 (j := (0 : Int32)) (x := (s0 + (1 : Int32)))  (by decide) (by decide) (f := (mkF m 72 #[.val (.ref o0), .val (.int p1), .val (.int p2), .val (.int p3), .val (.int (1 : Int32)), .val (.int (0 : Int32)), .val (.int (0 : Int32))] [(.int (s0 + (1 : Int32))), (.int (0 : Int32)), (.ref o0)])) rfl rfl (hb hby d5_72)
        have N19 := Fr.snoc X19 N0 g_o0
        have K19 : Keep h0 h19 [o0] := (Keep.refl h0 [o0]).wr W19 (Or.inl (List.mem_of_getElem? (i := 0) rfl))
        have Z19 : n0 ≤ h19.size := Nat.le_trans Z0 (Keep.of_wr W19).1
        have Fa20 : PI Z h19 o0 .int 3 (own_l [(s0 + (1 : Int32)), s1, s2]) := F0.setL (by decide) W19 rfl (Nat.le_of_ble_eq_true rfl) rfl
        refine go (u' := T19.setTop (mkF m 73 #[.val (.ref o0), .val (.int p1), .val (.int p2), .val (.int p3), .val (.int (1 : Int32)), .val (.int (0 : Int32)), .val (.int (0 : Int32))] [])) st19 ?_
        refine go (u' := T19.setTop (mkF m 74 #[.val (.ref o0), .val (.int p1), .val (.int p2), .val (.int p3), .val (.int (1 : Int32)), .val (.int (0 : Int32)), .val (.int (0 : Int32))] [(.ref o0)])) (fun _ ks_ => XS.aloadN X19.here hx rfl (hb hby d5_73) rfl rfl ks_) ?_
        refine go (u' := T19.setTop (mkF m 75 #[.val (.ref o0), .val (.int p1), .val (.int p2), .val (.int p3), .val (.int (1 : Int32)), .val (.int (0 : Int32)), .val (.int (0 : Int32))] [(.int (1 : Int32)), (.ref o0)])) (fun _ ks_ => XS.iconst X19.here hx rfl (hb hby d5_74) ks_) ?_
        refine go (u' := T19.setTop (mkF m 76 #[.val (.ref o0), .val (.int p1), .val (.int p2), .val (.int p3), .val (.int (1 : Int32)), .val (.int (0 : Int32)), .val (.int (0 : Int32))] [(.int (1 : Int32)), (.int (1 : Int32)), (.ref o0)])) (fun _ ks_ => XS.iconst X19.here hx rfl (hb hby d5_75) ks_) ?_
        obtain ⟨T21, h21, X21, e21, W21, st21⟩ := own_iastore X19 hx hZ e19 Fa20 (j := (1 : Int32)) (x := (1 : Int32))  (by decide) (by decide) (f := (mkF m 76 #[.val (.ref o0), .val (.int p1), .val (.int p2), .val (.int p3), .val (.int (1 : Int32)), .val (.int (0 : Int32)), .val (.int (0 : Int32))] [(.int (1 : Int32)), (.int (1 : Int32)), (.ref o0)])) rfl rfl (hb hby d5_76)
        have N21 := Fr.snoc X21 N19 g_o0
        have K21 : Keep h0 h21 [o0] := K19.wr W21 (Or.inl (List.mem_of_getElem? (i := 0) rfl))
        have Z21 : n0 ≤ h21.size := Nat.le_trans Z19 (Keep.of_wr W21).1
        have Fa22 : PI Z h21 o0 .int 3 (own_l [(s0 + (1 : Int32)), (1 : Int32), s2]) := Fa20.setL (by decide) W21 rfl (Nat.le_of_ble_eq_true rfl) rfl
        refine go (u' := T21.setTop (mkF m 77 #[.val (.ref o0), .val (.int p1), .val (.int p2), .val (.int p3), .val (.int (1 : Int32)), .val (.int (0 : Int32)), .val (.int (0 : Int32))] [])) st21 ?_
        refine go (u' := T21.setTop (mkF m 114 #[.val (.ref o0), .val (.int p1), .val (.int p2), .val (.int p3), .val (.int (1 : Int32)), .val (.int (0 : Int32)), .val (.int (0 : Int32))] [])) (fun _ ks_ => XS.goto X21.here hx rfl (pc0 := 77) (pc' := 114) rfl (hb hby d5_77) (by decide) (by decide) ks_) ?_
        refine go (u' := T21.setTop (mkF m 115 #[.val (.ref o0), .val (.int p1), .val (.int p2), .val (.int p3), .val (.int (1 : Int32)), .val (.int (0 : Int32)), .val (.int (0 : Int32))] [(.ref o0)])) (fun _ ks_ => XS.aloadN X21.here hx rfl (hb hby d5_114) rfl rfl ks_) ?_
        refine go (u' := T21.setTop (mkF m 116 #[.val (.ref o0), .val (.int p1), .val (.int p2), .val (.int p3), .val (.int (1 : Int32)), .val (.int (0 : Int32)), .val (.int (0 : Int32))] [(.int (2 : Int32)), (.ref o0)])) (fun _ ks_ => XS.iconst X21.here hx rfl (hb hby d5_115) ks_) ?_
        refine go (u' := T21.setTop (mkF m 118 #[.val (.ref o0), .val (.int p1), .val (.int p2), .val (.int p3), .val (.int (1 : Int32)), .val (.int (0 : Int32)), .val (.int (0 : Int32))] [(.int (1 : Int32)), (.int (2 : Int32)), (.ref o0)])) (fun _ ks_ => XS.iload X21.here hx rfl (hb hby d5_116) rfl  ks_) ?_
        refine go (u' := T21.setTop (mkF m 121 #[.val (.ref o0), .val (.int p1), .val (.int p2), .val (.int p3), .val (.int (1 : Int32)), .val (.int (0 : Int32)), .val (.int (0 : Int32))] [(.int (2 : Int32)), (.ref o0)])) (fun _ ks_ => XS.ifNo X21.here hx rfl (hb hby d5_118) rfl ((if0 _ _).trans (feq (show ¬ ((1 : Int32) = (0 : Int32)) from (by decide))).1) ks_) ?_
        refine go (u' := T21.setTop (mkF m 122 #[.val (.ref o0), .val (.int p1), .val (.int p2), .val (.int p3), .val (.int (1 : Int32)), .val (.int (0 : Int32)), .val (.int (0 : Int32))] [(.int (1 : Int32)), (.int (2 : Int32)), (.ref o0)])) (fun _ ks_ => XS.iconst X21.here hx rfl (hb hby d5_121) ks_) ?_
        refine go (u' := T21.setTop (mkF m 126 #[.val (.ref o0), .val (.int p1), .val (.int p2), .val (.int p3), .val (.int (1 : Int32)), .val (.int (0 : Int32)), .val (.int (0 : Int32))] [(.int (1 : Int32)), (.int (2 : Int32)), (.ref o0)])) (fun _ ks_ => XS.goto X21.here hx rfl (pc0 := 122) (pc' := 126) rfl (hb hby d5_122) (by decide) (by decide) ks_) ?_
        obtain ⟨T23, h23, X23, e23, W23, st23⟩ := own_iastore X21 hx hZ e21 Fa22 (j := (2 : Int32)) (x := (1 : Int32))  (by decide) (by decide) (f := (mkF m 126 #[.val (.ref o0), .val (.int p1), .val (.int p2), .val (.int p3), .val (.int (1 : Int32)), .val (.int (0 : Int32)), .val (.int (0 : Int32))] [(.int (1 : Int32)), (.int (2 : Int32)), (.ref o0)])) rfl rfl (hb hby d5_126)
        have N23 := Fr.snoc X23 N21 g_o0
        have K23 : Keep h0 h23 [o0] := K21.wr W23 (Or.inl (List.mem_of_getElem? (i := 0) rfl))
        have Z23 : n0 ≤ h23.size := Nat.le_trans Z21 (Keep.of_wr W23).1
        have Fa24 : PI Z h23 o0 .int 3 (own_l [(s0 + (1 : Int32)), (1 : Int32), (1 : Int32)]) := Fa22.setL (by decide) W23 rfl (Nat.le_of_ble_eq_true rfl) rfl
        refine go (u' := T23.setTop (mkF m 127 #[.val (.ref o0), .val (.int p1), .val (.int p2), .val (.int p3), .val (.int (1 : Int32)), .val (.int (0 : Int32)), .val (.int (0 : Int32))] [])) st23 ?_
        rw [hG]
        refine g0 X23 hx hlk hret (hb hby d5_127) ?_ (Nat.le_of_ble_eq_true rfl) (Nat.le_of_ble_eq_true rfl)
        show Q_rm5 Z o0 p1 p2 p3 s0 s1 s2 h0 n0 (none) T23.heap _
        rw [e23]
        exact ⟨rfl, N23, K23, (own_Lto Fa24 (congr (congrArg List.cons (show (s0 + (1 : Int32)) = (if p2 = (13 : Int32) then (s0 + (1 : Int32)) else (if p2 = (10 : Int32) then (if p1 = (0 : Int32) then (if s2 = (0 : Int32) then (s0 + (1 : Int32)) else s0) else (if p2 = (8232 : Int32) then (s0 + (1 : Int32)) else (if s2 = (0 : Int32) then (s0 + (1 : Int32)) else s0))) else (if p1 = (0 : Int32) then s0 else (if p2 = (133 : Int32) then (if p2 = (8232 : Int32) then (s0 + (1 : Int32)) else (if s2 = (0 : Int32) then (s0 + (1 : Int32)) else s0)) else (if p2 = (8232 : Int32) then (s0 + (1 : Int32)) else s0))))) from ((if_pos c3_1)).symm)) (congr (congrArg List.cons (show (1 : Int32) = (if p2 = (13 : Int32) then (1 : Int32) else (if p2 = (10 : Int32) then (if p1 = (0 : Int32) then (if s2 = (0 : Int32) then (1 : Int32) else s1) else (if p2 = (8232 : Int32) then (1 : Int32) else (if s2 = (0 : Int32) then (1 : Int32) else s1))) else (if p1 = (0 : Int32) then (s1 + p3) else (if p2 = (133 : Int32) then (if p2 = (8232 : Int32) then (1 : Int32) else (if s2 = (0 : Int32) then (1 : Int32) else s1)) else (if p2 = (8232 : Int32) then (1 : Int32) else (s1 + p3)))))) from ((if_pos c3_1)).symm)) (congr (congrArg List.cons (show (1 : Int32) = (if p2 = (13 : Int32) then (1 : Int32) else (0 : Int32)) from ((if_pos c3_1)).symm)) rfl))))⟩
      ·
        refine go (u' := s₁.setTop (mkF m 23 #[.val (.ref o0), .val (.int p1), .val (.int p2), .val (.int p3), .val (.int (1 : Int32)), .unset, .unset] [])) (fun _ ks_ => XS.ifNo X0.here hx rfl (hb hby d5_20) rfl ((if0 _ _).trans (feq c20_5).1) ks_) ?_
        refine go (u' := s₁.setTop (mkF m 24 #[.val (.ref o0), .val (.int p1), .val (.int p2), .val (.int p3), .val (.int (1 : Int32)), .unset, .unset] [(.int p2)])) (fun _ ks_ => XS.iloadN X0.here hx rfl (hb hby d5_23) rfl  ks_) ?_
        refine go (u' := s₁.setTop (mkF m 27 #[.val (.ref o0), .val (.int p1), .val (.int p2), .val (.int p3), .val (.int (1 : Int32)), .unset, .unset] [(.int (133 : Int32)), (.int p2)])) (fun _ ks_ => XS.sipush X0.here hx rfl (hb hby d5_24) ks_) ?_
        by_cases c27_6 : p2 = (133 : Int32)
        ·
          refine go (u' := s₁.setTop (mkF m 30 #[.val (.ref o0), .val (.int p1), .val (.int p2), .val (.int p3), .val (.int (1 : Int32)), .unset, .unset] [])) (fun _ ks_ => XS.icmpNo X0.here hx rfl (hb hby d5_27) rfl (teq c27_6).2 ks_) ?_
          refine go (u' := s₁.setTop (mkF m 31 #[.val (.ref o0), .val (.int p1), .val (.int p2), .val (.int p3), .val (.int (1 : Int32)), .unset, .unset] [(.int (1 : Int32))])) (fun _ ks_ => XS.iconst X0.here hx rfl (hb hby d5_30) ks_) ?_
          refine go (u' := s₁.setTop (mkF m 35 #[.val (.ref o0), .val (.int p1), .val (.int p2), .val (.int p3), .val (.int (1 : Int32)), .unset, .unset] [(.int (1 : Int32))])) (fun _ ks_ => XS.goto X0.here hx rfl (pc0 := 31) (pc' := 35) rfl (hb hby d5_31) (by decide) (by decide) ks_) ?_
          refine go (u' := s₁.setTop (mkF m 37 #[.val (.ref o0), .val (.int p1), .val (.int p2), .val (.int p3), .val (.int (1 : Int32)), .val (.int (1 : Int32)), .unset] [])) (fun _ ks_ => XS.istore X0.here hx rfl (hb hby d5_35) rfl  (l' := #[.val (.ref o0), .val (.int p1), .val (.int p2), .val (.int p3), .val (.int (1 : Int32)), .val (.int (1 : Int32)), .unset]) rfl ks_) ?_
          refine go (u' := s₁.setTop (mkF m 38 #[.val (.ref o0), .val (.int p1), .val (.int p2), .val (.int p3), .val (.int (1 : Int32)), .val (.int (1 : Int32)), .unset] [(.int p1)])) (fun _ ks_ => XS.iloadN X0.here hx rfl (hb hby d5_37) rfl  ks_) ?_
          refine go (u' := s₁.setTop (mkF m 41 #[.val (.ref o0), .val (.int p1), .val (.int p2), .val (.int p3), .val (.int (1 : Int32)), .val (.int (1 : Int32)), .unset] [])) (fun _ ks_ => XS.ifNo X0.here hx rfl (hb hby d5_38) rfl ((if0 _ _).trans (feq c20_5).1) ks_) ?_
          refine go (u' := s₁.setTop (mkF m 42 #[.val (.ref o0), .val (.int p1), .val (.int p2), .val (.int p3), .val (.int (1 : Int32)), .val (.int (1 : Int32)), .unset] [(.int p2)])) (fun _ ks_ => XS.iloadN X0.here hx rfl (hb hby d5_41) rfl  ks_) ?_
          refine go (u' := s₁.setTop (mkF m 45 #[.val (.ref o0), .val (.int p1), .val (.int p2), .val (.int p3), .val (.int (1 : Int32)), .val (.int (1 : Int32)), .unset] [(.int (8232 : Int32)), (.int p2)])) (fun _ ks_ => XS.sipush X0.here hx rfl (hb hby d5_42) ks_) ?_
          by_cases c45_7 : p2 = (8232 : Int32)
          ·
            refine go (u' := s₁.setTop (mkF m 48 #[.val (.ref o0), .val (.int p1), .val (.int p2), .val (.int p3), .val (.int (1 : Int32)), .val (.int (1 : Int32)), .unset] [])) (fun _ ks_ => XS.icmpNo X0.here hx rfl (hb hby d5_45) rfl (teq c45_7).2 ks_) ?_
            refine go (u' := s₁.setTop (mkF m 49 #[.val (.ref o0), .val (.int p1), .val (.int p2), .val (.int p3), .val (.int (1 : Int32)), .val (.int (1 : Int32)), .unset] [(.int (1 : Int32))])) (fun _ ks_ => XS.iconst X0.here hx rfl (hb hby d5_48) ks_) ?_
            refine go (u' := s₁.setTop (mkF m 53 #[.val (.ref o0), .val (.int p1), .val (.int p2), .val (.int p3), .val (.int (1 : Int32)), .val (.int (1 : Int32)), .unset] [(.int (1 : Int32))])) (fun _ ks_ => XS.goto X0.here hx rfl (pc0 := 49) (pc' := 53) rfl (hb hby d5_49) (by decide) (by decide) ks_) ?_
            refine go (u' := s₁.setTop (mkF m 55 #[.val (.ref o0), .val (.int p1), .val (.int p2), .val (.int p3), .val (.int (1 : Int32)), .val (.int (1 : Int32)), .val (.int (1 : Int32))] [])) (fun _ ks_ => XS.istore X0.here hx rfl (hb hby d5_53) rfl  (l' := #[.val (.ref o0), .val (.int p1), .val (.int p2), .val (.int p3), .val (.int (1 : Int32)), .val (.int (1 : Int32)), .val (.int (1 : Int32))]) rfl ks_) ?_
            refine go (u' := s₁.setTop (mkF m 57 #[.val (.ref o0), .val (.int p1), .val (.int p2), .val (.int p3), .val (.int (1 : Int32)), .val (.int (1 : Int32)), .val (.int (1 : Int32))] [(.int (1 : Int32))])) (fun _ ks_ => XS.iload X0.here hx rfl (hb hby d5_55) rfl  ks_) ?_
            refine go (u' := s₁.setTop (mkF m 65 #[.val (.ref o0), .val (.int p1), .val (.int p2), .val (.int p3), .val (.int (1 : Int32)), .val (.int (1 : Int32)), .val (.int (1 : Int32))] [])) (fun _ ks_ => XS.ifYes X0.here hx rfl (pc0 := 57) (pc' := 65) rfl (hb hby d5_57) rfl ((if0 _ _).trans (feq (show ¬ ((1 : Int32) = (0 : Int32)) from (by decide))).2) (by decide) (by decide) ks_) ?_
            refine go (u' := s₁.setTop (mkF m 66 #[.val (.ref o0), .val (.int p1), .val (.int p2), .val (.int p3), .val (.int (1 : Int32)), .val (.int (1 : Int32)), .val (.int (1 : Int32))] [(.ref o0)])) (fun _ ks_ => XS.aloadN X0.here hx rfl (hb hby d5_65) rfl rfl ks_) ?_
            refine go (u' := s₁.setTop (mkF m 67 #[.val (.ref o0), .val (.int p1), .val (.int p2), .val (.int p3), .val (.int (1 : Int32)), .val (.int (1 : Int32)), .val (.int (1 : Int32))] [(.int (0 : Int32)), (.ref o0)])) (fun _ ks_ => XS.iconst X0.here hx rfl (hb hby d5_66) ks_) ?_
            refine go (u' := s₁.setTop (mkF m 68 #[.val (.ref o0), .val (.int p1), .val (.int p2), .val (.int p3), .val (.int (1 : Int32)), .val (.int (1 : Int32)), .val (.int (1 : Int32))] [(.ref o0), (.int (0 : Int32)), (.ref o0)])) (fun _ ks_ => XS.aloadN X0.here hx rfl (hb hby d5_67) rfl rfl ks_) ?_
            refine go (u' := s₁.setTop (mkF m 69 #[.val (.ref o0), .val (.int p1), .val (.int p2), .val (.int p3), .val (.int (1 : Int32)), .val (.int (1 : Int32)), .val (.int (1 : Int32))] [(.int (0 : Int32)), (.ref o0), (.int (0 : Int32)), (.ref o0)])) (fun _ ks_ => XS.iconst X0.here hx rfl (hb hby d5_68) ks_) ?_
            refine go (u' := s₁.setTop (mkF m 70 #[.val (.ref o0), .val (.int p1), .val (.int p2), .val (.int p3), .val (.int (1 : Int32)), .val (.int (1 : Int32)), .val (.int (1 : Int32))] [(.int s0), (.int (0 : Int32)), (.ref o0)])) (own_iaload X0 hx hZ e0 F0 (j := (0 : Int32)) (v := s0) (by decide) (by decide) rfl (f := (mkF m 69 #[.val (.ref o0), .val (.int p1), .val (.int p2), .val (.int p3), .val (.int (1 : Int32)), .val (.int (1 : Int32)), .val (.int (1 : Int32))] [(.int (0 : Int32)), (.ref o0), (.int (0 : Int32)), (.ref o0)])) rfl rfl (hb hby d5_69)) ?_
            refine go (u' := s₁.setTop (mkF m 71 #[.val (.ref o0), .val (.int p1), .val (.int p2), .val (.int p3), .val (.int (1 : Int32)), .val (.int (1 : Int32)), .val (.int (1 : Int32))] [(.int (1 : Int32)), (.int s0), (.int (0 : Int32)), (.ref o0)])) (fun _ ks_ => XS.iconst X0.here hx rfl (hb hby d5_70) ks_) ?_
            refine go (u' := s₁.setTop (mkF m 72 #[.val (.ref o0), .val (.int p1), .val (.int p2), .val (.int p3), .val (.int (1 : Int32)), .val (.int (1 : Int32)), .val (.int (1 : Int32))] [(.int (s0 + (1 : Int32))), (.int (0 : Int32)), (.ref o0)])) (fun _ ks_ => XS.iadd X0.here hx rfl (hb hby d5_71) rfl ks_) ?_
            obtain ⟨T25, h25, X25, e25, W25, st25⟩ := own_iastore X0 hx hZ e0 F0 (j := (0 : Int32)) (x := (s0 + (1 : Int32)))  (by decide) (by decide) (f := (mkF m 72 #[.val (.ref o0), .val (.int p1), .val (.int p2), .val (.int p3), .val (.int (1 : Int32)), .val (.int (1 : Int32)), .val (.int (1 : Int32))] [(.int (s0 + (1 : Int32))), (.int (0 : Int32)), (.ref o0)])) rfl rfl (hb hby d5_72)
            have N25 := Fr.snoc X25 N0 g_o0
            have K25 : Keep h0 h25 [o0] := (Keep.refl h0 [o0]).wr W25 (Or.inl (List.mem_of_getElem? (i := 0) rfl))
            have Z25 : n0 ≤ h25.size := Nat.le_trans Z0 (Keep.of_wr W25).1
            have Fa26 : PI Z h25 o0 .int 3 (own_l [(s0 + (1 : Int32)), s1, s2]) := F0.setL (by decide) W25 rfl (Nat.le_of_ble_eq_true rfl) rfl
            refine go (u' := T25.setTop (mkF m 73 #[.val (.ref o0), .val (.int p1), .val (.int p2), .val (.int p3), .val (.int (1 : Int32)), .val (.int (1 : Int32)), .val (.int (1 : Int32))] [])) st25 ?_
            refine go (u' := T25.setTop (mkF m 74 #[.val (.ref o0), .val (.int p1), .val (.int p2), .val (.int p3), .val (.int (1 : Int32)), .val (.int (1 : Int32)), .val (.int (1 : Int32))] [(.ref o0)])) (fun _ ks_ => XS.aloadN X25.here hx rfl (hb hby d5_73) rfl rfl ks_) ?_
            refine go (u' := T25.setTop (mkF m 75 #[.val (.ref o0), .val (.int p1), .val (.int p2), .val (.int p3), .val (.int (1 : Int32)), .val (.int (1 : Int32)), .val (.int (1 : Int32))] [(.int (1 : Int32)), (.ref o0)])) (fun _ ks_ => XS.iconst X25.here hx rfl (hb hby d5_74) ks_) ?_
            refine go (u' := T25.setTop (mkF m 76 #[.val (.ref o0), .val (.int p1), .val (.int p2), .val (.int p3), .val (.int (1 : Int32)), .val (.int (1 : Int32)), .val (.int (1 : Int32))] [(.int (1 : Int32)), (.int (1 : Int32)), (.ref o0)])) (fun _ ks_ => XS.iconst X25.here hx rfl (hb hby d5_75) ks_) ?_
            obtain ⟨T27, h27, X27, e27, W27, st27⟩ := own_iastore X25 hx hZ e25 Fa26 (j := (1 : Int32)) (x := (1 : Int32))  (by decide) (by decide) (f := (mkF m 76 #[.val (.ref o0), .val (.int p1), .val (.int p2), .val (.int p3), .val (.int (1 : Int32)), .val (.int (1 : Int32)), .val (.int (1 : Int32))] [(.int (1 : Int32)), (.int (1 : Int32)), (.ref o0)])) rfl rfl (hb hby d5_76)
            have N27 := Fr.snoc X27 N25 g_o0
            have K27 : Keep h0 h27 [o0] := K25.wr W27 (Or.inl (List.mem_of_getElem? (i := 0) rfl))
            have Z27 : n0 ≤ h27.size := Nat.le_trans Z25 (Keep.of_wr W27).1
            have Fa28 : PI Z h27 o0 .int 3 (own_l [(s0 + (1 : Int32)), (1 : Int32), s2]) := Fa26.setL (by decide) W27 rfl (Nat.le_of_ble_eq_true rfl) rfl
            refine go (u' := T27.setTop (mkF m 77 #[.val (.ref o0), .val (.int p1), .val (.int p2), .val (.int p3), .val (.int (1 : Int32)), .val (.int (1 : Int32)), .val (.int (1 : Int32))] [])) st27 ?_
            refine go (u' := T27.setTop (mkF m 114 #[.val (.ref o0), .val (.int p1), .val (.int p2), .val (.int p3), .val (.int (1 : Int32)), .val (.int (1 : Int32)), .val (.int (1 : Int32))] [])) (fun _ ks_ => XS.goto X27.here hx rfl (pc0 := 77) (pc' := 114) rfl (hb hby d5_77) (by decide) (by decide) ks_) ?_
            refine go (u' := T27.setTop (mkF m 115 #[.val (.ref o0), .val (.int p1), .val (.int p2), .val (.int p3), .val (.int (1 : Int32)), .val (.int (1 : Int32)), .val (.int (1 : Int32))] [(.ref o0)])) (fun _ ks_ => XS.aloadN X27.here hx rfl (hb hby d5_114) rfl rfl ks_) ?_
            refine go (u' := T27.setTop (mkF m 116 #[.val (.ref o0), .val (.int p1), .val (.int p2), .val (.int p3), .val (.int (1 : Int32)), .val (.int (1 : Int32)), .val (.int (1 : Int32))] [(.int (2 : Int32)), (.ref o0)])) (fun _ ks_ => XS.iconst X27.here hx rfl (hb hby d5_115) ks_) ?_
            refine go (u' := T27.setTop (mkF m 118 #[.val (.ref o0), .val (.int p1), .val (.int p2), .val (.int p3), .val (.int (1 : Int32)), .val (.int (1 : Int32)), .val (.int (1 : Int32))] [(.int (1 : Int32)), (.int (2 : Int32)), (.ref o0)])) (fun _ ks_ => XS.iload X27.here hx rfl (hb hby d5_116) rfl  ks_) ?_
            refine go (u' := T27.setTop (mkF m 121 #[.val (.ref o0), .val (.int p1), .val (.int p2), .val (.int p3), .val (.int (1 : Int32)), .val (.int (1 : Int32)), .val (.int (1 : Int32))] [(.int (2 : Int32)), (.ref o0)])) (fun _ ks_ => XS.ifNo X27.here hx rfl (hb hby d5_118) rfl ((if0 _ _).trans (feq (show ¬ ((1 : Int32) = (0 : Int32)) from (by decide))).1) ks_) ?_
            refine go (u' := T27.setTop (mkF m 122 #[.val (.ref o0), .val (.int p1), .val (.int p2), .val (.int p3), .val (.int (1 : Int32)), .val (.int (1 : Int32)), .val (.int (1 : Int32))] [(.int (1 : Int32)), (.int (2 : Int32)), (.ref o0)])) (fun _ ks_ => XS.iconst X27.here hx rfl (hb hby d5_121) ks_) ?_
            refine go (u' := T27.setTop (mkF m 126 #[.val (.ref o0), .val (.int p1), .val (.int p2), .val (.int p3), .val (.int (1 : Int32)), .val (.int (1 : Int32)), .val (.int (1 : Int32))] [(.int (1 : Int32)), (.int (2 : Int32)), (.ref o0)])) (fun _ ks_ => XS.goto X27.here hx rfl (pc0 := 122) (pc' := 126) rfl (hb hby d5_122) (by decide) (by decide) ks_) ?_
            obtain ⟨T29, h29, X29, e29, W29, st29⟩ := own_iastore X27 hx hZ e27 Fa28 (j := (2 : Int32)) (x := (1 : Int32))  (by decide) (by decide) (f := (mkF m 126 #[.val (.ref o0), .val (.int p1), .val (.int p2), .val (.int p3), .val (.int (1 : Int32)), .val (.int (1 : Int32)), .val (.int (1 : Int32))] [(.int (1 : Int32)), (.int (2 : Int32)), (.ref o0)])) rfl rfl (hb hby d5_126)
            have N29 := Fr.snoc X29 N27 g_o0
            have K29 : Keep h0 h29 [o0] := K27.wr W29 (Or.inl (List.mem_of_getElem? (i := 0) rfl))
            have Z29 : n0 ≤ h29.size := Nat.le_trans Z27 (Keep.of_wr W29).1
            have Fa30 : PI Z h29 o0 .int 3 (own_l [(s0 + (1 : Int32)), (1 : Int32), (1 : Int32)]) := Fa28.setL (by decide) W29 rfl (Nat.le_of_ble_eq_true rfl) rfl
            refine go (u' := T29.setTop (mkF m 127 #[.val (.ref o0), .val (.int p1), .val (.int p2), .val (.int p3), .val (.int (1 : Int32)), .val (.int (1 : Int32)), .val (.int (1 : Int32))] [])) st29 ?_
            rw [hG]
            refine g0 X29 hx hlk hret (hb hby d5_127) ?_ (Nat.le_of_ble_eq_true rfl) (Nat.le_of_ble_eq_true rfl)
            show Q_rm5 Z o0 p1 p2 p3 s0 s1 s2 h0 n0 (none) T29.heap _
            rw [e29]
            exact ⟨rfl, N29, K29, (own_Lto Fa30 (congr (congrArg List.cons (show (s0 + (1 : Int32)) = (if p2 = (13 : Int32) then (s0 + (1 : Int32)) else (if p2 = (10 : Int32) then (if p1 = (0 : Int32) then (if s2 = (0 : Int32) then (s0 + (1 : Int32)) else s0) else (if p2 = (8232 : Int32) then (s0 + (1 : Int32)) else (if s2 = (0 : Int32) then (s0 + (1 : Int32)) else s0))) else (if p1 = (0 : Int32) then s0 else (if p2 = (133 : Int32) then (if p2 = (8232 : Int32) then (s0 + (1 : Int32)) else (if s2 = (0 : Int32) then (s0 + (1 : Int32)) else s0)) else (if p2 = (8232 : Int32) then (s0 + (1 : Int32)) else s0))))) from ((if_pos c3_1)).symm)) (congr (congrArg List.cons (show (1 : Int32) = (if p2 = (13 : Int32) then (1 : Int32) else (if p2 = (10 : Int32) then (if p1 = (0 : Int32) then (if s2 = (0 : Int32) then (1 : Int32) else s1) else (if p2 = (8232 : Int32) then (1 : Int32) else (if s2 = (0 : Int32) then (1 : Int32) else s1))) else (if p1 = (0 : Int32) then (s1 + p3) else (if p2 = (133 : Int32) then (if p2 = (8232 : Int32) then (1 : Int32) else (if s2 = (0 : Int32) then (1 : Int32) else s1)) else (if p2 = (8232 : Int32) then (1 : Int32) else (s1 + p3)))))) from ((if_pos c3_1)).symm)) (congr (congrArg List.cons (show (1 : Int32) = (if p2 = (13 : Int32) then (1 : Int32) else (0 : Int32)) from ((if_pos c3_1)).symm)) rfl))))⟩
          ·
            refine go (u' := s₁.setTop (mkF m 52 #[.val (.ref o0), .val (.int p1), .val (.int p2), .val (.int p3), .val (.int (1 : Int32)), .val (.int (1 : Int32)), .unset] [])) (fun _ ks_ => XS.icmpYes X0.here hx rfl (pc0 := 45) (pc' := 52) rfl (hb hby d5_45) rfl (feq c45_7).2 (by decide) (by decide) ks_) ?_
            refine go (u' := s₁.setTop (mkF m 53 #[.val (.ref o0), .val (.int p1), .val (.int p2), .val (.int p3), .val (.int (1 : Int32)), .val (.int (1 : Int32)), .unset] [(.int (0 : Int32))])) (fun _ ks_ => XS.iconst X0.here hx rfl (hb hby d5_52) ks_) ?_
            refine go (u' := s₁.setTop (mkF m 55 #[.val (.ref o0), .val (.int p1), .val (.int p2), .val (.int p3), .val (.int (1 : Int32)), .val (.int (1 : Int32)), .val (.int (0 : Int32))] [])) (fun _ ks_ => XS.istore X0.here hx rfl (hb hby d5_53) rfl  (l' := #[.val (.ref o0), .val (.int p1), .val (.int p2), .val (.int p3), .val (.int (1 : Int32)), .val (.int (1 : Int32)), .val (.int (0 : Int32))]) rfl ks_) ?_
            refine go (u' := s₁.setTop (mkF m 57 #[.val (.ref o0), .val (.int p1), .val (.int p2), .val (.int p3), .val (.int (1 : Int32)), .val (.int (1 : Int32)), .val (.int (0 : Int32))] [(.int (1 : Int32))])) (fun _ ks_ => XS.iload X0.here hx rfl (hb hby d5_55) rfl  ks_) ?_
            refine go (u' := s₁.setTop (mkF m 65 #[.val (.ref o0), .val (.int p1), .val (.int p2), .val (.int p3), .val (.int (1 : Int32)), .val (.int (1 : Int32)), .val (.int (0 : Int32))] [])) (fun _ ks_ => XS.ifYes X0.here hx rfl (pc0 := 57) (pc' := 65) rfl (hb hby d5_57) rfl ((if0 _ _).trans (feq (show ¬ ((1 : Int32) = (0 : Int32)) from (by decide))).2) (by decide) (by decide) ks_) ?_
            refine go (u' := s₁.setTop (mkF m 66 #[.val (.ref o0), .val (.int p1), .val (.int p2), .val (.int p3), .val (.int (1 : Int32)), .val (.int (1 : Int32)), .val (.int (0 : Int32))] [(.ref o0)])) (fun _ ks_ => XS.aloadN X0.here hx rfl (hb hby d5_65) rfl rfl ks_) ?_
            refine go (u' := s₁.setTop (mkF m 67 #[.val (.ref o0), .val (.int p1), .val (.int p2), .val (.int p3), .val (.int (1 : Int32)), .val (.int (1 : Int32)), .val (.int (0 : Int32))] [(.int (0 : Int32)), (.ref o0)])) (fun _ ks_ => XS.iconst X0.here hx rfl (hb hby d5_66) ks_) ?_
            refine go (u' := s₁.setTop (mkF m 68 #[.val (.ref o0), .val (.int p1), .val (.int p2), .val (.int p3), .val (.int (1 : Int32)), .val (.int (1 : Int32)), .val (.int (0 : Int32))] [(.ref o0), (.int (0 : Int32)), (.ref o0)])) (fun _ ks_ => XS.aloadN X0.here hx rfl (hb hby d5_67) rfl rfl ks_) ?_
            refine go (u' := s₁.setTop (mkF m 69 #[.val (.ref o0), .val (.int p1), .val (.int p2), .val (.int p3), .val (.int (1 : Int32)), .val (.int (1 : Int32)), .val (.int (0 : Int32))] [(.int (0 : Int32)), (.ref o0), (.int (0 : Int32)), (.ref o0)])) (fun _ ks_ => XS.iconst X0.here hx rfl (hb hby d5_68) ks_) ?_
            refine go (u' := s₁.setTop (mkF m 70 #[.val (.ref o0), .val (.int p1), .val (.int p2), .val (.int p3), .val (.int (1 : Int32)), .val (.int (1 : Int32)), .val (.int (0 : Int32))] [(.int s0), (.int (0 : Int32)), (.ref o0)])) (own_iaload X0 hx hZ e0 F0 (j := (0 : Int32)) (v := s0) (by decide) (by decide) rfl (f := (mkF m 69 #[.val (.ref o0), .val (.int p1), .val (.int p2), .val (.int p3), .val (.int (1 : Int32)), .val (.int (1 : Int32)), .val (.int (0 : Int32))] [(.int (0 : Int32)), (.ref o0), (.int (0 : Int32)), (.ref o0)])) rfl rfl (hb hby d5_69)) ?_
            refine go (u' := s₁.setTop (mkF m 71 #[.val (.ref o0), .val (.int p1), .val (.int p2), .val (.int p3), .val (.int (1 : Int32)), .val (.int (1 : Int32)), .val (.int (0 : Int32))] [(.int (1 : Int32)), (.int s0), (.int (0 : Int32)), (.ref o0)])) (fun _ ks_ => XS.iconst X0.here hx rfl (hb hby d5_70) ks_) ?_
            refine go (u' := s₁.setTop (mkF m 72 #[.val (.ref o0), .val (.int p1), .val (.int p2), .val (.int p3), .val (.int (1 : Int32)), .val (.int (1 : Int32)), .val (.int (0 : Int32))] [(.int (s0 + (1 : Int32))), (.int (0 : Int32)), (.ref o0)])) (fun _ ks_ => XS.iadd X0.here hx rfl (hb hby d5_71) rfl ks_) ?_
            obtain ⟨T31, h31, X31, e31, W31, st31⟩ := own_iastore X0 hx hZ e0 F0 (j := (0 : Int32)) (x := (s0 + (1 : Int32)))  (by decide) (by decide) (f := (mkF m 72 #[.val (.ref o0), .val (.int p1), .val (.int p2), .val (.int p3), .val (.int (1 : Int32)), .val (.int (1 : Int32)), .val (.int (0 : Int32))] [(.int (s0 + (1 : Int32))), (.int (0 : Int32)), (.ref o0)])) rfl rfl (hb hby d5_72)
            have N31 := Fr.snoc X31 N0 g_o0
            have K31 : Keep h0 h31 [o0] := (Keep.refl h0 [o0]).wr W31 (Or.inl (List.mem_of_getElem? (i := 0) rfl))
            have Z31 : n0 ≤ h31.size := Nat.le_trans Z0 (Keep.of_wr W31).1
            have Fa32 : PI Z h31 o0 .int 3 (own_l [(s0 + (1 : Int32)), s1, s2]) := F0.setL (by decide) W31 rfl (Nat.le_of_ble_eq_true rfl) rfl
            refine go (u' := T31.setTop (mkF m 73 #[.val (.ref o0), .val (.int p1), .val (.int p2), .val (.int p3), .val (.int (1 : Int32)), .val (.int (1 : Int32)), .val (.int (0 : Int32))] [])) st31 ?_
            refine go (u' := T31.setTop (mkF m 74 #[.val (.ref o0), .val (.int p1), .val (.int p2), .val (.int p3), .val (.int (1 : Int32)), .val (.int (1 : Int32)), .val (.int (0 : Int32))] [(.ref o0)])) (fun _ ks_ => XS.aloadN X31.here hx rfl (hb hby d5_73) rfl rfl ks_) ?_
            refine go (u' := T31.setTop (mkF m 75 #[.val (.ref o0), .val (.int p1), .val (.int p2), .val (.int p3), .val (.int (1 : Int32)), .val (.int (1 : Int32)), .val (.int (0 : Int32))] [(.int (1 : Int32)), (.ref o0)])) (fun _ ks_ => XS.iconst X31.here hx rfl (hb hby d5_74) ks_) ?_
            refine go (u' := T31.setTop (mkF m 76 #[.val (.ref o0), .val (.int p1), .val (.int p2), .val (.int p3), .val (.int (1 : Int32)), .val (.int (1 : Int32)), .val (.int (0 : Int32))] [(.int (1 : Int32)), (.int (1 : Int32)), (.ref o0)])) (fun _ ks_ => XS.iconst X31.here hx rfl (hb hby d5_75) ks_) ?_
            obtain ⟨T33, h33, X33, e33, W33, st33⟩ := own_iastore X31 hx hZ e31 Fa32 (j := (1 : Int32)) (x := (1 : Int32))  (by decide) (by decide) (f := (mkF m 76 #[.val (.ref o0), .val (.int p1), .val (.int p2), .val (.int p3), .val (.int (1 : Int32)), .val (.int (1 : Int32)), .val (.int (0 : Int32))] [(.int (1 : Int32)), (.int (1 : Int32)), (.ref o0)])) rfl rfl (hb hby d5_76)
            have N33 := Fr.snoc X33 N31 g_o0
            have K33 : Keep h0 h33 [o0] := K31.wr W33 (Or.inl (List.mem_of_getElem? (i := 0) rfl))
            have Z33 : n0 ≤ h33.size := Nat.le_trans Z31 (Keep.of_wr W33).1
            have Fa34 : PI Z h33 o0 .int 3 (own_l [(s0 + (1 : Int32)), (1 : Int32), s2]) := Fa32.setL (by decide) W33 rfl (Nat.le_of_ble_eq_true rfl) rfl
            refine go (u' := T33.setTop (mkF m 77 #[.val (.ref o0), .val (.int p1), .val (.int p2), .val (.int p3), .val (.int (1 : Int32)), .val (.int (1 : Int32)), .val (.int (0 : Int32))] [])) st33 ?_
            refine go (u' := T33.setTop (mkF m 114 #[.val (.ref o0), .val (.int p1), .val (.int p2), .val (.int p3), .val (.int (1 : Int32)), .val (.int (1 : Int32)), .val (.int (0 : Int32))] [])) (fun _ ks_ => XS.goto X33.here hx rfl (pc0 := 77) (pc' := 114) rfl (hb hby d5_77) (by decide) (by decide) ks_) ?_
            refine go (u' := T33.setTop (mkF m 115 #[.val (.ref o0), .val (.int p1), .val (.int p2), .val (.int p3), .val (.int (1 : Int32)), .val (.int (1 : Int32)), .val (.int (0 : Int32))] [(.ref o0)])) (fun _ ks_ => XS.aloadN X33.here hx rfl (hb hby d5_114) rfl rfl ks_) ?_
            refine go (u' := T33.setTop (mkF m 116 #[.val (.ref o0), .val (.int p1), .val (.int p2), .val (.int p3), .val (.int (1 : Int32)), .val (.int (1 : Int32)), .val (.int (0 : Int32))] [(.int (2 : Int32)), (.ref o0)])) (fun _ ks_ => XS.iconst X33.here hx rfl (hb hby d5_115) ks_) ?_
            refine go (u' := T33.setTop (mkF m 118 #[.val (.ref o0), .val (.int p1), .val (.int p2), .val (.int p3), .val (.int (1 : Int32)), .val (.int (1 : Int32)), .val (.int (0 : Int32))] [(.int (1 : Int32)), (.int (2 : Int32)), (.ref o0)])) (fun _ ks_ => XS.iload X33.here hx rfl (hb hby d5_116) rfl  ks_) ?_
            refine go (u' := T33.setTop (mkF m 121 #[.val (.ref o0), .val (.int p1), .val (.int p2), .val (.int p3), .val (.int (1 : Int32)), .val (.int (1 : Int32)), .val (.int (0 : Int32))] [(.int (2 : Int32)), (.ref o0)])) (fun _ ks_ => XS.ifNo X33.here hx rfl (hb hby d5_118) rfl ((if0 _ _).trans (feq (show ¬ ((1 : Int32) = (0 : Int32)) from (by decide))).1) ks_) ?_
            refine go (u' := T33.setTop (mkF m 122 #[.val (.ref o0), .val (.int p1), .val (.int p2), .val (.int p3), .val (.int (1 : Int32)), .val (.int (1 : Int32)), .val (.int (0 : Int32))] [(.int (1 : Int32)), (.int (2 : Int32)), (.ref o0)])) (fun _ ks_ => XS.iconst X33.here hx rfl (hb hby d5_121) ks_) ?_
            refine go (u' := T33.setTop (mkF m 126 #[.val (.ref o0), .val (.int p1), .val (.int p2), .val (.int p3), .val (.int (1 : Int32)), .val (.int (1 : Int32)), .val (.int (0 : Int32))] [(.int (1 : Int32)), (.int (2 : Int32)), (.ref o0)])) (fun _ ks_ => XS.goto X33.here hx rfl (pc0 := 122) (pc' := 126) rfl (hb hby d5_122) (by decide) (by decide) ks_) ?_
            obtain ⟨T35, h35, X35, e35, W35, st35⟩ := own_iastore X33 hx hZ e33 Fa34 (j := (2 : Int32)) (x := (1 : Int32))  (by decide) (by decide) (f := (mkF m 126 #[.val (.ref o0), .val (.int p1), .val (.int p2), .val (.int p3), .val (.int (1 : Int32)), .val (.int (1 : Int32)), .val (.int (0 : Int32))] [(.int (1 : Int32)), (.int (2 : Int32)), (.ref o0)])) rfl rfl (hb hby d5_126)
            have N35 := Fr.snoc X35 N33 g_o0
            have K35 : Keep h0 h35 [o0] := K33.wr W35 (Or.inl (List.mem_of_getElem? (i := 0) rfl))
            have Z35 : n0 ≤ h35.size := Nat.le_trans Z33 (Keep.of_wr W35).1
            have Fa36 : PI Z h35 o0 .int 3 (own_l [(s0 + (1 : Int32)), (1 : Int32), (1 : Int32)]) := Fa34.setL (by decide) W35 rfl (Nat.le_of_ble_eq_true rfl) rfl
            refine go (u' := T35.setTop (mkF m 127 #[.val (.ref o0), .val (.int p1), .val (.int p2), .val (.int p3), .val (.int (1 : Int32)), .val (.int (1 : Int32)), .val (.int (0 : Int32))] [])) st35 ?_
            rw [hG]
            refine g0 X35 hx hlk hret (hb hby d5_127) ?_ (Nat.le_of_ble_eq_true rfl) (Nat.le_of_ble_eq_true rfl)
            show Q_rm5 Z o0 p1 p2 p3 s0 s1 s2 h0 n0 (none) T35.heap _
            rw [e35]
            exact ⟨rfl, N35, K35, (own_Lto Fa36 (congr (congrArg List.cons (show (s0 + (1 : Int32)) = (if p2 = (13 : Int32) then (s0 + (1 : Int32)) else (if p2 = (10 : Int32) then (if p1 = (0 : Int32) then (if s2 = (0 : Int32) then (s0 + (1 : Int32)) else s0) else (if p2 = (8232 : Int32) then (s0 + (1 : Int32)) else (if s2 = (0 : Int32) then (s0 + (1 : Int32)) else s0))) else (if p1 = (0 : Int32) then s0 else (if p2 = (133 : Int32) then (if p2 = (8232 : Int32) then (s0 + (1 : Int32)) else (if s2 = (0 : Int32) then (s0 + (1 : Int32)) else s0)) else (if p2 = (8232 : Int32) then (s0 + (1 : Int32)) else s0))))) from ((if_pos c3_1)).symm)) (congr (congrArg List.cons (show (1 : Int32) = (if p2 = (13 : Int32) then (1 : Int32) else (if p2 = (10 : Int32) then (if p1 = (0 : Int32) then (if s2 = (0 : Int32) then (1 : Int32) else s1) else (if p2 = (8232 : Int32) then (1 : Int32) else (if s2 = (0 : Int32) then (1 : Int32) else s1))) else (if p1 = (0 : Int32) then (s1 + p3) else (if p2 = (133 : Int32) then (if p2 = (8232 : Int32) then (1 : Int32) else (if s2 = (0 : Int32) then (1 : Int32) else s1)) else (if p2 = (8232 : Int32) then (1 : Int32) else (s1 + p3)))))) from ((if_pos c3_1)).symm)) (congr (congrArg List.cons (show (1 : Int32) = (if p2 = (13 : Int32) then (1 : Int32) else (0 : Int32)) from ((if_pos c3_1)).symm)) rfl))))⟩
        ·
          refine go (u' := s₁.setTop (mkF m 34 #[.val (.ref o0), .val (.int p1), .val (.int p2), .val (.int p3), .val (.int (1 : Int32)), .unset, .unset] [])) (fun _ ks_ => XS.icmpYes X0.here hx rfl (pc0 := 27) (pc' := 34) rfl (hb hby d5_27) rfl (feq c27_6).2 (by decide) (by decide) ks_) ?_
          refine go (u' := s₁.setTop (mkF m 35 #[.val (.ref o0), .val (.int p1), .val (.int p2), .val (.int p3), .val (.int (1 : Int32)), .unset, .unset] [(.int (0 : Int32))])) (fun _ ks_ => XS.iconst X0.here hx rfl (hb hby d5_34) ks_) ?_
          refine go (u' := s₁.setTop (mkF m 37 #[.val (.ref o0), .val (.int p1), .val (.int p2), .val (.int p3), .val (.int (1 : Int32)), .val (.int (0 : Int32)), .unset] [])) (fun _ ks_ => XS.istore X0.here hx rfl (hb hby d5_35) rfl  (l' := #[.val (.ref o0), .val (.int p1), .val (.int p2), .val (.int p3), .val (.int (1 : Int32)), .val (.int (0 : Int32)), .unset]) rfl ks_) ?_
          refine go (u' := s₁.setTop (mkF m 38 #[.val (.ref o0), .val (.int p1), .val (.int p2), .val (.int p3), .val (.int (1 : Int32)), .val (.int (0 : Int32)), .unset] [(.int p1)])) (fun _ ks_ => XS.iloadN X0.here hx rfl (hb hby d5_37) rfl  ks_) ?_
          refine go (u' := s₁.setTop (mkF m 41 #[.val (.ref o0), .val (.int p1), .val (.int p2), .val (.int p3), .val (.int (1 : Int32)), .val (.int (0 : Int32)), .unset] [])) (fun _ ks_ => XS.ifNo X0.here hx rfl (hb hby d5_38) rfl ((if0 _ _).trans (feq c20_5).1) ks_) ?_
          refine go (u' := s₁.setTop (mkF m 42 #[.val (.ref o0), .val (.int p1), .val (.int p2), .val (.int p3), .val (.int (1 : Int32)), .val (.int (0 : Int32)), .unset] [(.int p2)])) (fun _ ks_ => XS.iloadN X0.here hx rfl (hb hby d5_41) rfl  ks_) ?_
          refine go (u' := s₁.setTop (mkF m 45 #[.val (.ref o0), .val (.int p1), .val (.int p2), .val (.int p3), .val (.int (1 : Int32)), .val (.int (0 : Int32)), .unset] [(.int (8232 : Int32)), (.int p2)])) (fun _ ks_ => XS.sipush X0.here hx rfl (hb hby d5_42) ks_) ?_
          by_cases c45_8 : p2 = (8232 : Int32)
          ·
            refine go (u' := s₁.setTop (mkF m 48 #[.val (.ref o0), .val (.int p1), .val (.int p2), .val (.int p3), .val (.int (1 : Int32)), .val (.int (0 : Int32)), .unset] [])) (fun _ ks_ => XS.icmpNo X0.here hx rfl (hb hby d5_45) rfl (teq c45_8).2 ks_) ?_
            refine go (u' := s₁.setTop (mkF m 49 #[.val (.ref o0), .val (.int p1), .val (.int p2), .val (.int p3), .val (.int (1 : Int32)), .val (.int (0 : Int32)), .unset] [(.int (1 : Int32))])) (fun _ ks_ => XS.iconst X0.here hx rfl (hb hby d5_48) ks_) ?_
            refine go (u' := s₁.setTop (mkF m 53 #[.val (.ref o0), .val (.int p1), .val (.int p2), .val (.int p3), .val (.int (1 : Int32)), .val (.int (0 : Int32)), .unset] [(.int (1 : Int32))])) (fun _ ks_ => XS.goto X0.here hx rfl (pc0 := 49) (pc' := 53) rfl (hb hby d5_49) (by decide) (by decide) ks_) ?_
            refine go (u' := s₁.setTop (mkF m 55 #[.val (.ref o0), .val (.int p1), .val (.int p2), .val (.int p3), .val (.int (1 : Int32)), .val (.int (0 : Int32)), .val (.int (1 : Int32))] [])) (fun _ ks_ => XS.istore X0.here hx rfl (hb hby d5_53) rfl  (l' := #[.val (.ref o0), .val (.int p1), .val (.int p2), .val (.int p3), .val (.int (1 : Int32)), .val (.int (0 : Int32)), .val (.int (1 : Int32))]) rfl ks_) ?_
            refine go (u' := s₁.setTop (mkF m 57 #[.val (.ref o0), .val (.int p1), .val (.int p2), .val (.int p3), .val (.int (1 : Int32)), .val (.int (0 : Int32)), .val (.int (1 : Int32))] [(.int (1 : Int32))])) (fun _ ks_ => XS.iload X0.here hx rfl (hb hby d5_55) rfl  ks_) ?_
            refine go (u' := s₁.setTop (mkF m 65 #[.val (.ref o0), .val (.int p1), .val (.int p2), .val (.int p3), .val (.int (1 : Int32)), .val (.int (0 : Int32)), .val (.int (1 : Int32))] [])) (fun _ ks_ => XS.ifYes X0.here hx rfl (pc0 := 57) (pc' := 65) rfl (hb hby d5_57) rfl ((if0 _ _).trans (feq (show ¬ ((1 : Int32) = (0 : Int32)) from (by decide))).2) (by decide) (by decide) ks_) ?_
            refine go (u' := s₁.setTop (mkF m 66 #[.val (.ref o0), .val (.int p1), .val (.int p2), .val (.int p3), .val (.int (1 : Int32)), .val (.int (0 : Int32)), .val (.int (1 : Int32))] [(.ref o0)])) (fun _ ks_ => XS.aloadN X0.here hx rfl (hb hby d5_65) rfl rfl ks_) ?_
            refine go (u' := s₁.setTop (mkF m 67 #[.val (.ref o0), .val (.int p1), .val (.int p2), .val (.int p3), .val (.int (1 : Int32)), .val (.int (0 : Int32)), .val (.int (1 : Int32))] [(.int (0 : Int32)), (.ref o0)])) (fun _ ks_ => XS.iconst X0.here hx rfl (hb hby d5_66) ks_) ?_
            refine go (u' := s₁.setTop (mkF m 68 #[.val (.ref o0), .val (.int p1), .val (.int p2), .val (.int p3), .val (.int (1 : Int32)), .val (.int (0 : Int32)), .val (.int (1 : Int32))] [(.ref o0), (.int (0 : Int32)), (.ref o0)])) (fun _ ks_ => XS.aloadN X0.here hx rfl (hb hby d5_67) rfl rfl ks_) ?_
            refine go (u' := s₁.setTop (mkF m 69 #[.val (.ref o0), .val (.int p1), .val (.int p2), .val (.int p3), .val (.int (1 : Int32)), .val (.int (0 : Int32)), .val (.int (1 : Int32))] [(.int (0 : Int32)), (.ref o0), (.int (0 : Int32)), (.ref o0)])) (fun _ ks_ => XS.iconst X0.here hx rfl (hb hby d5_68) ks_) ?_
            refine go (u' := s₁.setTop (mkF m 70 #[.val (.ref o0), .val (.int p1), .val (.int p2), .val (.int p3), .val (.int (1 : Int32)), .val (.int (0 : Int32)), .val (.int (1 : Int32))] [(.int s0), (.int (0 : Int32)), (.ref o0)])) (own_iaload X0 hx hZ e0 F0 (j := (0 : Int32)) (v := s0) (by decide) (by decide) rfl (f := (mkF m 69 #[.val (.ref o0), .val (.int p1), .val (.int p2), .val (.int p3), .val (.int (1 : Int32)), .val (.int (0 : Int32)), .val (.int (1 : Int32))] [(.int (0 : Int32)), (.ref o0), (.int (0 : Int32)), (.ref o0)])) rfl rfl (hb hby d5_69)) ?_
            refine go (u' := s₁.setTop (mkF m 71 #[.val (.ref o0), .val (.int p1), .val (.int p2), .val (.int p3), .val (.int (1 : Int32)), .val (.int (0 : Int32)), .val (.int (1 : Int32))] [(.int (1 : Int32)), (.int s0), (.int (0 : Int32)), (.ref o0)])) (fun _ ks_ => XS.iconst X0.here hx rfl (hb hby d5_70) ks_) ?_
            refine go (u' := s₁.setTop (mkF m 72 #[.val (.ref o0), .val (.int p1), .val (.int p2), .val (.int p3), .val (.int (1 : Int32)), .val (.int (0 : Int32)), .val (.int (1 : Int32))] [(.int (s0 + (1 : Int32))), (.int (0 : Int32)), (.ref o0)])) (fun _ ks_ => XS.iadd X0.here hx rfl (hb hby d5_71) rfl ks_) ?_
            obtain ⟨T37, h37, X37, e37, W37, st37⟩ := own_iastore X0 hx hZ e0 F0 (j := (0 : Int32)) (x := (s0 + (1 : Int32)))  (by decide) (by decide) (f := (mkF m 72 #[.val (.ref o0), .val (.int p1), .val (.int p2), .val (.int p3), .val (.int (1 : Int32)), .val (.int (0 : Int32)), .val (.int (1 : Int32))] [(.int (s0 + (1 : Int32))), (.int (0 : Int32)), (.ref o0)])) rfl rfl (hb hby d5_72)
            have N37 := Fr.snoc X37 N0 g_o0
            have K37 : Keep h0 h37 [o0] := (Keep.refl h0 [o0]).wr W37 (Or.inl (List.mem_of_getElem? (i := 0) rfl))
            have Z37 : n0 ≤ h37.size := Nat.le_trans Z0 (Keep.of_wr W37).1
            have Fa38 : PI Z h37 o0 .int 3 (own_l [(s0 + (1 : Int32)), s1, s2]) := F0.setL (by decide) W37 rfl (Nat.le_of_ble_eq_true rfl) rfl
            refine go (u' := T37.setTop (mkF m 73 #[.val (.ref o0), .val (.int p1), .val (.int p2), .val (.int p3), .val (.int (1 : Int32)), .val (.int (0 : Int32)), .val (.int (1 : Int32))] [])) st37 ?_
            refine go (u' := T37.setTop (mkF m 74 #[.val (.ref o0), .val (.int p1), .val (.int p2), .val (.int p3), .val (.int (1 : Int32)), .val (.int (0 : Int32)), .val (.int (1 : Int32))] [(.ref o0)])) (fun _ ks_ => XS.aloadN X37.here hx rfl (hb hby d5_73) rfl rfl ks_) ?_
            refine go (u' := T37.setTop (mkF m 75 #[.val (.ref o0), .val (.int p1), .val (.int p2), .val (.int p3), .val (.int (1 : Int32)), .val (.int (0 : Int32)), .val (.int (1 : Int32))] [(.int (1 : Int32)), (.ref o0)])) (fun _ ks_ => XS.iconst X37.here hx rfl (hb hby d5_74) ks_) ?_
            refine go (u' := T37.setTop (mkF m 76 #[.val (.ref o0), .val (.int p1), .val (.int p2), .val (.int p3), .val (.int (1 : Int32)), .val (.int (0 : Int32)), .val (.int (1 : Int32))] [(.int (1 : Int32)), (.int (1 : Int32)), (.ref o0)])) (fun _ ks_ => XS.iconst X37.here hx rfl (hb hby d5_75) ks_) ?_
            obtain ⟨T39, h39, X39, e39, W39, st39⟩ := own_iastore X37 hx hZ e37 Fa38 (j := (1 : Int32)) (x := (1 : Int32))  (by decide) (by decide) (f := (mkF m 76 #[.val (.ref o0), .val (.int p1), .val (.int p2), .val (.int p3), .val (.int (1 : Int32)), .val (.int (0 : Int32)), .val (.int (1 : Int32))] [(.int (1 : Int32)), (.int (1 : Int32)), (.ref o0)])) rfl rfl (hb hby d5_76)
            have N39 := Fr.snoc X39 N37 g_o0
            have K39 : Keep h0 h39 [o0] := K37.wr W39 (Or.inl (List.mem_of_getElem? (i := 0) rfl))
            have Z39 : n0 ≤ h39.size := Nat.le_trans Z37 (Keep.of_wr W39).1
            have Fa40 : PI Z h39 o0 .int 3 (own_l [(s0 + (1 : Int32)), (1 : Int32), s2]) := Fa38.setL (by decide) W39 rfl (Nat.le_of_ble_eq_true rfl) rfl
            refine go (u' := T39.setTop (mkF m 77 #[.val (.ref o0), .val (.int p1), .val (.int p2), .val (.int p3), .val (.int (1 : Int32)), .val (.int (0 : Int32)), .val (.int (1 : Int32))] [])) st39 ?_
            refine go (u' := T39.setTop (mkF m 114 #[.val (.ref o0), .val (.int p1), .val (.int p2), .val (.int p3), .val (.int (1 : Int32)), .val (.int (0 : Int32)), .val (.int (1 : Int32))] [])) (fun _ ks_ => XS.goto X39.here hx rfl (pc0 := 77) (pc' := 114) rfl (hb hby d5_77) (by decide) (by decide) ks_) ?_
            refine go (u' := T39.setTop (mkF m 115 #[.val (.ref o0), .val (.int p1), .val (.int p2), .val (.int p3), .val (.int (1 : Int32)), .val (.int (0 : Int32)), .val (.int (1 : Int32))] [(.ref o0)])) (fun _ ks_ => XS.aloadN X39.here hx rfl (hb hby d5_114) rfl rfl ks_) ?_
            refine go (u' := T39.setTop (mkF m 116 #[.val (.ref o0), .val (.int p1), .val (.int p2), .val (.int p3), .val (.int (1 : Int32)), .val (.int (0 : Int32)), .val (.int (1 : Int32))] [(.int (2 : Int32)), (.ref o0)])) (fun _ ks_ => XS.iconst X39.here hx rfl (hb hby d5_115) ks_) ?_
            refine go (u' := T39.setTop (mkF m 118 #[.val (.ref o0), .val (.int p1), .val (.int p2), .val (.int p3), .val (.int (1 : Int32)), .val (.int (0 : Int32)), .val (.int (1 : Int32))] [(.int (1 : Int32)), (.int (2 : Int32)), (.ref o0)])) (fun _ ks_ => XS.iload X39.here hx rfl (hb hby d5_116) rfl  ks_) ?_
            refine go (u' := T39.setTop (mkF m 121 #[.val (.ref o0), .val (.int p1), .val (.int p2), .val (.int p3), .val (.int (1 : Int32)), .val (.int (0 : Int32)), .val (.int (1 : Int32))] [(.int (2 : Int32)), (.ref o0)])) (fun _ ks_ => XS.ifNo X39.here hx rfl (hb hby d5_118) rfl ((if0 _ _).trans (feq (show ¬ ((1 : Int32) = (0 : Int32)) from (by decide))).1) ks_) ?_
            refine go (u' := T39.setTop (mkF m 122 #[.val (.ref o0), .val (.int p1), .val (.int p2), .val (.int p3), .val (.int (1 : Int32)), .val (.int (0 : Int32)), .val (.int (1 : Int32))] [(.int (1 : Int32)), (.int (2 : Int32)), (.ref o0)])) (fun _ ks_ => XS.iconst X39.here hx rfl (hb hby d5_121) ks_) ?_
            refine go (u' := T39.setTop (mkF m 126 #[.val (.ref o0), .val (.int p1), .val (.int p2), .val (.int p3), .val (.int (1 : Int32)), .val (.int (0 : Int32)), .val (.int (1 : Int32))] [(.int (1 : Int32)), (.int (2 : Int32)), (.ref o0)])) (fun _ ks_ => XS.goto X39.here hx rfl (pc0 := 122) (pc' := 126) rfl (hb hby d5_122) (by decide) (by decide) ks_) ?_
            obtain ⟨T41, h41, X41, e41, W41, st41⟩ := own_iastore X39 hx hZ e39 Fa40 (j := (2 : Int32)) (x := (1 : Int32))  (by decide) (by decide) (f := (mkF m 126 #[.val (.ref o0), .val (.int p1), .val (.int p2), .val (.int p3), .val (.int (1 : Int32)), .val (.int (0 : Int32)), .val (.int (1 : Int32))] [(.int (1 : Int32)), (.int (2 : Int32)), (.ref o0)])) rfl rfl (hb hby d5_126)
            have N41 := Fr.snoc X41 N39 g_o0
            have K41 : Keep h0 h41 [o0] := K39.wr W41 (Or.inl (List.mem_of_getElem? (i := 0) rfl))
            have Z41 : n0 ≤ h41.size := Nat.le_trans Z39 (Keep.of_wr W41).1
            have Fa42 : PI Z h41 o0 .int 3 (own_l [(s0 + (1 : Int32)), (1 : Int32), (1 : Int32)]) := Fa40.setL (by decide) W41 rfl (Nat.le_of_ble_eq_true rfl) rfl
            refine go (u' := T41.setTop (mkF m 127 #[.val (.ref o0), .val (.int p1), .val (.int p2), .val (.int p3), .val (.int (1 : Int32)), .val (.int (0 : Int32)), .val (.int (1 : Int32))] [])) st41 ?_
            rw [hG]
            refine g0 X41 hx hlk hret (hb hby d5_127) ?_ (Nat.le_of_ble_eq_true rfl) (Nat.le_of_ble_eq_true rfl)
            show Q_rm5 Z o0 p1 p2 p3 s0 s1 s2 h0 n0 (none) T41.heap _
            rw [e41]
            exact ⟨rfl, N41, K41, (own_Lto Fa42 (congr (congrArg List.cons (show (s0 + (1 : Int32)) = (if p2 = (13 : Int32) then (s0 + (1 : Int32)) else (if p2 = (10 : Int32) then (if p1 = (0 : Int32) then (if s2 = (0 : Int32) then (s0 + (1 : Int32)) else s0) else (if p2 = (8232 : Int32) then (s0 + (1 : Int32)) else (if s2 = (0 : Int32) then (s0 + (1 : Int32)) else s0))) else (if p1 = (0 : Int32) then s0 else (if p2 = (133 : Int32) then (if p2 = (8232 : Int32) then (s0 + (1 : Int32)) else (if s2 = (0 : Int32) then (s0 + (1 : Int32)) else s0)) else (if p2 = (8232 : Int32) then (s0 + (1 : Int32)) else s0))))) from ((if_pos c3_1)).symm)) (congr (congrArg List.cons (show (1 : Int32) = (if p2 = (13 : Int32) then (1 : Int32) else (if p2 = (10 : Int32) then (if p1 = (0 : Int32) then (if s2 = (0 : Int32) then (1 : Int32) else s1) else (if p2 = (8232 : Int32) then (1 : Int32) else (if s2 = (0 : Int32) then (1 : Int32) else s1))) else (if p1 = (0 : Int32) then (s1 + p3) else (if p2 = (133 : Int32) then (if p2 = (8232 : Int32) then (1 : Int32) else (if s2 = (0 : Int32) then (1 : Int32) else s1)) else (if p2 = (8232 : Int32) then (1 : Int32) else (s1 + p3)))))) from ((if_pos c3_1)).symm)) (congr (congrArg List.cons (show (1 : Int32) = (if p2 = (13 : Int32) then (1 : Int32) else (0 : Int32)) from ((if_pos c3_1)).symm)) rfl))))⟩
          ·
            refine go (u' := s₁.setTop (mkF m 52 #[.val (.ref o0), .val (.int p1), .val (.int p2), .val (.int p3), .val (.int (1 : Int32)), .val (.int (0 : Int32)), .unset] [])) (fun _ ks_ => XS.icmpYes X0.here hx rfl (pc0 := 45) (pc' := 52) rfl (hb hby d5_45) rfl (feq c45_8).2 (by decide) (by decide) ks_) ?_
            refine go (u' := s₁.setTop (mkF m 53 #[.val (.ref o0), .val (.int p1), .val (.int p2), .val (.int p3), .val (.int (1 : Int32)), .val (.int (0 : Int32)), .unset] [(.int (0 : Int32))])) (fun _ ks_ => XS.iconst X0.here hx rfl (hb hby d5_52) ks_) ?_
            refine go (u' := s₁.setTop (mkF m 55 #[.val (.ref o0), .val (.int p1), .val (.int p2), .val (.int p3), .val (.int (1 : Int32)), .val (.int (0 : Int32)), .val (.int (0 : Int32))] [])) (fun _ ks_ => XS.istore X0.here hx rfl (hb hby d5_53) rfl  (l' := #[.val (.ref o0), .val (.int p1), .val (.int p2), .val (.int p3), .val (.int (1 : Int32)), .val (.int (0 : Int32)), .val (.int (0 : Int32))]) rfl ks_) ?_
            refine go (u' := s₁.setTop (mkF m 57 #[.val (.ref o0), .val (.int p1), .val (.int p2), .val (.int p3), .val (.int (1 : Int32)), .val (.int (0 : Int32)), .val (.int (0 : Int32))] [(.int (1 : Int32))])) (fun _ ks_ => XS.iload X0.here hx rfl (hb hby d5_55) rfl  ks_) ?_
            refine go (u' := s₁.setTop (mkF m 65 #[.val (.ref o0), .val (.int p1), .val (.int p2), .val (.int p3), .val (.int (1 : Int32)), .val (.int (0 : Int32)), .val (.int (0 : Int32))] [])) (fun _ ks_ => XS.ifYes X0.here hx rfl (pc0 := 57) (pc' := 65) rfl (hb hby d5_57) rfl ((if0 _ _).trans (feq (show ¬ ((1 : Int32) = (0 : Int32)) from (by decide))).2) (by decide) (by decide) ks_) ?_
            refine go (u' := s₁.setTop (mkF m 66 #[.val (.ref o0), .val (.int p1), .val (.int p2), .val (.int p3), .val (.int (1 : Int32)), .val (.int (0 : Int32)), .val (.int (0 : Int32))] [(.ref o0)])) (fun _ ks_ => XS.aloadN X0.here hx rfl (hb hby d5_65) rfl rfl ks_) ?_
            refine go (u' := s₁.setTop (mkF m 67 #[.val (.ref o0), .val (.int p1), .val (.int p2), .val (.int p3), .val (.int (1 : Int32)), .val (.int (0 : Int32)), .val (.int (0 : Int32))] [(.int (0 : Int32)), (.ref o0)])) (fun _ ks_ => XS.iconst X0.here hx rfl (hb hby d5_66) ks_) ?_
            refine go (u' := s₁.setTop (mkF m 68 #[.val (.ref o0), .val (.int p1), .val (.int p2), .val (.int p3), .val (.int (1 : Int32)), .val (.int (0 : Int32)), .val (.int (0 : Int32))] [(.ref o0), (.int (0 : Int32)), (.ref o0)])) (fun _ ks_ => XS.aloadN X0.here hx rfl (hb hby d5_67) rfl rfl ks_) ?_
            refine go (u' := s₁.setTop (mkF m 69 #[.val (.ref o0), .val (.int p1), .val (.int p2), .val (.int p3), .val (.int (1 : Int32)), .val (.int (0 : Int32)), .val (.int (0 : Int32))] [(.int (0 : Int32)), (.ref o0), (.int (0 : Int32)), (.ref o0)])) (fun _ ks_ => XS.iconst X0.here hx rfl (hb hby d5_68) ks_) ?_
            refine go (u' := s₁.setTop (mkF m 70 #[.val (.ref o0), .val (.int p1), .val (.int p2), .val (.int p3), .val (.int (1 : Int32)), .val (.int (0 : Int32)), .val (.int (0 : Int32))] [(.int s0), (.int (0 : Int32)), (.ref o0)])) (own_iaload X0 hx hZ e0 F0 (j := (0 : Int32)) (v := s0) (by decide) (by decide) rfl (f := (mkF m 69 #[.val (.ref o0), .val (.int p1), .val (.int p2), .val (.int p3), .val (.int (1 : Int32)), .val (.int (0 : Int32)), .val (.int (0 : Int32))] [(.int (0 : Int32)), (.ref o0), (.int (0 : Int32)), (.ref o0)])) rfl rfl (hb hby d5_69)) ?_
            refine go (u' := s₁.setTop (mkF m 71 #[.val (.ref o0), .val (.int p1), .val (.int p2), .val (.int p3), .val (.int (1 : Int32)), .val (.int (0 : Int32)), .val (.int (0 : Int32))] [(.int (1 : Int32)), (.int s0), (.int (0 : Int32)), (.ref o0)])) (fun _ ks_ => XS.iconst X0.here hx rfl (hb hby d5_70) ks_) ?_
            refine go (u' := s₁.setTop (mkF m 72 #[.val (.ref o0), .val (.int p1), .val (.int p2), .val (.int p3), .val (.int (1 : Int32)), .val (.int (0 : Int32)), .val (.int (0 : Int32))] [(.int (s0 + (1 : Int32))), (.int (0 : Int32)), (.ref o0)])) (fun _ ks_ => XS.iadd X0.here hx rfl (hb hby d5_71) rfl ks_) ?_
            obtain ⟨T43, h43, X43, e43, W43, st43⟩ := own_iastore X0 hx hZ e0 F0 (j := (0 : Int32)) (x := (s0 + (1 : Int32)))  (by decide) (by decide) (f := (mkF m 72 #[.val (.ref o0), .val (.int p1), .val (.int p2), .val (.int p3), .val (.int (1 : Int32)), .val (.int (0 : Int32)), .val (.int (0 : Int32))] [(.int (s0 + (1 : Int32))), (.int (0 : Int32)), (.ref o0)])) rfl rfl (hb hby d5_72)
            have N43 := Fr.snoc X43 N0 g_o0
            have K43 : Keep h0 h43 [o0] := (Keep.refl h0 [o0]).wr W43 (Or.inl (List.mem_of_getElem? (i := 0) rfl))
            have Z43 : n0 ≤ h43.size := Nat.le_trans Z0 (Keep.of_wr W43).1
            have Fa44 : PI Z h43 o0 .int 3 (own_l [(s0 + (1 : Int32)), s1, s2]) := F0.setL (by decide) W43 rfl (Nat.le_of_ble_eq_true rfl) rfl
            refine go (u' := T43.setTop (mkF m 73 #[.val (.ref o0), .val (.int p1), .val (.int p2), .val (.int p3), .val (.int (1 : Int32)), .val (.int (0 : Int32)), .val (.int (0 : Int32))] [])) st43 ?_
            refine go (u' := T43.setTop (mkF m 74 #[.val (.ref o0), .val (.int p1), .val (.int p2), .val (.int p3), .val (.int (1 : Int32)), .val (.int (0 : Int32)), .val (.int (0 : Int32))] [(.ref o0)])) (fun _ ks_ => XS.aloadN X43.here hx rfl (hb hby d5_73) rfl rfl ks_) ?_
            refine go (u' := T43.setTop (mkF m 75 #[.val (.ref o0), .val (.int p1), .val (.int p2), .val (.int p3), .val (.int (1 : Int32)), .val (.int (0 : Int32)), .val (.int (0 : Int32))] [(.int (1 : Int32)), (.ref o0)])) (fun _ ks_ => XS.iconst X43.here hx rfl (hb hby d5_74) ks_) ?_
            refine go (u' := T43.setTop (mkF m 76 #[.val (.ref o0), .val (.int p1), .val (.int p2), .val (.int p3), .val (.int (1 : Int32)), .val (.int (0 : Int32)), .val (.int (0 : Int32))] [(.int (1 : Int32)), (.int (1 : Int32)), (.ref o0)])) (fun _ ks_ => XS.iconst X43.here hx rfl (hb hby d5_75) ks_) ?_
            obtain ⟨T45, h45, X45, e45, W45, st45⟩ := own_iastore X43 hx hZ e43 Fa44 (j := (1 : Int32)) (x := (1 : Int32))  (by decide) (by decide) (f := (mkF m 76 #[.val (.ref o0), .val (.int p1), .val (.int p2), .val (.int p3), .val (.int (1 : Int32)), .val (.int (0 : Int32)), .val (.int (0 : Int32))] [(.int (1 : Int32)), (.int (1 : Int32)), (.ref o0)])) rfl rfl (hb hby d5_76)
            have N45 := Fr.snoc X45 N43 g_o0
            have K45 : Keep h0 h45 [o0] := K43.wr W45 (Or.inl (List.mem_of_getElem? (i := 0) rfl))
            have Z45 : n0 ≤ h45.size := Nat.le_trans Z43 (Keep.of_wr W45).1
            have Fa46 : PI Z h45 o0 .int 3 (own_l [(s0 + (1 : Int32)), (1 : Int32), s2]) := Fa44.setL (by decide) W45 rfl (Nat.le_of_ble_eq_true rfl) rfl
            refine go (u' := T45.setTop (mkF m 77 #[.val (.ref o0), .val (.int p1), .val (.int p2), .val (.int p3), .val (.int (1 : Int32)), .val (.int (0 : Int32)), .val (.int (0 : Int32))] [])) st45 ?_
            refine go (u' := T45.setTop (mkF m 114 #[.val (.ref o0), .val (.int p1), .val (.int p2), .val (.int p3), .val (.int (1 : Int32)), .val (.int (0 : Int32)), .val (.int (0 : Int32))] [])) (fun _ ks_ => XS.goto X45.here hx rfl (pc0 := 77) (pc' := 114) rfl (hb hby d5_77) (by decide) (by decide) ks_) ?_
            refine go (u' := T45.setTop (mkF m 115 #[.val (.ref o0), .val (.int p1), .val (.int p2), .val (.int p3), .val (.int (1 : Int32)), .val (.int (0 : Int32)), .val (.int (0 : Int32))] [(.ref o0)])) (fun _ ks_ => XS.aloadN X45.here hx rfl (hb hby d5_114) rfl rfl ks_) ?_
            refine go (u' := T45.setTop (mkF m 116 #[.val (.ref o0), .val (.int p1), .val (.int p2), .val (.int p3), .val (.int (1 : Int32)), .val (.int (0 : Int32)), .val (.int (0 : Int32))] [(.int (2 : Int32)), (.ref o0)])) (fun _ ks_ => XS.iconst X45.here hx rfl (hb hby d5_115) ks_) ?_
            refine go (u' := T45.setTop (mkF m 118 #[.val (.ref o0), .val (.int p1), .val (.int p2), .val (.int p3), .val (.int (1 : Int32)), .val (.int (0 : Int32)), .val (.int (0 : Int32))] [(.int (1 : Int32)), (.int (2 : Int32)), (.ref o0)])) (fun _ ks_ => XS.iload X45.here hx rfl (hb hby d5_116) rfl  ks_) ?_
            refine go (u' := T45.setTop (mkF m 121 #[.val (.ref o0), .val (.int p1), .val (.int p2), .val (.int p3), .val (.int (1 : Int32)), .val (.int (0 : Int32)), .val (.int (0 : Int32))] [(.int (2 : Int32)), (.ref o0)])) (fun _ ks_ => XS.ifNo X45.here hx rfl (hb hby d5_118) rfl ((if0 _ _).trans (feq (show ¬ ((1 : Int32) = (0 : Int32)) from (by decide))).1) ks_) ?_
            refine go (u' := T45.setTop (mkF m 122 #[.val (.ref o0), .val (.int p1), .val (.int p2), .val (.int p3), .val (.int (1 : Int32)), .val (.int (0 : Int32)), .val (.int (0 : Int32))] [(.int (1 : Int32)), (.int (2 : Int32)), (.ref o0)])) (fun _ ks_ => XS.iconst X45.here hx rfl (hb hby d5_121) ks_) ?_
            refine go (u' := T45.setTop (mkF m 126 #[.val (.ref o0), .val (.int p1), .val (.int p2), .val (.int p3), .val (.int (1 : Int32)), .val (.int (0 : Int32)), .val (.int (0 : Int32))] [(.int (1 : Int32)), (.int (2 : Int32)), (.ref o0)])) (fun _ ks_ => XS.goto X45.here hx rfl (pc0 := 122) (pc' := 126) rfl (hb hby d5_122) (by decide) (by decide) ks_) ?_
            obtain ⟨T47, h47, X47, e47, W47, st47⟩ := own_iastore X45 hx hZ e45 Fa46 (j := (2 : Int32)) (x := (1 : Int32))  (by decide) (by decide) (f := (mkF m 126 #[.val (.ref o0), .val (.int p1), .val (.int p2), .val (.int p3), .val (.int (1 : Int32)), .val (.int (0 : Int32)), .val (.int (0 : Int32))] [(.int (1 : Int32)), (.int (2 : Int32)), (.ref o0)])) rfl rfl (hb hby d5_126)
            have N47 := Fr.snoc X47 N45 g_o0
            have K47 : Keep h0 h47 [o0] := K45.wr W47 (Or.inl (List.mem_of_getElem? (i := 0) rfl))
            have Z47 : n0 ≤ h47.size := Nat.le_trans Z45 (Keep.of_wr W47).1
            have Fa48 : PI Z h47 o0 .int 3 (own_l [(s0 + (1 : Int32)), (1 : Int32), (1 : Int32)]) := Fa46.setL (by decide) W47 rfl (Nat.le_of_ble_eq_true rfl) rfl
            refine go (u' := T47.setTop (mkF m 127 #[.val (.ref o0), .val (.int p1), .val (.int p2), .val (.int p3), .val (.int (1 : Int32)), .val (.int (0 : Int32)), .val (.int (0 : Int32))] [])) st47 ?_
            rw [hG]
            refine g0 X47 hx hlk hret (hb hby d5_127) ?_ (Nat.le_of_ble_eq_true rfl) (Nat.le_of_ble_eq_true rfl)
            show Q_rm5 Z o0 p1 p2 p3 s0 s1 s2 h0 n0 (none) T47.heap _
            rw [e47]
            exact ⟨rfl, N47, K47, (own_Lto Fa48 (congr (congrArg List.cons (show (s0 + (1 : Int32)) = (if p2 = (13 : Int32) then (s0 + (1 : Int32)) else (if p2 = (10 : Int32) then (if p1 = (0 : Int32) then (if s2 = (0 : Int32) then (s0 + (1 : Int32)) else s0) else (if p2 = (8232 : Int32) then (s0 + (1 : Int32)) else (if s2 = (0 : Int32) then (s0 + (1 : Int32)) else s0))) else (if p1 = (0 : Int32) then s0 else (if p2 = (133 : Int32) then (if p2 = (8232 : Int32) then (s0 + (1 : Int32)) else (if s2 = (0 : Int32) then (s0 + (1 : Int32)) else s0)) else (if p2 = (8232 : Int32) then (s0 + (1 : Int32)) else s0))))) from ((if_pos c3_1)).symm)) (congr (congrArg List.cons (show (1 : Int32) = (if p2 = (13 : Int32) then (1 : Int32) else (if p2 = (10 : Int32) then (if p1 = (0 : Int32) then (if s2 = (0 : Int32) then (1 : Int32) else s1) else (if p2 = (8232 : Int32) then (1 : Int32) else (if s2 = (0 : Int32) then (1 : Int32) else s1))) else (if p1 = (0 : Int32) then (s1 + p3) else (if p2 = (133 : Int32) then (if p2 = (8232 : Int32) then (1 : Int32) else (if s2 = (0 : Int32) then (1 : Int32) else s1)) else (if p2 = (8232 : Int32) then (1 : Int32) else (s1 + p3)))))) from ((if_pos c3_1)).symm)) (congr (congrArg List.cons (show (1 : Int32) = (if p2 = (13 : Int32) then (1 : Int32) else (0 : Int32)) from ((if_pos c3_1)).symm)) rfl))))⟩
  ·
    refine go (u' := s₁.setTop (mkF m 10 #[.val (.ref o0), .val (.int p1), .val (.int p2), .val (.int p3), .unset, .unset, .unset] [])) (fun _ ks_ => XS.icmpYes X0.here hx rfl (pc0 := 3) (pc' := 10) rfl (hb hby d5_3) rfl (feq c3_1).2 (by decide) (by decide) ks_) ?_
    refine go (u' := s₁.setTop (mkF m 11 #[.val (.ref o0), .val (.int p1), .val (.int p2), .val (.int p3), .unset, .unset, .unset] [(.int (0 : Int32))])) (fun _ ks_ => XS.iconst X0.here hx rfl (hb hby d5_10) ks_) ?_
    refine go (u' := s₁.setTop (mkF m 13 #[.val (.ref o0), .val (.int p1), .val (.int p2), .val (.int p3), .val (.int (0 : Int32)), .unset, .unset] [])) (fun _ ks_ => XS.istore X0.here hx rfl (hb hby d5_11) rfl  (l' := #[.val (.ref o0), .val (.int p1), .val (.int p2), .val (.int p3), .val (.int (0 : Int32)), .unset, .unset]) rfl ks_) ?_
    refine go (u' := s₁.setTop (mkF m 14 #[.val (.ref o0), .val (.int p1), .val (.int p2), .val (.int p3), .val (.int (0 : Int32)), .unset, .unset] [(.int p2)])) (fun _ ks_ => XS.iloadN X0.here hx rfl (hb hby d5_13) rfl  ks_) ?_
    refine go (u' := s₁.setTop (mkF m 16 #[.val (.ref o0), .val (.int p1), .val (.int p2), .val (.int p3), .val (.int (0 : Int32)), .unset, .unset] [(.int (10 : Int32)), (.int p2)])) (fun _ ks_ => XS.bipush X0.here hx rfl (hb hby d5_14) ks_) ?_
    by_cases c16_9 : p2 = (10 : Int32)
    ·
      refine go (u' := s₁.setTop (mkF m 30 #[.val (.ref o0), .val (.int p1), .val (.int p2), .val (.int p3), .val (.int (0 : Int32)), .unset, .unset] [])) (fun _ ks_ => XS.icmpYes X0.here hx rfl (pc0 := 16) (pc' := 30) rfl (hb hby d5_16) rfl (teq c16_9).1 (by decide) (by decide) ks_) ?_
      refine go (u' := s₁.setTop (mkF m 31 #[.val (.ref o0), .val (.int p1), .val (.int p2), .val (.int p3), .val (.int (0 : Int32)), .unset, .unset] [(.int (1 : Int32))])) (fun _ ks_ => XS.iconst X0.here hx rfl (hb hby d5_30) ks_) ?_
      refine go (u' := s₁.setTop (mkF m 35 #[.val (.ref o0), .val (.int p1), .val (.int p2), .val (.int p3), .val (.int (0 : Int32)), .unset, .unset] [(.int (1 : Int32))])) (fun _ ks_ => XS.goto X0.here hx rfl (pc0 := 31) (pc' := 35) rfl (hb hby d5_31) (by decide) (by decide) ks_) ?_
      refine go (u' := s₁.setTop (mkF m 37 #[.val (.ref o0), .val (.int p1), .val (.int p2), .val (.int p3), .val (.int (0 : Int32)), .val (.int (1 : Int32)), .unset] [])) (fun _ ks_ => XS.istore X0.here hx rfl (hb hby d5_35) rfl  (l' := #[.val (.ref o0), .val (.int p1), .val (.int p2), .val (.int p3), .val (.int (0 : Int32)), .val (.int (1 : Int32)), .unset]) rfl ks_) ?_
      refine go (u' := s₁.setTop (mkF m 38 #[.val (.ref o0), .val (.int p1), .val (.int p2), .val (.int p3), .val (.int (0 : Int32)), .val (.int (1 : Int32)), .unset] [(.int p1)])) (fun _ ks_ => XS.iloadN X0.here hx rfl (hb hby d5_37) rfl  ks_) ?_
      by_cases c38_10 : p1 = (0 : Int32)
      ·
        refine go (u' := s₁.setTop (mkF m 52 #[.val (.ref o0), .val (.int p1), .val (.int p2), .val (.int p3), .val (.int (0 : Int32)), .val (.int (1 : Int32)), .unset] [])) (fun _ ks_ => XS.ifYes X0.here hx rfl (pc0 := 38) (pc' := 52) rfl (hb hby d5_38) rfl ((if0 _ _).trans (teq c38_10).1) (by decide) (by decide) ks_) ?_
        refine go (u' := s₁.setTop (mkF m 53 #[.val (.ref o0), .val (.int p1), .val (.int p2), .val (.int p3), .val (.int (0 : Int32)), .val (.int (1 : Int32)), .unset] [(.int (0 : Int32))])) (fun _ ks_ => XS.iconst X0.here hx rfl (hb hby d5_52) ks_) ?_
        refine go (u' := s₁.setTop (mkF m 55 #[.val (.ref o0), .val (.int p1), .val (.int p2), .val (.int p3), .val (.int (0 : Int32)), .val (.int (1 : Int32)), .val (.int (0 : Int32))] [])) (fun _ ks_ => XS.istore X0.here hx rfl (hb hby d5_53) rfl  (l' := #[.val (.ref o0), .val (.int p1), .val (.int p2), .val (.int p3), .val (.int (0 : Int32)), .val (.int (1 : Int32)), .val (.int (0 : Int32))]) rfl ks_) ?_
        refine go (u' := s₁.setTop (mkF m 57 #[.val (.ref o0), .val (.int p1), .val (.int p2), .val (.int p3), .val (.int (0 : Int32)), .val (.int (1 : Int32)), .val (.int (0 : Int32))] [(.int (0 : Int32))])) (fun _ ks_ => XS.iload X0.here hx rfl (hb hby d5_55) rfl  ks_) ?_
        refine go (u' := s₁.setTop (mkF m 60 #[.val (.ref o0), .val (.int p1), .val (.int p2), .val (.int p3), .val (.int (0 : Int32)), .val (.int (1 : Int32)), .val (.int (0 : Int32))] [])) (fun _ ks_ => XS.ifNo X0.here hx rfl (hb hby d5_57) rfl ((if0 _ _).trans (teq (show (0 : Int32) = (0 : Int32) from (by decide))).2) ks_) ?_
        refine go (u' := s₁.setTop (mkF m 62 #[.val (.ref o0), .val (.int p1), .val (.int p2), .val (.int p3), .val (.int (0 : Int32)), .val (.int (1 : Int32)), .val (.int (0 : Int32))] [(.int (0 : Int32))])) (fun _ ks_ => XS.iload X0.here hx rfl (hb hby d5_60) rfl  ks_) ?_
        refine go (u' := s₁.setTop (mkF m 80 #[.val (.ref o0), .val (.int p1), .val (.int p2), .val (.int p3), .val (.int (0 : Int32)), .val (.int (1 : Int32)), .val (.int (0 : Int32))] [])) (fun _ ks_ => XS.ifYes X0.here hx rfl (pc0 := 62) (pc' := 80) rfl (hb hby d5_62) rfl ((if0 _ _).trans (teq (show (0 : Int32) = (0 : Int32) from (by decide))).1) (by decide) (by decide) ks_) ?_
        refine go (u' := s₁.setTop (mkF m 82 #[.val (.ref o0), .val (.int p1), .val (.int p2), .val (.int p3), .val (.int (0 : Int32)), .val (.int (1 : Int32)), .val (.int (0 : Int32))] [(.int (1 : Int32))])) (fun _ ks_ => XS.iload X0.here hx rfl (hb hby d5_80) rfl  ks_) ?_
        refine go (u' := s₁.setTop (mkF m 85 #[.val (.ref o0), .val (.int p1), .val (.int p2), .val (.int p3), .val (.int (0 : Int32)), .val (.int (1 : Int32)), .val (.int (0 : Int32))] [])) (fun _ ks_ => XS.ifNo X0.here hx rfl (hb hby d5_82) rfl ((if0 _ _).trans (feq (show ¬ ((1 : Int32) = (0 : Int32)) from (by decide))).1) ks_) ?_
        refine go (u' := s₁.setTop (mkF m 86 #[.val (.ref o0), .val (.int p1), .val (.int p2), .val (.int p3), .val (.int (0 : Int32)), .val (.int (1 : Int32)), .val (.int (0 : Int32))] [(.ref o0)])) (fun _ ks_ => XS.aloadN X0.here hx rfl (hb hby d5_85) rfl rfl ks_) ?_
        refine go (u' := s₁.setTop (mkF m 87 #[.val (.ref o0), .val (.int p1), .val (.int p2), .val (.int p3), .val (.int (0 : Int32)), .val (.int (1 : Int32)), .val (.int (0 : Int32))] [(.int (2 : Int32)), (.ref o0)])) (fun _ ks_ => XS.iconst X0.here hx rfl (hb hby d5_86) ks_) ?_
        refine go (u' := s₁.setTop (mkF m 88 #[.val (.ref o0), .val (.int p1), .val (.int p2), .val (.int p3), .val (.int (0 : Int32)), .val (.int (1 : Int32)), .val (.int (0 : Int32))] [(.int s2)])) (own_iaload X0 hx hZ e0 F0 (j := (2 : Int32)) (v := s2) (by decide) (by decide) rfl (f := (mkF m 87 #[.val (.ref o0), .val (.int p1), .val (.int p2), .val (.int p3), .val (.int (0 : Int32)), .val (.int (1 : Int32)), .val (.int (0 : Int32))] [(.int (2 : Int32)), (.ref o0)])) rfl rfl (hb hby d5_87)) ?_
        by_cases c88_11 : s2 = (0 : Int32)
        ·
          refine go (u' := s₁.setTop (mkF m 91 #[.val (.ref o0), .val (.int p1), .val (.int p2), .val (.int p3), .val (.int (0 : Int32)), .val (.int (1 : Int32)), .val (.int (0 : Int32))] [])) (fun _ ks_ => XS.ifNo X0.here hx rfl (hb hby d5_88) rfl ((if0 _ _).trans (teq c88_11).2) ks_) ?_
          refine go (u' := s₁.setTop (mkF m 92 #[.val (.ref o0), .val (.int p1), .val (.int p2), .val (.int p3), .val (.int (0 : Int32)), .val (.int (1 : Int32)), .val (.int (0 : Int32))] [(.ref o0)])) (fun _ ks_ => XS.aloadN X0.here hx rfl (hb hby d5_91) rfl rfl ks_) ?_
          refine go (u' := s₁.setTop (mkF m 93 #[.val (.ref o0), .val (.int p1), .val (.int p2), .val (.int p3), .val (.int (0 : Int32)), .val (.int (1 : Int32)), .val (.int (0 : Int32))] [(.int (0 : Int32)), (.ref o0)])) (fun _ ks_ => XS.iconst X0.here hx rfl (hb hby d5_92) ks_) ?_
          refine go (u' := s₁.setTop (mkF m 94 #[.val (.ref o0), .val (.int p1), .val (.int p2), .val (.int p3), .val (.int (0 : Int32)), .val (.int (1 : Int32)), .val (.int (0 : Int32))] [(.ref o0), (.int (0 : Int32)), (.ref o0)])) (fun _ ks_ => XS.aloadN X0.here hx rfl (hb hby d5_93) rfl rfl ks_) ?_
          refine go (u' := s₁.setTop (mkF m 95 #[.val (.ref o0), .val (.int p1), .val (.int p2), .val (.int p3), .val (.int (0 : Int32)), .val (.int (1 : Int32)), .val (.int (0 : Int32))] [(.int (0 : Int32)), (.ref o0), (.int (0 : Int32)), (.ref o0)])) (fun _ ks_ => XS.iconst X0.here hx rfl (hb hby d5_94) ks_) ?_
          refine go (u' := s₁.setTop (mkF m 96 #[.val (.ref o0), .val (.int p1), .val (.int p2), .val (.int p3), .val (.int (0 : Int32)), .val (.int (1 : Int32)), .val (.int (0 : Int32))] [(.int s0), (.int (0 : Int32)), (.ref o0)])) (own_iaload X0 hx hZ e0 F0 (j := (0 : Int32)) (v := s0) (by decide) (by decide) rfl (f := (mkF m 95 #[.val (.ref o0), .val (.int p1), .val (.int p2), .val (.int p3), .val (.int (0 : Int32)), .val (.int (1 : Int32)), .val (.int (0 : Int32))] [(.int (0 : Int32)), (.ref o0), (.int (0 : Int32)), (.ref o0)])) rfl rfl (hb hby d5_95)) ?_
          refine go (u' := s₁.setTop (mkF m 97 #[.val (.ref o0), .val (.int p1), .val (.int p2), .val (.int p3), .val (.int (0 : Int32)), .val (.int (1 : Int32)), .val (.int (0 : Int32))] [(.int (1 : Int32)), (.int s0), (.int (0 : Int32)), (.ref o0)])) (fun _ ks_ => XS.iconst X0.here hx rfl (hb hby d5_96) ks_) ?_
          refine go (u' := s₁.setTop (mkF m 98 #[.val (.ref o0), .val (.int p1), .val (.int p2), .val (.int p3), .val (.int (0 : Int32)), .val (.int (1 : Int32)), .val (.int (0 : Int32))] [(.int (s0 + (1 : Int32))), (.int (0 : Int32)), (.ref o0)])) (fun _ ks_ => XS.iadd X0.here hx rfl (hb hby d5_97) rfl ks_) ?_
          obtain ⟨T49, h49, X49, e49, W49, st49⟩ := own_iastore X0 hx hZ e0 F0 (j := (0 : Int32)) (x := (s0 + (1 : Int32)))  (by decide) (by decide) (f := (mkF m 98 #[.val (.ref o0), .val (.int p1), .val (.int p2), .val (.int p3), .val (.int (0 : Int32)), .val (.int (1 : Int32)), .val (.int (0 : Int32))] [(.int (s0 + (1 : Int32))), (.int (0 : Int32)), (.ref o0)])) rfl rfl (hb hby d5_98)
          have N49 := Fr.snoc X49 N0 g_o0
          have K49 : Keep h0 h49 [o0] := (Keep.refl h0 [o0]).wr W49 (Or.inl (List.mem_of_getElem? (i := 0) rfl))
          have Z49 : n0 ≤ h49.size := Nat.le_trans Z0 (Keep.of_wr W49).1
          have Fa50 : PI Z h49 o0 .int 3 (own_l [(s0 + (1 : Int32)), s1, s2]) := F0.setL (by decide) W49 rfl (Nat.le_of_ble_eq_true rfl) rfl
          refine go (u' := T49.setTop (mkF m 99 #[.val (.ref o0), .val (.int p1), .val (.int p2), .val (.int p3), .val (.int (0 : Int32)), .val (.int (1 : Int32)), .val (.int (0 : Int32))] [])) st49 ?_
          refine go (u' := T49.setTop (mkF m 100 #[.val (.ref o0), .val (.int p1), .val (.int p2), .val (.int p3), .val (.int (0 : Int32)), .val (.int (1 : Int32)), .val (.int (0 : Int32))] [(.ref o0)])) (fun _ ks_ => XS.aloadN X49.here hx rfl (hb hby d5_99) rfl rfl ks_) ?_
          refine go (u' := T49.setTop (mkF m 101 #[.val (.ref o0), .val (.int p1), .val (.int p2), .val (.int p3), .val (.int (0 : Int32)), .val (.int (1 : Int32)), .val (.int (0 : Int32))] [(.int (1 : Int32)), (.ref o0)])) (fun _ ks_ => XS.iconst X49.here hx rfl (hb hby d5_100) ks_) ?_
          refine go (u' := T49.setTop (mkF m 102 #[.val (.ref o0), .val (.int p1), .val (.int p2), .val (.int p3), .val (.int (0 : Int32)), .val (.int (1 : Int32)), .val (.int (0 : Int32))] [(.int (1 : Int32)), (.int (1 : Int32)), (.ref o0)])) (fun _ ks_ => XS.iconst X49.here hx rfl (hb hby d5_101) ks_) ?_
          obtain ⟨T51, h51, X51, e51, W51, st51⟩ := own_iastore X49 hx hZ e49 Fa50 (j := (1 : Int32)) (x := (1 : Int32))  (by decide) (by decide) (f := (mkF m 102 #[.val (.ref o0), .val (.int p1), .val (.int p2), .val (.int p3), .val (.int (0 : Int32)), .val (.int (1 : Int32)), .val (.int (0 : Int32))] [(.int (1 : Int32)), (.int (1 : Int32)), (.ref o0)])) rfl rfl (hb hby d5_102)
          have N51 := Fr.snoc X51 N49 g_o0
          have K51 : Keep h0 h51 [o0] := K49.wr W51 (Or.inl (List.mem_of_getElem? (i := 0) rfl))
          have Z51 : n0 ≤ h51.size := Nat.le_trans Z49 (Keep.of_wr W51).1
          have Fa52 : PI Z h51 o0 .int 3 (own_l [(s0 + (1 : Int32)), (1 : Int32), s2]) := Fa50.setL (by decide) W51 rfl (Nat.le_of_ble_eq_true rfl) rfl
          refine go (u' := T51.setTop (mkF m 103 #[.val (.ref o0), .val (.int p1), .val (.int p2), .val (.int p3), .val (.int (0 : Int32)), .val (.int (1 : Int32)), .val (.int (0 : Int32))] [])) st51 ?_
          refine go (u' := T51.setTop (mkF m 114 #[.val (.ref o0), .val (.int p1), .val (.int p2), .val (.int p3), .val (.int (0 : Int32)), .val (.int (1 : Int32)), .val (.int (0 : Int32))] [])) (fun _ ks_ => XS.goto X51.here hx rfl (pc0 := 103) (pc' := 114) rfl (hb hby d5_103) (by decide) (by decide) ks_) ?_
          refine go (u' := T51.setTop (mkF m 115 #[.val (.ref o0), .val (.int p1), .val (.int p2), .val (.int p3), .val (.int (0 : Int32)), .val (.int (1 : Int32)), .val (.int (0 : Int32))] [(.ref o0)])) (fun _ ks_ => XS.aloadN X51.here hx rfl (hb hby d5_114) rfl rfl ks_) ?_
          refine go (u' := T51.setTop (mkF m 116 #[.val (.ref o0), .val (.int p1), .val (.int p2), .val (.int p3), .val (.int (0 : Int32)), .val (.int (1 : Int32)), .val (.int (0 : Int32))] [(.int (2 : Int32)), (.ref o0)])) (fun _ ks_ => XS.iconst X51.here hx rfl (hb hby d5_115) ks_) ?_
          refine go (u' := T51.setTop (mkF m 118 #[.val (.ref o0), .val (.int p1), .val (.int p2), .val (.int p3), .val (.int (0 : Int32)), .val (.int (1 : Int32)), .val (.int (0 : Int32))] [(.int (0 : Int32)), (.int (2 : Int32)), (.ref o0)])) (fun _ ks_ => XS.iload X51.here hx rfl (hb hby d5_116) rfl  ks_) ?_
          refine go (u' := T51.setTop (mkF m 125 #[.val (.ref o0), .val (.int p1), .val (.int p2), .val (.int p3), .val (.int (0 : Int32)), .val (.int (1 : Int32)), .val (.int (0 : Int32))] [(.int (2 : Int32)), (.ref o0)])) (fun _ ks_ => XS.ifYes X51.here hx rfl (pc0 := 118) (pc' := 125) rfl (hb hby d5_118) rfl ((if0 _ _).trans (teq (show (0 : Int32) = (0 : Int32) from (by decide))).1) (by decide) (by decide) ks_) ?_
          refine go (u' := T51.setTop (mkF m 126 #[.val (.ref o0), .val (.int p1), .val (.int p2), .val (.int p3), .val (.int (0 : Int32)), .val (.int (1 : Int32)), .val (.int (0 : Int32))] [(.int (0 : Int32)), (.int (2 : Int32)), (.ref o0)])) (fun _ ks_ => XS.iconst X51.here hx rfl (hb hby d5_125) ks_) ?_
          obtain ⟨T53, h53, X53, e53, W53, st53⟩ := own_iastore X51 hx hZ e51 Fa52 (j := (2 : Int32)) (x := (0 : Int32))  (by decide) (by decide) (f := (mkF m 126 #[.val (.ref o0), .val (.int p1), .val (.int p2), .val (.int p3), .val (.int (0 : Int32)), .val (.int (1 : Int32)), .val (.int (0 : Int32))] [(.int (0 : Int32)), (.int (2 : Int32)), (.ref o0)])) rfl rfl (hb hby d5_126)
          have N53 := Fr.snoc X53 N51 g_o0
          have K53 : Keep h0 h53 [o0] := K51.wr W53 (Or.inl (List.mem_of_getElem? (i := 0) rfl))
          have Z53 : n0 ≤ h53.size := Nat.le_trans Z51 (Keep.of_wr W53).1
          have Fa54 : PI Z h53 o0 .int 3 (own_l [(s0 + (1 : Int32)), (1 : Int32), (0 : Int32)]) := Fa52.setL (by decide) W53 rfl (Nat.le_of_ble_eq_true rfl) rfl
          refine go (u' := T53.setTop (mkF m 127 #[.val (.ref o0), .val (.int p1), .val (.int p2), .val (.int p3), .val (.int (0 : Int32)), .val (.int (1 : Int32)), .val (.int (0 : Int32))] [])) st53 ?_
          rw [hG]
          refine g0 X53 hx hlk hret (hb hby d5_127) ?_ (Nat.le_of_ble_eq_true rfl) (Nat.le_of_ble_eq_true rfl)
          show Q_rm5 Z o0 p1 p2 p3 s0 s1 s2 h0 n0 (none) T53.heap _
          rw [e53]
          exact ⟨rfl, N53, K53, (own_Lto Fa54 (congr (congrArg List.cons (show (s0 + (1 : Int32)) = (if p2 = (13 : Int32) then (s0 + (1 : Int32)) else (if p2 = (10 : Int32) then (if p1 = (0 : Int32) then (if s2 = (0 : Int32) then (s0 + (1 : Int32)) else s0) else (if p2 = (8232 : Int32) then (s0 + (1 : Int32)) else (if s2 = (0 : Int32) then (s0 + (1 : Int32)) else s0))) else (if p1 = (0 : Int32) then s0 else (if p2 = (133 : Int32) then (if p2 = (8232 : Int32) then (s0 + (1 : Int32)) else (if s2 = (0 : Int32) then (s0 + (1 : Int32)) else s0)) else (if p2 = (8232 : Int32) then (s0 + (1 : Int32)) else s0))))) from (((((if_neg c3_1).trans (if_pos c16_9)).trans (if_pos c38_10)).trans (if_pos c88_11))).symm)) (congr (congrArg List.cons (show (1 : Int32) = (if p2 = (13 : Int32) then (1 : Int32) else (if p2 = (10 : Int32) then (if p1 = (0 : Int32) then (if s2 = (0 : Int32) then (1 : Int32) else s1) else (if p2 = (8232 : Int32) then (1 : Int32) else (if s2 = (0 : Int32) then (1 : Int32) else s1))) else (if p1 = (0 : Int32) then (s1 + p3) else (if p2 = (133 : Int32) then (if p2 = (8232 : Int32) then (1 : Int32) else (if s2 = (0 : Int32) then (1 : Int32) else s1)) else (if p2 = (8232 : Int32) then (1 : Int32) else (s1 + p3)))))) from (((((if_neg c3_1).trans (if_pos c16_9)).trans (if_pos c38_10)).trans (if_pos c88_11))).symm)) (congr (congrArg List.cons (show (0 : Int32) = (if p2 = (13 : Int32) then (1 : Int32) else (0 : Int32)) from ((if_neg c3_1)).symm)) rfl))))⟩
        ·
          refine go (u' := s₁.setTop (mkF m 114 #[.val (.ref o0), .val (.int p1), .val (.int p2), .val (.int p3), .val (.int (0 : Int32)), .val (.int (1 : Int32)), .val (.int (0 : Int32))] [])) (fun _ ks_ => XS.ifYes X0.here hx rfl (pc0 := 88) (pc' := 114) rfl (hb hby d5_88) rfl ((if0 _ _).trans (feq c88_11).2) (by decide) (by decide) ks_) ?_
          refine go (u' := s₁.setTop (mkF m 115 #[.val (.ref o0), .val (.int p1), .val (.int p2), .val (.int p3), .val (.int (0 : Int32)), .val (.int (1 : Int32)), .val (.int (0 : Int32))] [(.ref o0)])) (fun _ ks_ => XS.aloadN X0.here hx rfl (hb hby d5_114) rfl rfl ks_) ?_
          refine go (u' := s₁.setTop (mkF m 116 #[.val (.ref o0), .val (.int p1), .val (.int p2), .val (.int p3), .val (.int (0 : Int32)), .val (.int (1 : Int32)), .val (.int (0 : Int32))] [(.int (2 : Int32)), (.ref o0)])) (fun _ ks_ => XS.iconst X0.here hx rfl (hb hby d5_115) ks_) ?_
          refine go (u' := s₁.setTop (mkF m 118 #[.val (.ref o0), .val (.int p1), .val (.int p2), .val (.int p3), .val (.int (0 : Int32)), .val (.int (1 : Int32)), .val (.int (0 : Int32))] [(.int (0 : Int32)), (.int (2 : Int32)), (.ref o0)])) (fun _ ks_ => XS.iload X0.here hx rfl (hb hby d5_116) rfl  ks_) ?_
          refine go (u' := s₁.setTop (mkF m 125 #[.val (.ref o0), .val (.int p1), .val (.int p2), .val (.int p3), .val (.int (0 : Int32)), .val (.int (1 : Int32)), .val (.int (0 : Int32))] [(.int (2 : Int32)), (.ref o0)])) (fun _ ks_ => XS.ifYes X0.here hx rfl (pc0 := 118) (pc' := 125) rfl (hb hby d5_118) rfl ((if0 _ _).trans (teq (show (0 : Int32) = (0 : Int32) from (by decide))).1) (by decide) (by decide) ks_) ?_
          refine go (u' := s₁.setTop (mkF m 126 #[.val (.ref o0), .val (.int p1), .val (.int p2), .val (.int p3), .val (.int (0 : Int32)), .val (.int (1 : Int32)), .val (.int (0 : Int32))] [(.int (0 : Int32)), (.int (2 : Int32)), (.ref o0)])) (fun _ ks_ => XS.iconst X0.here hx rfl (hb hby d5_125) ks_) ?_
          obtain ⟨T55, h55, X55, e55, W55, st55⟩ := own_iastore X0 hx hZ e0 F0 (j := (2 : Int32)) (x := (0 : Int32))  (by decide) (by decide) (f := (mkF m 126 #[.val (.ref o0), .val (.int p1), .val (.int p2), .val (.int p3), .val (.int (0 : Int32)), .val (.int (1 : Int32)), .val (.int (0 : Int32))] [(.int (0 : Int32)), (.int (2 : Int32)), (.ref o0)])) rfl rfl (hb hby d5_126)
          have N55 := Fr.snoc X55 N0 g_o0
          have K55 : Keep h0 h55 [o0] := (Keep.refl h0 [o0]).wr W55 (Or.inl (List.mem_of_getElem? (i := 0) rfl))
          have Z55 : n0 ≤ h55.size := Nat.le_trans Z0 (Keep.of_wr W55).1
          have Fa56 : PI Z h55 o0 .int 3 (own_l [s0, s1, (0 : Int32)]) := F0.setL (by decide) W55 rfl (Nat.le_of_ble_eq_true rfl) rfl
          refine go (u' := T55.setTop (mkF m 127 #[.val (.ref o0), .val (.int p1), .val (.int p2), .val (.int p3), .val (.int (0 : Int32)), .val (.int (1 : Int32)), .val (.int (0 : Int32))] [])) st55 ?_
          rw [hG]
          refine g0 X55 hx hlk hret (hb hby d5_127) ?_ (Nat.le_of_ble_eq_true rfl) (Nat.le_of_ble_eq_true rfl)
          show Q_rm5 Z o0 p1 p2 p3 s0 s1 s2 h0 n0 (none) T55.heap _
          rw [e55]
          exact ⟨rfl, N55, K55, (own_Lto Fa56 (congr (congrArg List.cons (show s0 = (if p2 = (13 : Int32) then (s0 + (1 : Int32)) else (if p2 = (10 : Int32) then (if p1 = (0 : Int32) then (if s2 = (0 : Int32) then (s0 + (1 : Int32)) else s0) else (if p2 = (8232 : Int32) then (s0 + (1 : Int32)) else (if s2 = (0 : Int32) then (s0 + (1 : Int32)) else s0))) else (if p1 = (0 : Int32) then s0 else (if p2 = (133 : Int32) then (if p2 = (8232 : Int32) then (s0 + (1 : Int32)) else (if s2 = (0 : Int32) then (s0 + (1 : Int32)) else s0)) else (if p2 = (8232 : Int32) then (s0 + (1 : Int32)) else s0))))) from (((((if_neg c3_1).trans (if_pos c16_9)).trans (if_pos c38_10)).trans (if_neg c88_11))).symm)) (congr (congrArg List.cons (show s1 = (if p2 = (13 : Int32) then (1 : Int32) else (if p2 = (10 : Int32) then (if p1 = (0 : Int32) then (if s2 = (0 : Int32) then (1 : Int32) else s1) else (if p2 = (8232 : Int32) then (1 : Int32) else (if s2 = (0 : Int32) then (1 : Int32) else s1))) else (if p1 = (0 : Int32) then (s1 + p3) else (if p2 = (133 : Int32) then (if p2 = (8232 : Int32) then (1 : Int32) else (if s2 = (0 : Int32) then (1 : Int32) else s1)) else (if p2 = (8232 : Int32) then (1 : Int32) else (s1 + p3)))))) from (((((if_neg c3_1).trans (if_pos c16_9)).trans (if_pos c38_10)).trans (if_neg c88_11))).symm)) (congr (congrArg List.cons (show (0 : Int32) = (if p2 = (13 : Int32) then (1 : Int32) else (0 : Int32)) from ((if_neg c3_1)).symm)) rfl))))⟩
      ·
        refine go (u' := s₁.setTop (mkF m 41 #[.val (.ref o0), .val (.int p1), .val (.int p2), .val (.int p3), .val (.int (0 : Int32)), .val (.int (1 : Int32)), .unset] [])) (fun _ ks_ => XS.ifNo X0.here hx rfl (hb hby d5_38) rfl ((if0 _ _).trans (feq c38_10).1) ks_) ?_
        refine go (u' := s₁.setTop (mkF m 42 #[.val (.ref o0), .val (.int p1), .val (.int p2), .val (.int p3), .val (.int (0 : Int32)), .val (.int (1 : Int32)), .unset] [(.int p2)])) (fun _ ks_ => XS.iloadN X0.here hx rfl (hb hby d5_41) rfl  ks_) ?_
        refine go (u' := s₁.setTop (mkF m 45 #[.val (.ref o0), .val (.int p1), .val (.int p2), .val (.int p3), .val (.int (0 : Int32)), .val (.int (1 : Int32)), .unset] [(.int (8232 : Int32)), (.int p2)])) (fun _ ks_ => XS.sipush X0.here hx rfl (hb hby d5_42) ks_) ?_
        by_cases c45_12 : p2 = (8232 : Int32)
        ·
          refine go (u' := s₁.setTop (mkF m 48 #[.val (.ref o0), .val (.int p1), .val (.int p2), .val (.int p3), .val (.int (0 : Int32)), .val (.int (1 : Int32)), .unset] [])) (fun _ ks_ => XS.icmpNo X0.here hx rfl (hb hby d5_45) rfl (teq c45_12).2 ks_) ?_
          refine go (u' := s₁.setTop (mkF m 49 #[.val (.ref o0), .val (.int p1), .val (.int p2), .val (.int p3), .val (.int (0 : Int32)), .val (.int (1 : Int32)), .unset] [(.int (1 : Int32))])) (fun _ ks_ => XS.iconst X0.here hx rfl (hb hby d5_48) ks_) ?_
          refine go (u' := s₁.setTop (mkF m 53 #[.val (.ref o0), .val (.int p1), .val (.int p2), .val (.int p3), .val (.int (0 : Int32)), .val (.int (1 : Int32)), .unset] [(.int (1 : Int32))])) (fun _ ks_ => XS.goto X0.here hx rfl (pc0 := 49) (pc' := 53) rfl (hb hby d5_49) (by decide) (by decide) ks_) ?_
          refine go (u' := s₁.setTop (mkF m 55 #[.val (.ref o0), .val (.int p1), .val (.int p2), .val (.int p3), .val (.int (0 : Int32)), .val (.int (1 : Int32)), .val (.int (1 : Int32))] [])) (fun _ ks_ => XS.istore X0.here hx rfl (hb hby d5_53) rfl  (l' := #[.val (.ref o0), .val (.int p1), .val (.int p2), .val (.int p3), .val (.int (0 : Int32)), .val (.int (1 : Int32)), .val (.int (1 : Int32))]) rfl ks_) ?_
          refine go (u' := s₁.setTop (mkF m 57 #[.val (.ref o0), .val (.int p1), .val (.int p2), .val (.int p3), .val (.int (0 : Int32)), .val (.int (1 : Int32)), .val (.int (1 : Int32))] [(.int (0 : Int32))])) (fun _ ks_ => XS.iload X0.here hx rfl (hb hby d5_55) rfl  ks_) ?_
          refine go (u' := s₁.setTop (mkF m 60 #[.val (.ref o0), .val (.int p1), .val (.int p2), .val (.int p3), .val (.int (0 : Int32)), .val (.int (1 : Int32)), .val (.int (1 : Int32))] [])) (fun _ ks_ => XS.ifNo X0.here hx rfl (hb hby d5_57) rfl ((if0 _ _).trans (teq (show (0 : Int32) = (0 : Int32) from (by decide))).2) ks_) ?_
          refine go (u' := s₁.setTop (mkF m 62 #[.val (.ref o0), .val (.int p1), .val (.int p2), .val (.int p3), .val (.int (0 : Int32)), .val (.int (1 : Int32)), .val (.int (1 : Int32))] [(.int (1 : Int32))])) (fun _ ks_ => XS.iload X0.here hx rfl (hb hby d5_60) rfl  ks_) ?_
          refine go (u' := s₁.setTop (mkF m 65 #[.val (.ref o0), .val (.int p1), .val (.int p2), .val (.int p3), .val (.int (0 : Int32)), .val (.int (1 : Int32)), .val (.int (1 : Int32))] [])) (fun _ ks_ => XS.ifNo X0.here hx rfl (hb hby d5_62) rfl ((if0 _ _).trans (feq (show ¬ ((1 : Int32) = (0 : Int32)) from (by decide))).1) ks_) ?_
          refine go (u' := s₁.setTop (mkF m 66 #[.val (.ref o0), .val (.int p1), .val (.int p2), .val (.int p3), .val (.int (0 : Int32)), .val (.int (1 : Int32)), .val (.int (1 : Int32))] [(.ref o0)])) (fun _ ks_ => XS.aloadN X0.here hx rfl (hb hby d5_65) rfl rfl ks_) ?_
          refine go (u' := s₁.setTop (mkF m 67 #[.val (.ref o0), .val (.int p1), .val (.int p2), .val (.int p3), .val (.int (0 : Int32)), .val (.int (1 : Int32)), .val (.int (1 : Int32))] [(.int (0 : Int32)), (.ref o0)])) (fun _ ks_ => XS.iconst X0.here hx rfl (hb hby d5_66) ks_) ?_
          refine go (u' := s₁.setTop (mkF m 68 #[.val (.ref o0), .val (.int p1), .val (.int p2), .val (.int p3), .val (.int (0 : Int32)), .val (.int (1 : Int32)), .val (.int (1 : Int32))] [(.ref o0), (.int (0 : Int32)), (.ref o0)])) (fun _ ks_ => XS.aloadN X0.here hx rfl (hb hby d5_67) rfl rfl ks_) ?_
          refine go (u' := s₁.setTop (mkF m 69 #[.val (.ref o0), .val (.int p1), .val (.int p2), .val (.int p3), .val (.int (0 : Int32)), .val (.int (1 : Int32)), .val (.int (1 : Int32))] [(.int (0 : Int32)), (.ref o0), (.int (0 : Int32)), (.ref o0)])) (fun _ ks_ => XS.iconst X0.here hx rfl (hb hby d5_68) ks_) ?_
          refine go (u' := s₁.setTop (mkF m 70 #[.val (.ref o0), .val (.int p1), .val (.int p2), .val (.int p3), .val (.int (0 : Int32)), .val (.int (1 : Int32)), .val (.int (1 : Int32))] [(.int s0), (.int (0 : Int32)), (.ref o0)])) (own_iaload X0 hx hZ e0 F0 (j := (0 : Int32)) (v := s0) (by decide) (by decide) rfl (f := (mkF m 69 #[.val (.ref o0), .val (.int p1), .val (.int p2), .val (.int p3), .val (.int (0 : Int32)), .val (.int (1 : Int32)), .val (.int (1 : Int32))] [(.int (0 : Int32)), (.ref o0), (.int (0 : Int32)), (.ref o0)])) rfl rfl (hb hby d5_69)) ?_
          refine go (u' := s₁.setTop (mkF m 71 #[.val (.ref o0), .val (.int p1), .val (.int p2), .val (.int p3), .val (.int (0 : Int32)), .val (.int (1 : Int32)), .val (.int (1 : Int32))] [(.int (1 : Int32)), (.int s0), (.int (0 : Int32)), (.ref o0)])) (fun _ ks_ => XS.iconst X0.here hx rfl (hb hby d5_70) ks_) ?_
          refine go (u' := s₁.setTop (mkF m 72 #[.val (.ref o0), .val (.int p1), .val (.int p2), .val (.int p3), .val (.int (0 : Int32)), .val (.int (1 : Int32)), .val (.int (1 : Int32))] [(.int (s0 + (1 : Int32))), (.int (0 : Int32)), (.ref o0)])) (fun _ ks_ => XS.iadd X0.here hx rfl (hb hby d5_71) rfl ks_) ?_
          obtain ⟨T57, h57, X57, e57, W57, st57⟩ := own_iastore X0 hx hZ e0 F0 (j := (0 : Int32)) (x := (s0 + (1 : Int32)))  (by decide) (by decide) (f := (mkF m 72 #[.val (.ref o0), .val (.int p1), .val (.int p2), .val (.int p3), .val (.int (0 : Int32)), .val (.int (1 : Int32)), .val (.int (1 : Int32))] [(.int (s0 + (1 : Int32))), (.int (0 : Int32)), (.ref o0)])) rfl rfl (hb hby d5_72)
          have N57 := Fr.snoc X57 N0 g_o0
          have K57 : Keep h0 h57 [o0] := (Keep.refl h0 [o0]).wr W57 (Or.inl (List.mem_of_getElem? (i := 0) rfl))
          have Z57 : n0 ≤ h57.size := Nat.le_trans Z0 (Keep.of_wr W57).1
          have Fa58 : PI Z h57 o0 .int 3 (own_l [(s0 + (1 : Int32)), s1, s2]) := F0.setL (by decide) W57 rfl (Nat.le_of_ble_eq_true rfl) rfl
          refine go (u' := T57.setTop (mkF m 73 #[.val (.ref o0), .val (.int p1), .val (.int p2), .val (.int p3), .val (.int (0 : Int32)), .val (.int (1 : Int32)), .val (.int (1 : Int32))] [])) st57 ?_
          refine go (u' := T57.setTop (mkF m 74 #[.val (.ref o0), .val (.int p1), .val (.int p2), .val (.int p3), .val (.int (0 : Int32)), .val (.int (1 : Int32)), .val (.int (1 : Int32))] [(.ref o0)])) (fun _ ks_ => XS.aloadN X57.here hx rfl (hb hby d5_73) rfl rfl ks_) ?_
          refine go (u' := T57.setTop (mkF m 75 #[.val (.ref o0), .val (.int p1), .val (.int p2), .val (.int p3), .val (.int (0 : Int32)), .val (.int (1 : Int32)), .val (.int (1 : Int32))] [(.int (1 : Int32)), (.ref o0)])) (fun _ ks_ => XS.iconst X57.here hx rfl (hb hby d5_74) ks_) ?_
          refine go (u' := T57.setTop (mkF m 76 #[.val (.ref o0), .val (.int p1), .val (.int p2), .val (.int p3), .val (.int (0 : Int32)), .val (.int (1 : Int32)), .val (.int (1 : Int32))] [(.int (1 : Int32)), (.int (1 : Int32)), (.ref o0)])) (fun _ ks_ => XS.iconst X57.here hx rfl (hb hby d5_75) ks_) ?_
          obtain ⟨T59, h59, X59, e59, W59, st59⟩ := own_iastore X57 hx hZ e57 Fa58 (j := (1 : Int32)) (x := (1 : Int32))  (by decide) (by decide) (f := (mkF m 76 #[.val (.ref o0), .val (.int p1), .val (.int p2), .val (.int p3), .val (.int (0 : Int32)), .val (.int (1 : Int32)), .val (.int (1 : Int32))] [(.int (1 : Int32)), (.int (1 : Int32)), (.ref o0)])) rfl rfl (hb hby d5_76)
          have N59 := Fr.snoc X59 N57 g_o0
          have K59 : Keep h0 h59 [o0] := K57.wr W59 (Or.inl (List.mem_of_getElem? (i := 0) rfl))
          have Z59 : n0 ≤ h59.size := Nat.le_trans Z57 (Keep.of_wr W59).1
          have Fa60 : PI Z h59 o0 .int 3 (own_l [(s0 + (1 : Int32)), (1 : Int32), s2]) := Fa58.setL (by decide) W59 rfl (Nat.le_of_ble_eq_true rfl) rfl
          refine go (u' := T59.setTop (mkF m 77 #[.val (.ref o0), .val (.int p1), .val (.int p2), .val (.int p3), .val (.int (0 : Int32)), .val (.int (1 : Int32)), .val (.int (1 : Int32))] [])) st59 ?_
          refine go (u' := T59.setTop (mkF m 114 #[.val (.ref o0), .val (.int p1), .val (.int p2), .val (.int p3), .val (.int (0 : Int32)), .val (.int (1 : Int32)), .val (.int (1 : Int32))] [])) (fun _ ks_ => XS.goto X59.here hx rfl (pc0 := 77) (pc' := 114) rfl (hb hby d5_77) (by decide) (by decide) ks_) ?_
          refine go (u' := T59.setTop (mkF m 115 #[.val (.ref o0), .val (.int p1), .val (.int p2), .val (.int p3), .val (.int (0 : Int32)), .val (.int (1 : Int32)), .val (.int (1 : Int32))] [(.ref o0)])) (fun _ ks_ => XS.aloadN X59.here hx rfl (hb hby d5_114) rfl rfl ks_) ?_
          refine go (u' := T59.setTop (mkF m 116 #[.val (.ref o0), .val (.int p1), .val (.int p2), .val (.int p3), .val (.int (0 : Int32)), .val (.int (1 : Int32)), .val (.int (1 : Int32))] [(.int (2 : Int32)), (.ref o0)])) (fun _ ks_ => XS.iconst X59.here hx rfl (hb hby d5_115) ks_) ?_
          refine go (u' := T59.setTop (mkF m 118 #[.val (.ref o0), .val (.int p1), .val (.int p2), .val (.int p3), .val (.int (0 : Int32)), .val (.int (1 : Int32)), .val (.int (1 : Int32))] [(.int (0 : Int32)), (.int (2 : Int32)), (.ref o0)])) (fun _ ks_ => XS.iload X59.here hx rfl (hb hby d5_116) rfl  ks_) ?_
          refine go (u' := T59.setTop (mkF m 125 #[.val (.ref o0), .val (.int p1), .val (.int p2), .val (.int p3), .val (.int (0 : Int32)), .val (.int (1 : Int32)), .val (.int (1 : Int32))] [(.int (2 : Int32)), (.ref o0)])) (fun _ ks_ => XS.ifYes X59.here hx rfl (pc0 := 118) (pc' := 125) rfl (hb hby d5_118) rfl ((if0 _ _).trans (teq (show (0 : Int32) = (0 : Int32) from (by decide))).1) (by decide) (by decide) ks_) ?_
          refine go (u' := T59.setTop (mkF m 126 #[.val (.ref o0), .val (.int p1), .val (.int p2), .val (.int p3), .val (.int (0 : Int32)), .val (.int (1 : Int32)), .val (.int (1 : Int32))] [(.int (0 : Int32)), (.int (2 : Int32)), (.ref o0)])) (fun _ ks_ => XS.iconst X59.here hx rfl (hb hby d5_125) ks_) ?_
          obtain ⟨T61, h61, X61, e61, W61, st61⟩ := own_iastore X59 hx hZ e59 Fa60 (j := (2 : Int32)) (x := (0 : Int32))  (by decide) (by decide) (f := (mkF m 126 #[.val (.ref o0), .val (.int p1), .val (.int p2), .val (.int p3), .val (.int (0 : Int32)), .val (.int (1 : Int32)), .val (.int (1 : Int32))] [(.int (0 : Int32)), (.int (2 : Int32)), (.ref o0)])) rfl rfl (hb hby d5_126)
          have N61 := Fr.snoc X61 N59 g_o0
          have K61 : Keep h0 h61 [o0] := K59.wr W61 (Or.inl (List.mem_of_getElem? (i := 0) rfl))
          have Z61 : n0 ≤ h61.size := Nat.le_trans Z59 (Keep.of_wr W61).1
          have Fa62 : PI Z h61 o0 .int 3 (own_l [(s0 + (1 : Int32)), (1 : Int32), (0 : Int32)]) := Fa60.setL (by decide) W61 rfl (Nat.le_of_ble_eq_true rfl) rfl
          refine go (u' := T61.setTop (mkF m 127 #[.val (.ref o0), .val (.int p1), .val (.int p2), .val (.int p3), .val (.int (0 : Int32)), .val (.int (1 : Int32)), .val (.int (1 : Int32))] [])) st61 ?_
          rw [hG]
          refine g0 X61 hx hlk hret (hb hby d5_127) ?_ (Nat.le_of_ble_eq_true rfl) (Nat.le_of_ble_eq_true rfl)
          show Q_rm5 Z o0 p1 p2 p3 s0 s1 s2 h0 n0 (none) T61.heap _
          rw [e61]
          exact ⟨rfl, N61, K61, (own_Lto Fa62 (congr (congrArg List.cons (show (s0 + (1 : Int32)) = (if p2 = (13 : Int32) then (s0 + (1 : Int32)) else (if p2 = (10 : Int32) then (if p1 = (0 : Int32) then (if s2 = (0 : Int32) then (s0 + (1 : Int32)) else s0) else (if p2 = (8232 : Int32) then (s0 + (1 : Int32)) else (if s2 = (0 : Int32) then (s0 + (1 : Int32)) else s0))) else (if p1 = (0 : Int32) then s0 else (if p2 = (133 : Int32) then (if p2 = (8232 : Int32) then (s0 + (1 : Int32)) else (if s2 = (0 : Int32) then (s0 + (1 : Int32)) else s0)) else (if p2 = (8232 : Int32) then (s0 + (1 : Int32)) else s0))))) from (((((if_neg c3_1).trans (if_pos c16_9)).trans (if_neg c38_10)).trans (if_pos c45_12))).symm)) (congr (congrArg List.cons (show (1 : Int32) = (if p2 = (13 : Int32) then (1 : Int32) else (if p2 = (10 : Int32) then (if p1 = (0 : Int32) then (if s2 = (0 : Int32) then (1 : Int32) else s1) else (if p2 = (8232 : Int32) then (1 : Int32) else (if s2 = (0 : Int32) then (1 : Int32) else s1))) else (if p1 = (0 : Int32) then (s1 + p3) else (if p2 = (133 : Int32) then (if p2 = (8232 : Int32) then (1 : Int32) else (if s2 = (0 : Int32) then (1 : Int32) else s1)) else (if p2 = (8232 : Int32) then (1 : Int32) else (s1 + p3)))))) from (((((if_neg c3_1).trans (if_pos c16_9)).trans (if_neg c38_10)).trans (if_pos c45_12))).symm)) (congr (congrArg List.cons (show (0 : Int32) = (if p2 = (13 : Int32) then (1 : Int32) else (0 : Int32)) from ((if_neg c3_1)).symm)) rfl))))⟩
        ·
          refine go (u' := s₁.setTop (mkF m 52 #[.val (.ref o0), .val (.int p1), .val (.int p2), .val (.int p3), .val (.int (0 : Int32)), .val (.int (1 : Int32)), .unset] [])) (fun _ ks_ => XS.icmpYes X0.here hx rfl (pc0 := 45) (pc' := 52) rfl (hb hby d5_45) rfl (feq c45_12).2 (by decide) (by decide) ks_) ?_
          refine go (u' := s₁.setTop (mkF m 53 #[.val (.ref o0), .val (.int p1), .val (.int p2), .val (.int p3), .val (.int (0 : Int32)), .val (.int (1 : Int32)), .unset] [(.int (0 : Int32))])) (fun _ ks_ => XS.iconst X0.here hx rfl (hb hby d5_52) ks_) ?_
          refine go (u' := s₁.setTop (mkF m 55 #[.val (.ref o0), .val (.int p1), .val (.int p2), .val (.int p3), .val (.int (0 : Int32)), .val (.int (1 : Int32)), .val (.int (0 : Int32))] [])) (fun _ ks_ => XS.istore X0.here hx rfl (hb hby d5_53) rfl  (l' := #[.val (.ref o0), .val (.int p1), .val (.int p2), .val (.int p3), .val (.int (0 : Int32)), .val (.int (1 : Int32)), .val (.int (0 : Int32))]) rfl ks_) ?_
          refine go (u' := s₁.setTop (mkF m 57 #[.val (.ref o0), .val (.int p1), .val (.int p2), .val (.int p3), .val (.int (0 : Int32)), .val (.int (1 : Int32)), .val (.int (0 : Int32))] [(.int (0 : Int32))])) (fun _ ks_ => XS.iload X0.here hx rfl (hb hby d5_55) rfl  ks_) ?_
          refine go (u' := s₁.setTop (mkF m 60 #[.val (.ref o0), .val (.int p1), .val (.int p2), .val (.int p3), .val (.int (0 : Int32)), .val (.int (1 : Int32)), .val (.int (0 : Int32))] [])) (fun _ ks_ => XS.ifNo X0.here hx rfl (hb hby d5_57) rfl ((if0 _ _).trans (teq (show (0 : Int32) = (0 : Int32) from (by decide))).2) ks_) ?_
          refine go (u' := s₁.setTop (mkF m 62 #[.val (.ref o0), .val (.int p1), .val (.int p2), .val (.int p3), .val (.int (0 : Int32)), .val (.int (1 : Int32)), .val (.int (0 : Int32))] [(.int (0 : Int32))])) (fun _ ks_ => XS.iload X0.here hx rfl (hb hby d5_60) rfl  ks_) ?_
          refine go (u' := s₁.setTop (mkF m 80 #[.val (.ref o0), .val (.int p1), .val (.int p2), .val (.int p3), .val (.int (0 : Int32)), .val (.int (1 : Int32)), .val (.int (0 : Int32))] [])) (fun _ ks_ => XS.ifYes X0.here hx rfl (pc0 := 62) (pc' := 80) rfl (hb hby d5_62) rfl ((if0 _ _).trans (teq (show (0 : Int32) = (0 : Int32) from (by decide))).1) (by decide) (by decide) ks_) ?_
          refine go (u' := s₁.setTop (mkF m 82 #[.val (.ref o0), .val (.int p1), .val (.int p2), .val (.int p3), .val (.int (0 : Int32)), .val (.int (1 : Int32)), .val (.int (0 : Int32))] [(.int (1 : Int32))])) (fun _ ks_ => XS.iload X0.here hx rfl (hb hby d5_80) rfl  ks_) ?_
          refine go (u' := s₁.setTop (mkF m 85 #[.val (.ref o0), .val (.int p1), .val (.int p2), .val (.int p3), .val (.int (0 : Int32)), .val (.int (1 : Int32)), .val (.int (0 : Int32))] [])) (fun _ ks_ => XS.ifNo X0.here hx rfl (hb hby d5_82) rfl ((if0 _ _).trans (feq (show ¬ ((1 : Int32) = (0 : Int32)) from (by decide))).1) ks_) ?_
          refine go (u' := s₁.setTop (mkF m 86 #[.val (.ref o0), .val (.int p1), .val (.int p2), .val (.int p3), .val (.int (0 : Int32)), .val (.int (1 : Int32)), .val (.int (0 : Int32))] [(.ref o0)])) (fun _ ks_ => XS.aloadN X0.here hx rfl (hb hby d5_85) rfl rfl ks_) ?_
          refine go (u' := s₁.setTop (mkF m 87 #[.val (.ref o0), .val (.int p1), .val (.int p2), .val (.int p3), .val (.int (0 : Int32)), .val (.int (1 : Int32)), .val (.int (0 : Int32))] [(.int (2 : Int32)), (.ref o0)])) (fun _ ks_ => XS.iconst X0.here hx rfl (hb hby d5_86) ks_) ?_
          refine go (u' := s₁.setTop (mkF m 88 #[.val (.ref o0), .val (.int p1), .val (.int p2), .val (.int p3), .val (.int (0 : Int32)), .val (.int (1 : Int32)), .val (.int (0 : Int32))] [(.int s2)])) (own_iaload X0 hx hZ e0 F0 (j := (2 : Int32)) (v := s2) (by decide) (by decide) rfl (f := (mkF m 87 #[.val (.ref o0), .val (.int p1), .val (.int p2), .val (.int p3), .val (.int (0 : Int32)), .val (.int (1 : Int32)), .val (.int (0 : Int32))] [(.int (2 : Int32)), (.ref o0)])) rfl rfl (hb hby d5_87)) ?_
          by_cases c88_13 : s2 = (0 : Int32)
          ·
            refine go (u' := s₁.setTop (mkF m 91 #[.val (.ref o0), .val (.int p1), .val (.int p2), .val (.int p3), .val (.int (0 : Int32)), .val (.int (1 : Int32)), .val (.int (0 : Int32))] [])) (fun _ ks_ => XS.ifNo X0.here hx rfl (hb hby d5_88) rfl ((if0 _ _).trans (teq c88_13).2) ks_) ?_
            refine go (u' := s₁.setTop (mkF m 92 #[.val (.ref o0), .val (.int p1), .val (.int p2), .val (.int p3), .val (.int (0 : Int32)), .val (.int (1 : Int32)), .val (.int (0 : Int32))] [(.ref o0)])) (fun _ ks_ => XS.aloadN X0.here hx rfl (hb hby d5_91) rfl rfl ks_) ?_
            refine go (u' := s₁.setTop (mkF m 93 #[.val (.ref o0), .val (.int p1), .val (.int p2), .val (.int p3), .val (.int (0 : Int32)), .val (.int (1 : Int32)), .val (.int (0 : Int32))] [(.int (0 : Int32)), (.ref o0)])) (fun _ ks_ => XS.iconst X0.here hx rfl (hb hby d5_92) ks_) ?_
            refine go (u' := s₁.setTop (mkF m 94 #[.val (.ref o0), .val (.int p1), .val (.int p2), .val (.int p3), .val (.int (0 : Int32)), .val (.int (1 : Int32)), .val (.int (0 : Int32))] [(.ref o0), (.int (0 : Int32)), (.ref o0)])) (fun _ ks_ => XS.aloadN X0.here hx rfl (hb hby d5_93) rfl rfl ks_) ?_
            refine go (u' := s₁.setTop (mkF m 95 #[.val (.ref o0), .val (.int p1), .val (.int p2), .val (.int p3), .val (.int (0 : Int32)), .val (.int (1 : Int32)), .val (.int (0 : Int32))] [(.int (0 : Int32)), (.ref o0), (.int (0 : Int32)), (.ref o0)])) (fun _ ks_ => XS.iconst X0.here hx rfl (hb hby d5_94) ks_) ?_
            refine go (u' := s₁.setTop (mkF m 96 #[.val (.ref o0), .val (.int p1), .val (.int p2), .val (.int p3), .val (.int (0 : Int32)), .val (.int (1 : Int32)), .val (.int (0 : Int32))] [(.int s0), (.int (0 : Int32)), (.ref o0)])) (own_iaload X0 hx hZ e0 F0 (j := (0 : Int32)) (v := s0) (by decide) (by decide) rfl (f := (mkF m 95 #[.val (.ref o0), .val (.int p1), .val (.int p2), .val (.int p3), .val (.int (0 : Int32)), .val (.int (1 : Int32)), .val (.int (0 : Int32))] [(.int (0 : Int32)), (.ref o0), (.int (0 : Int32)), (.ref o0)])) rfl rfl (hb hby d5_95)) ?_
            refine go (u' := s₁.setTop (mkF m 97 #[.val (.ref o0), .val (.int p1), .val (.int p2), .val (.int p3), .val (.int (0 : Int32)), .val (.int (1 : Int32)), .val (.int (0 : Int32))] [(.int (1 : Int32)), (.int s0), (.int (0 : Int32)), (.ref o0)])) (fun _ ks_ => XS.iconst X0.here hx rfl (hb hby d5_96) ks_) ?_
            refine go (u' := s₁.setTop (mkF m 98 #[.val (.ref o0), .val (.int p1), .val (.int p2), .val (.int p3), .val (.int (0 : Int32)), .val (.int (1 : Int32)), .val (.int (0 : Int32))] [(.int (s0 + (1 : Int32))), (.int (0 : Int32)), (.ref o0)])) (fun _ ks_ => XS.iadd X0.here hx rfl (hb hby d5_97) rfl ks_) ?_
            obtain ⟨T63, h63, X63, e63, W63, st63⟩ := own_iastore X0 hx hZ e0 F0 (j := (0 : Int32)) (x := (s0 + (1 : Int32)))  (by decide) (by decide) (f := (mkF m 98 #[.val (.ref o0), .val (.int p1), .val (.int p2), .val (.int p3), .val (.int (0 : Int32)), .val (.int (1 : Int32)), .val (.int (0 : Int32))] [(.int (s0 + (1 : Int32))), (.int (0 : Int32)), (.ref o0)])) rfl rfl (hb hby d5_98)
            have N63 := Fr.snoc X63 N0 g_o0
            have K63 : Keep h0 h63 [o0] := (Keep.refl h0 [o0]).wr W63 (Or.inl (List.mem_of_getElem? (i := 0) rfl))
            have Z63 : n0 ≤ h63.size := Nat.le_trans Z0 (Keep.of_wr W63).1
            have Fa64 : PI Z h63 o0 .int 3 (own_l [(s0 + (1 : Int32)), s1, s2]) := F0.setL (by decide) W63 rfl (Nat.le_of_ble_eq_true rfl) rfl
            refine go (u' := T63.setTop (mkF m 99 #[.val (.ref o0), .val (.int p1), .val (.int p2), .val (.int p3), .val (.int (0 : Int32)), .val (.int (1 : Int32)), .val (.int (0 : Int32))] [])) st63 ?_
            refine go (u' := T63.setTop (mkF m 100 #[.val (.ref o0), .val (.int p1), .val (.int p2), .val (.int p3), .val (.int (0 : Int32)), .val (.int (1 : Int32)), .val (.int (0 : Int32))] [(.ref o0)])) (fun _ ks_ => XS.aloadN X63.here hx rfl (hb hby d5_99) rfl rfl ks_) ?_
            refine go (u' := T63.setTop (mkF m 101 #[.val (.ref o0), .val (.int p1), .val (.int p2), .val (.int p3), .val (.int (0 : Int32)), .val (.int (1 : Int32)), .val (.int (0 : Int32))] [(.int (1 : Int32)), (.ref o0)])) (fun _ ks_ => XS.iconst X63.here hx rfl (hb hby d5_100) ks_) ?_
            refine go (u' := T63.setTop (mkF m 102 #[.val (.ref o0), .val (.int p1), .val (.int p2), .val (.int p3), .val (.int (0 : Int32)), .val (.int (1 : Int32)), .val (.int (0 : Int32))] [(.int (1 : Int32)), (.int (1 : Int32)), (.ref o0)])) (fun _ ks_ => XS.iconst X63.here hx rfl (hb hby d5_101) ks_) ?_
            obtain ⟨T65, h65, X65, e65, W65, st65⟩ := own_iastore X63 hx hZ e63 Fa64 (j := (1 : Int32)) (x := (1 : Int32))  (by decide) (by decide) (f := (mkF m 102 #[.val (.ref o0), .val (.int p1), .val (.int p2), .val (.int p3), .val (.int (0 : Int32)), .val (.int (1 : Int32)), .val (.int (0 : Int32))] [(.int (1 : Int32)), (.int (1 : Int32)), (.ref o0)])) rfl rfl (hb hby d5_102)
            have N65 := Fr.snoc X65 N63 g_o0
            have K65 : Keep h0 h65 [o0] := K63.wr W65 (Or.inl (List.mem_of_getElem? (i := 0) rfl))
            have Z65 : n0 ≤ h65.size := Nat.le_trans Z63 (Keep.of_wr W65).1
            have Fa66 : PI Z h65 o0 .int 3 (own_l [(s0 + (1 : Int32)), (1 : Int32), s2]) := Fa64.setL (by decide) W65 rfl (Nat.le_of_ble_eq_true rfl) rfl
            refine go (u' := T65.setTop (mkF m 103 #[.val (.ref o0), .val (.int p1), .val (.int p2), .val (.int p3), .val (.int (0 : Int32)), .val (.int (1 : Int32)), .val (.int (0 : Int32))] [])) st65 ?_
            refine go (u' := T65.setTop (mkF m 114 #[.val (.ref o0), .val (.int p1), .val (.int p2), .val (.int p3), .val (.int (0 : Int32)), .val (.int (1 : Int32)), .val (.int (0 : Int32))] [])) (fun _ ks_ => XS.goto X65.here hx rfl (pc0 := 103) (pc' := 114) rfl (hb hby d5_103) (by decide) (by decide) ks_) ?_
            refine go (u' := T65.setTop (mkF m 115 #[.val (.ref o0), .val (.int p1), .val (.int p2), .val (.int p3), .val (.int (0 : Int32)), .val (.int (1 : Int32)), .val (.int (0 : Int32))] [(.ref o0)])) (fun _ ks_ => XS.aloadN X65.here hx rfl (hb hby d5_114) rfl rfl ks_) ?_
            refine go (u' := T65.setTop (mkF m 116 #[.val (.ref o0), .val (.int p1), .val (.int p2), .val (.int p3), .val (.int (0 : Int32)), .val (.int (1 : Int32)), .val (.int (0 : Int32))] [(.int (2 : Int32)), (.ref o0)])) (fun _ ks_ => XS.iconst X65.here hx rfl (hb hby d5_115) ks_) ?_
            refine go (u' := T65.setTop (mkF m 118 #[.val (.ref o0), .val (.int p1), .val (.int p2), .val (.int p3), .val (.int (0 : Int32)), .val (.int (1 : Int32)), .val (.int (0 : Int32))] [(.int (0 : Int32)), (.int (2 : Int32)), (.ref o0)])) (fun _ ks_ => XS.iload X65.here hx rfl (hb hby d5_116) rfl  ks_) ?_
            refine go (u' := T65.setTop (mkF m 125 #[.val (.ref o0), .val (.int p1), .val (.int p2), .val (.int p3), .val (.int (0 : Int32)), .val (.int (1 : Int32)), .val (.int (0 : Int32))] [(.int (2 : Int32)), (.ref o0)])) (fun _ ks_ => XS.ifYes X65.here hx rfl (pc0 := 118) (pc' := 125) rfl (hb hby d5_118) rfl ((if0 _ _).trans (teq (show (0 : Int32) = (0 : Int32) from (by decide))).1) (by decide) (by decide) ks_) ?_
            refine go (u' := T65.setTop (mkF m 126 #[.val (.ref o0), .val (.int p1), .val (.int p2), .val (.int p3), .val (.int (0 : Int32)), .val (.int (1 : Int32)), .val (.int (0 : Int32))] [(.int (0 : Int32)), (.int (2 : Int32)), (.ref o0)])) (fun _ ks_ => XS.iconst X65.here hx rfl (hb hby d5_125) ks_) ?_
            obtain ⟨T67, h67, X67, e67, W67, st67⟩ := own_iastore X65 hx hZ e65 Fa66 (j := (2 : Int32)) (x := (0 : Int32))  (by decide) (by decide) (f := (mkF m 126 #[.val (.ref o0), .val (.int p1), .val (.int p2), .val (.int p3), .val (.int (0 : Int32)), .val (.int (1 : Int32)), .val (.int (0 : Int32))] [(.int (0 : Int32)), (.int (2 : Int32)), (.ref o0)])) rfl rfl (hb hby d5_126)
            have N67 := Fr.snoc X67 N65 g_o0
            have K67 : Keep h0 h67 [o0] := K65.wr W67 (Or.inl (List.mem_of_getElem? (i := 0) rfl))
            have Z67 : n0 ≤ h67.size := Nat.le_trans Z65 (Keep.of_wr W67).1
            have Fa68 : PI Z h67 o0 .int 3 (own_l [(s0 + (1 : Int32)), (1 : Int32), (0 : Int32)]) := Fa66.setL (by decide) W67 rfl (Nat.le_of_ble_eq_true rfl) rfl
            refine go (u' := T67.setTop (mkF m 127 #[.val (.ref o0), .val (.int p1), .val (.int p2), .val (.int p3), .val (.int (0 : Int32)), .val (.int (1 : Int32)), .val (.int (0 : Int32))] [])) st67 ?_
            rw [hG]
            refine g0 X67 hx hlk hret (hb hby d5_127) ?_ (Nat.le_of_ble_eq_true rfl) (Nat.le_of_ble_eq_true rfl)
            show Q_rm5 Z o0 p1 p2 p3 s0 s1 s2 h0 n0 (none) T67.heap _
            rw [e67]
            exact ⟨rfl, N67, K67, (own_Lto Fa68 (congr (congrArg List.cons (show (s0 + (1 : Int32)) = (if p2 = (13 : Int32) then (s0 + (1 : Int32)) else (if p2 = (10 : Int32) then (if p1 = (0 : Int32) then (if s2 = (0 : Int32) then (s0 + (1 : Int32)) else s0) else (if p2 = (8232 : Int32) then (s0 + (1 : Int32)) else (if s2 = (0 : Int32) then (s0 + (1 : Int32)) else s0))) else (if p1 = (0 : Int32) then s0 else (if p2 = (133 : Int32) then (if p2 = (8232 : Int32) then (s0 + (1 : Int32)) else (if s2 = (0 : Int32) then (s0 + (1 : Int32)) else s0)) else (if p2 = (8232 : Int32) then (s0 + (1 : Int32)) else s0))))) from ((((((if_neg c3_1).trans (if_pos c16_9)).trans (if_neg c38_10)).trans (if_neg c45_12)).trans (if_pos c88_13))).symm)) (congr (congrArg List.cons (show (1 : Int32) = (if p2 = (13 : Int32) then (1 : Int32) else (if p2 = (10 : Int32) then (if p1 = (0 : Int32) then (if s2 = (0 : Int32) then (1 : Int32) else s1) else (if p2 = (8232 : Int32) then (1 : Int32) else (if s2 = (0 : Int32) then (1 : Int32) else s1))) else (if p1 = (0 : Int32) then (s1 + p3) else (if p2 = (133 : Int32) then (if p2 = (8232 : Int32) then (1 : Int32) else (if s2 = (0 : Int32) then (1 : Int32) else s1)) else (if p2 = (8232 : Int32) then (1 : Int32) else (s1 + p3)))))) from ((((((if_neg c3_1).trans (if_pos c16_9)).trans (if_neg c38_10)).trans (if_neg c45_12)).trans (if_pos c88_13))).symm)) (congr (congrArg List.cons (show (0 : Int32) = (if p2 = (13 : Int32) then (1 : Int32) else (0 : Int32)) from ((if_neg c3_1)).symm)) rfl))))⟩
          ·
            refine go (u' := s₁.setTop (mkF m 114 #[.val (.ref o0), .val (.int p1), .val (.int p2), .val (.int p3), .val (.int (0 : Int32)), .val (.int (1 : Int32)), .val (.int (0 : Int32))] [])) (fun _ ks_ => XS.ifYes X0.here hx rfl (pc0 := 88) (pc' := 114) rfl (hb hby d5_88) rfl ((if0 _ _).trans (feq c88_13).2) (by decide) (by decide) ks_) ?_
            refine go (u' := s₁.setTop (mkF m 115 #[.val (.ref o0), .val (.int p1), .val (.int p2), .val (.int p3), .val (.int (0 : Int32)), .val (.int (1 : Int32)), .val (.int (0 : Int32))] [(.ref o0)])) (fun _ ks_ => XS.aloadN X0.here hx rfl (hb hby d5_114) rfl rfl ks_) ?_
            refine go (u' := s₁.setTop (mkF m 116 #[.val (.ref o0), .val (.int p1), .val (.int p2), .val (.int p3), .val (.int (0 : Int32)), .val (.int (1 : Int32)), .val (.int (0 : Int32))] [(.int (2 : Int32)), (.ref o0)])) (fun _ ks_ => XS.iconst X0.here hx rfl (hb hby d5_115) ks_) ?_
            refine go (u' := s₁.setTop (mkF m 118 #[.val (.ref o0), .val (.int p1), .val (.int p2), .val (.int p3), .val (.int (0 : Int32)), .val (.int (1 : Int32)), .val (.int (0 : Int32))] [(.int (0 : Int32)), (.int (2 : Int32)), (.ref o0)])) (fun _ ks_ => XS.iload X0.here hx rfl (hb hby d5_116) rfl  ks_) ?_
            refine go (u' := s₁.setTop (mkF m 125 #[.val (.ref o0), .val (.int p1), .val (.int p2), .val (.int p3), .val (.int (0 : Int32)), .val (.int (1 : Int32)), .val (.int (0 : Int32))] [(.int (2 : Int32)), (.ref o0)])) (fun _ ks_ => XS.ifYes X0.here hx rfl (pc0 := 118) (pc' := 125) rfl (hb hby d5_118) rfl ((if0 _ _).trans (teq (show (0 : Int32) = (0 : Int32) from (by decide))).1) (by decide) (by decide) ks_) ?_
            refine go (u' := s₁.setTop (mkF m 126 #[.val (.ref o0), .val (.int p1), .val (.int p2), .val (.int p3), .val (.int (0 : Int32)), .val (.int (1 : Int32)), .val (.int (0 : Int32))] [(.int (0 : Int32)), (.int (2 : Int32)), (.ref o0)])) (fun _ ks_ => XS.iconst X0.here hx rfl (hb hby d5_125) ks_) ?_
            obtain ⟨T69, h69, X69, e69, W69, st69⟩ := own_iastore X0 hx hZ e0 F0 (j := (2 : Int32)) (x := (0 : Int32))  (by decide) (by decide) (f := (mkF m 126 #[.val (.ref o0), .val (.int p1), .val (.int p2), .val (.int p3), .val (.int (0 : Int32)), .val (.int (1 : Int32)), .val (.int (0 : Int32))] [(.int (0 : Int32)), (.int (2 : Int32)), (.ref o0)])) rfl rfl (hb hby d5_126)
            have N69 := Fr.snoc X69 N0 g_o0
            have K69 : Keep h0 h69 [o0] := (Keep.refl h0 [o0]).wr W69 (Or.inl (List.mem_of_getElem? (i := 0) rfl))
            have Z69 : n0 ≤ h69.size := Nat.le_trans Z0 (Keep.of_wr W69).1
            have Fa70 : PI Z h69 o0 .int 3 (own_l [s0, s1, (0 : Int32)]) := F0.setL (by decide) W69 rfl (Nat.le_of_ble_eq_true rfl) rfl
            refine go (u' := T69.setTop (mkF m 127 #[.val (.ref o0), .val (.int p1), .val (.int p2), .val (.int p3), .val (.int (0 : Int32)), .val (.int (1 : Int32)), .val (.int (0 : Int32))] [])) st69 ?_
            rw [hG]
            refine g0 X69 hx hlk hret (hb hby d5_127) ?_ (Nat.le_of_ble_eq_true rfl) (Nat.le_of_ble_eq_true rfl)
            show Q_rm5 Z o0 p1 p2 p3 s0 s1 s2 h0 n0 (none) T69.heap _
            rw [e69]
            exact ⟨rfl, N69, K69, (own_Lto Fa70 (congr (congrArg List.cons (show s0 = (if p2 = (13 : Int32) then (s0 + (1 : Int32)) else (if p2 = (10 : Int32) then (if p1 = (0 : Int32) then (if s2 = (0 : Int32) then (s0 + (1 : Int32)) else s0) else (if p2 = (8232 : Int32) then (s0 + (1 : Int32)) else (if s2 = (0 : Int32) then (s0 + (1 : Int32)) else s0))) else (if p1 = (0 : Int32) then s0 else (if p2 = (133 : Int32) then (if p2 = (8232 : Int32) then (s0 + (1 : Int32)) else (if s2 = (0 : Int32) then (s0 + (1 : Int32)) else s0)) else (if p2 = (8232 : Int32) then (s0 + (1 : Int32)) else s0))))) from ((((((if_neg c3_1).trans (if_pos c16_9)).trans (if_neg c38_10)).trans (if_neg c45_12)).trans (if_neg c88_13))).symm)) (congr (congrArg List.cons (show s1 = (if p2 = (13 : Int32) then (1 : Int32) else (if p2 = (10 : Int32) then (if p1 = (0 : Int32) then (if s2 = (0 : Int32) then (1 : Int32) else s1) else (if p2 = (8232 : Int32) then (1 : Int32) else (if s2 = (0 : Int32) then (1 : Int32) else s1))) else (if p1 = (0 : Int32) then (s1 + p3) else (if p2 = (133 : Int32) then (if p2 = (8232 : Int32) then (1 : Int32) else (if s2 = (0 : Int32) then (1 : Int32) else s1)) else (if p2 = (8232 : Int32) then (1 : Int32) else (s1 + p3)))))) from ((((((if_neg c3_1).trans (if_pos c16_9)).trans (if_neg c38_10)).trans (if_neg c45_12)).trans (if_neg c88_13))).symm)) (congr (congrArg List.cons (show (0 : Int32) = (if p2 = (13 : Int32) then (1 : Int32) else (0 : Int32)) from ((if_neg c3_1)).symm)) rfl))))⟩
    ·
      refine go (u' := s₁.setTop (mkF m 19 #[.val (.ref o0), .val (.int p1), .val (.int p2), .val (.int p3), .val (.int (0 : Int32)), .unset, .unset] [])) (fun _ ks_ => XS.icmpNo X0.here hx rfl (hb hby d5_16) rfl (feq c16_9).1 ks_) ?_
      refine go (u' := s₁.setTop (mkF m 20 #[.val (.ref o0), .val (.int p1), .val (.int p2), .val (.int p3), .val (.int (0 : Int32)), .unset, .unset] [(.int p1)])) (fun _ ks_ => XS.iloadN X0.here hx rfl (hb hby d5_19) rfl  ks_) ?_
      by_cases c20_14 : p1 = (0 : Int32)
      ·
        refine go (u' := s₁.setTop (mkF m 34 #[.val (.ref o0), .val (.int p1), .val (.int p2), .val (.int p3), .val (.int (0 : Int32)), .unset, .unset] [])) (fun _ ks_ => XS.ifYes X0.here hx rfl (pc0 := 20) (pc' := 34) rfl (hb hby d5_20) rfl ((if0 _ _).trans (teq c20_14).1) (by decide) (by decide) ks_) ?_
        refine go (u' := s₁.setTop (mkF m 35 #[.val (.ref o0), .val (.int p1), .val (.int p2), .val (.int p3), .val (.int (0 : Int32)), .unset, .unset] [(.int (0 : Int32))])) (fun _ ks_ => XS.iconst X0.here hx rfl (hb hby d5_34) ks_) ?_
        refine go (u' := s₁.setTop (mkF m 37 #[.val (.ref o0), .val (.int p1), .val (.int p2), .val (.int p3), .val (.int (0 : Int32)), .val (.int (0 : Int32)), .unset] [])) (fun _ ks_ => XS.istore X0.here hx rfl (hb hby d5_35) rfl  (l' := #[.val (.ref o0), .val (.int p1), .val (.int p2), .val (.int p3), .val (.int (0 : Int32)), .val (.int (0 : Int32)), .unset]) rfl ks_) ?_
        refine go (u' := s₁.setTop (mkF m 38 #[.val (.ref o0), .val (.int p1), .val (.int p2), .val (.int p3), .val (.int (0 : Int32)), .val (.int (0 : Int32)), .unset] [(.int p1)])) (fun _ ks_ => XS.iloadN X0.here hx rfl (hb hby d5_37) rfl  ks_) ?_
        refine go (u' := s₁.setTop (mkF m 52 #[.val (.ref o0), .val (.int p1), .val (.int p2), .val (.int p3), .val (.int (0 : Int32)), .val (.int (0 : Int32)), .unset] [])) (fun _ ks_ => XS.ifYes X0.here hx rfl (pc0 := 38) (pc' := 52) rfl (hb hby d5_38) rfl ((if0 _ _).trans (teq c20_14).1) (by decide) (by decide) ks_) ?_
        refine go (u' := s₁.setTop (mkF m 53 #[.val (.ref o0), .val (.int p1), .val (.int p2), .val (.int p3), .val (.int (0 : Int32)), .val (.int (0 : Int32)), .unset] [(.int (0 : Int32))])) (fun _ ks_ => XS.iconst X0.here hx rfl (hb hby d5_52) ks_) ?_
        refine go (u' := s₁.setTop (mkF m 55 #[.val (.ref o0), .val (.int p1), .val (.int p2), .val (.int p3), .val (.int (0 : Int32)), .val (.int (0 : Int32)), .val (.int (0 : Int32))] [])) (fun _ ks_ => XS.istore X0.here hx rfl (hb hby d5_53) rfl  (l' := #[.val (.ref o0), .val (.int p1), .val (.int p2), .val (.int p3), .val (.int (0 : Int32)), .val (.int (0 : Int32)), .val (.int (0 : Int32))]) rfl ks_) ?_
        refine go (u' := s₁.setTop (mkF m 57 #[.val (.ref o0), .val (.int p1), .val (.int p2), .val (.int p3), .val (.int (0 : Int32)), .val (.int (0 : Int32)), .val (.int (0 : Int32))] [(.int (0 : Int32))])) (fun _ ks_ => XS.iload X0.here hx rfl (hb hby d5_55) rfl  ks_) ?_
        refine go (u' := s₁.setTop (mkF m 60 #[.val (.ref o0), .val (.int p1), .val (.int p2), .val (.int p3), .val (.int (0 : Int32)), .val (.int (0 : Int32)), .val (.int (0 : Int32))] [])) (fun _ ks_ => XS.ifNo X0.here hx rfl (hb hby d5_57) rfl ((if0 _ _).trans (teq (show (0 : Int32) = (0 : Int32) from (by decide))).2) ks_) ?_
        refine go (u' := s₁.setTop (mkF m 62 #[.val (.ref o0), .val (.int p1), .val (.int p2), .val (.int p3), .val (.int (0 : Int32)), .val (.int (0 : Int32)), .val (.int (0 : Int32))] [(.int (0 : Int32))])) (fun _ ks_ => XS.iload X0.here hx rfl (hb hby d5_60) rfl  ks_) ?_
        refine go (u' := s₁.setTop (mkF m 80 #[.val (.ref o0), .val (.int p1), .val (.int p2), .val (.int p3), .val (.int (0 : Int32)), .val (.int (0 : Int32)), .val (.int (0 : Int32))] [])) (fun _ ks_ => XS.ifYes X0.here hx rfl (pc0 := 62) (pc' := 80) rfl (hb hby d5_62) rfl ((if0 _ _).trans (teq (show (0 : Int32) = (0 : Int32) from (by decide))).1) (by decide) (by decide) ks_) ?_
        refine go (u' := s₁.setTop (mkF m 82 #[.val (.ref o0), .val (.int p1), .val (.int p2), .val (.int p3), .val (.int (0 : Int32)), .val (.int (0 : Int32)), .val (.int (0 : Int32))] [(.int (0 : Int32))])) (fun _ ks_ => XS.iload X0.here hx rfl (hb hby d5_80) rfl  ks_) ?_
        refine go (u' := s₁.setTop (mkF m 106 #[.val (.ref o0), .val (.int p1), .val (.int p2), .val (.int p3), .val (.int (0 : Int32)), .val (.int (0 : Int32)), .val (.int (0 : Int32))] [])) (fun _ ks_ => XS.ifYes X0.here hx rfl (pc0 := 82) (pc' := 106) rfl (hb hby d5_82) rfl ((if0 _ _).trans (teq (show (0 : Int32) = (0 : Int32) from (by decide))).1) (by decide) (by decide) ks_) ?_
        refine go (u' := s₁.setTop (mkF m 107 #[.val (.ref o0), .val (.int p1), .val (.int p2), .val (.int p3), .val (.int (0 : Int32)), .val (.int (0 : Int32)), .val (.int (0 : Int32))] [(.ref o0)])) (fun _ ks_ => XS.aloadN X0.here hx rfl (hb hby d5_106) rfl rfl ks_) ?_
        refine go (u' := s₁.setTop (mkF m 108 #[.val (.ref o0), .val (.int p1), .val (.int p2), .val (.int p3), .val (.int (0 : Int32)), .val (.int (0 : Int32)), .val (.int (0 : Int32))] [(.int (1 : Int32)), (.ref o0)])) (fun _ ks_ => XS.iconst X0.here hx rfl (hb hby d5_107) ks_) ?_
        refine go (u' := s₁.setTop (mkF m 109 #[.val (.ref o0), .val (.int p1), .val (.int p2), .val (.int p3), .val (.int (0 : Int32)), .val (.int (0 : Int32)), .val (.int (0 : Int32))] [(.ref o0), (.int (1 : Int32)), (.ref o0)])) (fun _ ks_ => XS.aloadN X0.here hx rfl (hb hby d5_108) rfl rfl ks_) ?_
        refine go (u' := s₁.setTop (mkF m 110 #[.val (.ref o0), .val (.int p1), .val (.int p2), .val (.int p3), .val (.int (0 : Int32)), .val (.int (0 : Int32)), .val (.int (0 : Int32))] [(.int (1 : Int32)), (.ref o0), (.int (1 : Int32)), (.ref o0)])) (fun _ ks_ => XS.iconst X0.here hx rfl (hb hby d5_109) ks_) ?_
        refine go (u' := s₁.setTop (mkF m 111 #[.val (.ref o0), .val (.int p1), .val (.int p2), .val (.int p3), .val (.int (0 : Int32)), .val (.int (0 : Int32)), .val (.int (0 : Int32))] [(.int s1), (.int (1 : Int32)), (.ref o0)])) (own_iaload X0 hx hZ e0 F0 (j := (1 : Int32)) (v := s1) (by decide) (by decide) rfl (f := (mkF m 110 #[.val (.ref o0), .val (.int p1), .val (.int p2), .val (.int p3), .val (.int (0 : Int32)), .val (.int (0 : Int32)), .val (.int (0 : Int32))] [(.int (1 : Int32)), (.ref o0), (.int (1 : Int32)), (.ref o0)])) rfl rfl (hb hby d5_110)) ?_
        refine go (u' := s₁.setTop (mkF m 112 #[.val (.ref o0), .val (.int p1), .val (.int p2), .val (.int p3), .val (.int (0 : Int32)), .val (.int (0 : Int32)), .val (.int (0 : Int32))] [(.int p3), (.int s1), (.int (1 : Int32)), (.ref o0)])) (fun _ ks_ => XS.iloadN X0.here hx rfl (hb hby d5_111) rfl  ks_) ?_
        refine go (u' := s₁.setTop (mkF m 113 #[.val (.ref o0), .val (.int p1), .val (.int p2), .val (.int p3), .val (.int (0 : Int32)), .val (.int (0 : Int32)), .val (.int (0 : Int32))] [(.int (s1 + p3)), (.int (1 : Int32)), (.ref o0)])) (fun _ ks_ => XS.iadd X0.here hx rfl (hb hby d5_112) rfl ks_) ?_
        obtain ⟨T71, h71, X71, e71, W71, st71⟩ := own_iastore X0 hx hZ e0 F0 (j := (1 : Int32)) (x := (s1 + p3))  (by decide) (by decide) (f := (mkF m 113 #[.val (.ref o0), .val (.int p1), .val (.int p2), .val (.int p3), .val (.int (0 : Int32)), .val (.int (0 : Int32)), .val (.int (0 : Int32))] [(.int (s1 + p3)), (.int (1 : Int32)), (.ref o0)])) rfl rfl (hb hby d5_113)
        have N71 := Fr.snoc X71 N0 g_o0
        have K71 : Keep h0 h71 [o0] := (Keep.refl h0 [o0]).wr W71 (Or.inl (List.mem_of_getElem? (i := 0) rfl))
        have Z71 : n0 ≤ h71.size := Nat.le_trans Z0 (Keep.of_wr W71).1
        have Fa72 : PI Z h71 o0 .int 3 (own_l [s0, (s1 + p3), s2]) := F0.setL (by decide) W71 rfl (Nat.le_of_ble_eq_true rfl) rfl
        refine go (u' := T71.setTop (mkF m 114 #[.val (.ref o0), .val (.int p1), .val (.int p2), .val (.int p3), .val (.int (0 : Int32)), .val (.int (0 : Int32)), .val (.int (0 : Int32))] [])) st71 ?_
        refine go (u' := T71.setTop (mkF m 115 #[.val (.ref o0), .val (.int p1), .val (.int p2), .val (.int p3), .val (.int (0 : Int32)), .val (.int (0 : Int32)), .val (.int (0 : Int32))] [(.ref o0)])) (fun _ ks_ => XS.aloadN X71.here hx rfl (hb hby d5_114) rfl rfl ks_) ?_
        refine go (u' := T71.setTop (mkF m 116 #[.val (.ref o0), .val (.int p1), .val (.int p2), .val (.int p3), .val (.int (0 : Int32)), .val (.int (0 : Int32)), .val (.int (0 : Int32))] [(.int (2 : Int32)), (.ref o0)])) (fun _ ks_ => XS.iconst X71.here hx rfl (hb hby d5_115) ks_) ?_
        refine go (u' := T71.setTop (mkF m 118 #[.val (.ref o0), .val (.int p1), .val (.int p2), .val (.int p3), .val (.int (0 : Int32)), .val (.int (0 : Int32)), .val (.int (0 : Int32))] [(.int (0 : Int32)), (.int (2 : Int32)), (.ref o0)])) (fun _ ks_ => XS.iload X71.here hx rfl (hb hby d5_116) rfl  ks_) ?_
        refine go (u' := T71.setTop (mkF m 125 #[.val (.ref o0), .val (.int p1), .val (.int p2), .val (.int p3), .val (.int (0 : Int32)), .val (.int (0 : Int32)), .val (.int (0 : Int32))] [(.int (2 : Int32)), (.ref o0)])) (fun _ ks_ => XS.ifYes X71.here hx rfl (pc0 := 118) (pc' := 125) rfl (hb hby d5_118) rfl ((if0 _ _).trans (teq (show (0 : Int32) = (0 : Int32) from (by decide))).1) (by decide) (by decide) ks_) ?_
        refine go (u' := T71.setTop (mkF m 126 #[.val (.ref o0), .val (.int p1), .val (.int p2), .val (.int p3), .val (.int (0 : Int32)), .val (.int (0 : Int32)), .val (.int (0 : Int32))] [(.int (0 : Int32)), (.int (2 : Int32)), (.ref o0)])) (fun _ ks_ => XS.iconst X71.here hx rfl (hb hby d5_125) ks_) ?_
        obtain ⟨T73, h73, X73, e73, W73, st73⟩ := own_iastore X71 hx hZ e71 Fa72 (j := (2 : Int32)) (x := (0 : Int32))  (by decide) (by decide) (f := (mkF m 126 #[.val (.ref o0), .val (.int p1), .val (.int p2), .val (.int p3), .val (.int (0 : Int32)), .val (.int (0 : Int32)), .val (.int (0 : Int32))] [(.int (0 : Int32)), (.int (2 : Int32)), (.ref o0)])) rfl rfl (hb hby d5_126)
        have N73 := Fr.snoc X73 N71 g_o0
        have K73 : Keep h0 h73 [o0] := K71.wr W73 (Or.inl (List.mem_of_getElem? (i := 0) rfl))
        have Z73 : n0 ≤ h73.size := Nat.le_trans Z71 (Keep.of_wr W73).1
        have Fa74 : PI Z h73 o0 .int 3 (own_l [s0, (s1 + p3), (0 : Int32)]) := Fa72.setL (by decide) W73 rfl (Nat.le_of_ble_eq_true rfl) rfl
        refine go (u' := T73.setTop (mkF m 127 #[.val (.ref o0), .val (.int p1), .val (.int p2), .val (.int p3), .val (.int (0 : Int32)), .val (.int (0 : Int32)), .val (.int (0 : Int32))] [])) st73 ?_
        rw [hG]
        refine g0 X73 hx hlk hret (hb hby d5_127) ?_ (Nat.le_of_ble_eq_true rfl) (Nat.le_of_ble_eq_true rfl)
        show Q_rm5 Z o0 p1 p2 p3 s0 s1 s2 h0 n0 (none) T73.heap _
        rw [e73]
        exact ⟨rfl, N73, K73, (own_Lto Fa74 (congr (congrArg List.cons (show s0 = (if p2 = (13 : Int32) then (s0 + (1 : Int32)) else (if p2 = (10 : Int32) then (if p1 = (0 : Int32) then (if s2 = (0 : Int32) then (s0 + (1 : Int32)) else s0) else (if p2 = (8232 : Int32) then (s0 + (1 : Int32)) else (if s2 = (0 : Int32) then (s0 + (1 : Int32)) else s0))) else (if p1 = (0 : Int32) then s0 else (if p2 = (133 : Int32) then (if p2 = (8232 : Int32) then (s0 + (1 : Int32)) else (if s2 = (0 : Int32) then (s0 + (1 : Int32)) else s0)) else (if p2 = (8232 : Int32) then (s0 + (1 : Int32)) else s0))))) from ((((if_neg c3_1).trans (if_neg c16_9)).trans (if_pos c20_14))).symm)) (congr (congrArg List.cons (show (s1 + p3) = (if p2 = (13 : Int32) then (1 : Int32) else (if p2 = (10 : Int32) then (if p1 = (0 : Int32) then (if s2 = (0 : Int32) then (1 : Int32) else s1) else (if p2 = (8232 : Int32) then (1 : Int32) else (if s2 = (0 : Int32) then (1 : Int32) else s1))) else (if p1 = (0 : Int32) then (s1 + p3) else (if p2 = (133 : Int32) then (if p2 = (8232 : Int32) then (1 : Int32) else (if s2 = (0 : Int32) then (1 : Int32) else s1)) else (if p2 = (8232 : Int32) then (1 : Int32) else (s1 + p3)))))) from ((((if_neg c3_1).trans (if_neg c16_9)).trans (if_pos c20_14))).symm)) (congr (congrArg List.cons (show (0 : Int32) = (if p2 = (13 : Int32) then (1 : Int32) else (0 : Int32)) from ((if_neg c3_1)).symm)) rfl))))⟩
      ·
        refine go (u' := s₁.setTop (mkF m 23 #[.val (.ref o0), .val (.int p1), .val (.int p2), .val (.int p3), .val (.int (0 : Int32)), .unset, .unset] [])) (fun _ ks_ => XS.ifNo X0.here hx rfl (hb hby d5_20) rfl ((if0 _ _).trans (feq c20_14).1) ks_) ?_
        refine go (u' := s₁.setTop (mkF m 24 #[.val (.ref o0), .val (.int p1), .val (.int p2), .val (.int p3), .val (.int (0 : Int32)), .unset, .unset] [(.int p2)])) (fun _ ks_ => XS.iloadN X0.here hx rfl (hb hby d5_23) rfl  ks_) ?_
        refine go (u' := s₁.setTop (mkF m 27 #[.val (.ref o0), .val (.int p1), .val (.int p2), .val (.int p3), .val (.int (0 : Int32)), .unset, .unset] [(.int (133 : Int32)), (.int p2)])) (fun _ ks_ => XS.sipush X0.here hx rfl (hb hby d5_24) ks_) ?_
        by_cases c27_15 : p2 = (133 : Int32)
        ·
          refine go (u' := s₁.setTop (mkF m 30 #[.val (.ref o0), .val (.int p1), .val (.int p2), .val (.int p3), .val (.int (0 : Int32)), .unset, .unset] [])) (fun _ ks_ => XS.icmpNo X0.here hx rfl (hb hby d5_27) rfl (teq c27_15).2 ks_) ?_
          refine go (u' := s₁.setTop (mkF m 31 #[.val (.ref o0), .val (.int p1), .val (.int p2), .val (.int p3), .val (.int (0 : Int32)), .unset, .unset] [(.int (1 : Int32))])) (fun _ ks_ => XS.iconst X0.here hx rfl (hb hby d5_30) ks_) ?_
          refine go (u' := s₁.setTop (mkF m 35 #[.val (.ref o0), .val (.int p1), .val (.int p2), .val (.int p3), .val (.int (0 : Int32)), .unset, .unset] [(.int (1 : Int32))])) (fun _ ks_ => XS.goto X0.here hx rfl (pc0 := 31) (pc' := 35) rfl (hb hby d5_31) (by decide) (by decide) ks_) ?_
          refine go (u' := s₁.setTop (mkF m 37 #[.val (.ref o0), .val (.int p1), .val (.int p2), .val (.int p3), .val (.int (0 : Int32)), .val (.int (1 : Int32)), .unset] [])) (fun _ ks_ => XS.istore X0.here hx rfl (hb hby d5_35) rfl  (l' := #[.val (.ref o0), .val (.int p1), .val (.int p2), .val (.int p3), .val (.int (0 : Int32)), .val (.int (1 : Int32)), .unset]) rfl ks_) ?_
          refine go (u' := s₁.setTop (mkF m 38 #[.val (.ref o0), .val (.int p1), .val (.int p2), .val (.int p3), .val (.int (0 : Int32)), .val (.int (1 : Int32)), .unset] [(.int p1)])) (fun _ ks_ => XS.iloadN X0.here hx rfl (hb hby d5_37) rfl  ks_) ?_
          refine go (u' := s₁.setTop (mkF m 41 #[.val (.ref o0), .val (.int p1), .val (.int p2), .val (.int p3), .val (.int (0 : Int32)), .val (.int (1 : Int32)), .unset] [])) (fun _ ks_ => XS.ifNo X0.here hx rfl (hb hby d5_38) rfl ((if0 _ _).trans (feq c20_14).1) ks_) ?_
          refine go (u' := s₁.setTop (mkF m 42 #[.val (.ref o0), .val (.int p1), .val (.int p2), .val (.int p3), .val (.int (0 : Int32)), .val (.int (1 : Int32)), .unset] [(.int p2)])) (fun _ ks_ => XS.iloadN X0.here hx rfl (hb hby d5_41) rfl  ks_) ?_
          refine go (u' := s₁.setTop (mkF m 45 #[.val (.ref o0), .val (.int p1), .val (.int p2), .val (.int p3), .val (.int (0 : Int32)), .val (.int (1 : Int32)), .unset] [(.int (8232 : Int32)), (.int p2)])) (fun _ ks_ => XS.sipush X0.here hx rfl (hb hby d5_42) ks_) ?_
          by_cases c45_16 : p2 = (8232 : Int32)
          ·
            refine go (u' := s₁.setTop (mkF m 48 #[.val (.ref o0), .val (.int p1), .val (.int p2), .val (.int p3), .val (.int (0 : Int32)), .val (.int (1 : Int32)), .unset] [])) (fun _ ks_ => XS.icmpNo X0.here hx rfl (hb hby d5_45) rfl (teq c45_16).2 ks_) ?_
            refine go (u' := s₁.setTop (mkF m 49 #[.val (.ref o0), .val (.int p1), .val (.int p2), .val (.int p3), .val (.int (0 : Int32)), .val (.int (1 : Int32)), .unset] [(.int (1 : Int32))])) (fun _ ks_ => XS.iconst X0.here hx rfl (hb hby d5_48) ks_) ?_
            refine go (u' := s₁.setTop (mkF m 53 #[.val (.ref o0), .val (.int p1), .val (.int p2), .val (.int p3), .val (.int (0 : Int32)), .val (.int (1 : Int32)), .unset] [(.int (1 : Int32))])) (fun _ ks_ => XS.goto X0.here hx rfl (pc0 := 49) (pc' := 53) rfl (hb hby d5_49) (by decide) (by decide) ks_) ?_
            refine go (u' := s₁.setTop (mkF m 55 #[.val (.ref o0), .val (.int p1), .val (.int p2), .val (.int p3), .val (.int (0 : Int32)), .val (.int (1 : Int32)), .val (.int (1 : Int32))] [])) (fun _ ks_ => XS.istore X0.here hx rfl (hb hby d5_53) rfl  (l' := #[.val (.ref o0), .val (.int p1), .val (.int p2), .val (.int p3), .val (.int (0 : Int32)), .val (.int (1 : Int32)), .val (.int (1 : Int32))]) rfl ks_) ?_
            refine go (u' := s₁.setTop (mkF m 57 #[.val (.ref o0), .val (.int p1), .val (.int p2), .val (.int p3), .val (.int (0 : Int32)), .val (.int (1 : Int32)), .val (.int (1 : Int32))] [(.int (0 : Int32))])) (fun _ ks_ => XS.iload X0.here hx rfl (hb hby d5_55) rfl  ks_) ?_
            refine go (u' := s₁.setTop (mkF m 60 #[.val (.ref o0), .val (.int p1), .val (.int p2), .val (.int p3), .val (.int (0 : Int32)), .val (.int (1 : Int32)), .val (.int (1 : Int32))] [])) (fun _ ks_ => XS.ifNo X0.here hx rfl (hb hby d5_57) rfl ((if0 _ _).trans (teq (show (0 : Int32) = (0 : Int32) from (by decide))).2) ks_) ?_
            refine go (u' := s₁.setTop (mkF m 62 #[.val (.ref o0), .val (.int p1), .val (.int p2), .val (.int p3), .val (.int (0 : Int32)), .val (.int (1 : Int32)), .val (.int (1 : Int32))] [(.int (1 : Int32))])) (fun _ ks_ => XS.iload X0.here hx rfl (hb hby d5_60) rfl  ks_) ?_
            refine go (u' := s₁.setTop (mkF m 65 #[.val (.ref o0), .val (.int p1), .val (.int p2), .val (.int p3), .val (.int (0 : Int32)), .val (.int (1 : Int32)), .val (.int (1 : Int32))] [])) (fun _ ks_ => XS.ifNo X0.here hx rfl (hb hby d5_62) rfl ((if0 _ _).trans (feq (show ¬ ((1 : Int32) = (0 : Int32)) from (by decide))).1) ks_) ?_
            refine go (u' := s₁.setTop (mkF m 66 #[.val (.ref o0), .val (.int p1), .val (.int p2), .val (.int p3), .val (.int (0 : Int32)), .val (.int (1 : Int32)), .val (.int (1 : Int32))] [(.ref o0)])) (fun _ ks_ => XS.aloadN X0.here hx rfl (hb hby d5_65) rfl rfl ks_) ?_
            refine go (u' := s₁.setTop (mkF m 67 #[.val (.ref o0), .val (.int p1), .val (.int p2), .val (.int p3), .val (.int (0 : Int32)), .val (.int (1 : Int32)), .val (.int (1 : Int32))] [(.int (0 : Int32)), (.ref o0)])) (fun _ ks_ => XS.iconst X0.here hx rfl (hb hby d5_66) ks_) ?_
            refine go (u' := s₁.setTop (mkF m 68 #[.val (.ref o0), .val (.int p1), .val (.int p2), .val (.int p3), .val (.int (0 : Int32)), .val (.int (1 : Int32)), .val (.int (1 : Int32))] [(.ref o0), (.int (0 : Int32)), (.ref o0)])) (fun _ ks_ => XS.aloadN X0.here hx rfl (hb hby d5_67) rfl rfl ks_) ?_
            refine go (u' := s₁.setTop (mkF m 69 #[.val (.ref o0), .val (.int p1), .val (.int p2), .val (.int p3), .val (.int (0 : Int32)), .val (.int (1 : Int32)), .val (.int (1 : Int32))] [(.int (0 : Int32)), (.ref o0), (.int (0 : Int32)), (.ref o0)])) (fun _ ks_ => XS.iconst X0.here hx rfl (hb hby d5_68) ks_) ?_
            refine go (u' := s₁.setTop (mkF m 70 #[.val (.ref o0), .val (.int p1), .val (.int p2), .val (.int p3), .val (.int (0 : Int32)), .val (.int (1 : Int32)), .val (.int (1 : Int32))] [(.int s0), (.int (0 : Int32)), (.ref o0)])) (own_iaload X0 hx hZ e0 F0 (j := (0 : Int32)) (v := s0) (by decide) (by decide) rfl (f := (mkF m 69 #[.val (.ref o0), .val (.int p1), .val (.int p2), .val (.int p3), .val (.int (0 : Int32)), .val (.int (1 : Int32)), .val (.int (1 : Int32))] [(.int (0 : Int32)), (.ref o0), (.int (0 : Int32)), (.ref o0)])) rfl rfl (hb hby d5_69)) ?_
            refine go (u' := s₁.setTop (mkF m 71 #[.val (.ref o0), .val (.int p1), .val (.int p2), .val (.int p3), .val (.int (0 : Int32)), .val (.int (1 : Int32)), .val (.int (1 : Int32))] [(.int (1 : Int32)), (.int s0), (.int (0 : Int32)), (.ref o0)])) (fun _ ks_ => XS.iconst X0.here hx rfl (hb hby d5_70) ks_) ?_
            refine go (u' := s₁.setTop (mkF m 72 #[.val (.ref o0), .val (.int p1), .val (.int p2), .val (.int p3), .val (.int (0 : Int32)), .val (.int (1 : Int32)), .val (.int (1 : Int32))] [(.int (s0 + (1 : Int32))), (.int (0 : Int32)), (.ref o0)])) (fun _ ks_ => XS.iadd X0.here hx rfl (hb hby d5_71) rfl ks_) ?_
            obtain ⟨T75, h75, X75, e75, W75, st75⟩ := own_iastore X0 hx hZ e0 F0 (j := (0 : Int32)) (x := (s0 + (1 : Int32)))  (by decide) (by decide) (f := (mkF m 72 #[.val (.ref o0), .val (.int p1), .val (.int p2), .val (.int p3), .val (.int (0 : Int32)), .val (.int (1 : Int32)), .val (.int (1 : Int32))] [(.int (s0 + (1 : Int32))), (.int (0 : Int32)), (.ref o0)])) rfl rfl (hb hby d5_72)
            have N75 := Fr.snoc X75 N0 g_o0
            have K75 : Keep h0 h75 [o0] := (Keep.refl h0 [o0]).wr W75 (Or.inl (List.mem_of_getElem? (i := 0) rfl))
            have Z75 : n0 ≤ h75.size := Nat.le_trans Z0 (Keep.of_wr W75).1
            have Fa76 : PI Z h75 o0 .int 3 (own_l [(s0 + (1 : Int32)), s1, s2]) := F0.setL (by decide) W75 rfl (Nat.le_of_ble_eq_true rfl) rfl
            refine go (u' := T75.setTop (mkF m 73 #[.val (.ref o0), .val (.int p1), .val (.int p2), .val (.int p3), .val (.int (0 : Int32)), .val (.int (1 : Int32)), .val (.int (1 : Int32))] [])) st75 ?_
            refine go (u' := T75.setTop (mkF m 74 #[.val (.ref o0), .val (.int p1), .val (.int p2), .val (.int p3), .val (.int (0 : Int32)), .val (.int (1 : Int32)), .val (.int (1 : Int32))] [(.ref o0)])) (fun _ ks_ => XS.aloadN X75.here hx rfl (hb hby d5_73) rfl rfl ks_) ?_
            refine go (u' := T75.setTop (mkF m 75 #[.val (.ref o0), .val (.int p1), .val (.int p2), .val (.int p3), .val (.int (0 : Int32)), .val (.int (1 : Int32)), .val (.int (1 : Int32))] [(.int (1 : Int32)), (.ref o0)])) (fun _ ks_ => XS.iconst X75.here hx rfl (hb hby d5_74) ks_) ?_
            refine go (u' := T75.setTop (mkF m 76 #[.val (.ref o0), .val (.int p1), .val (.int p2), .val (.int p3), .val (.int (0 : Int32)), .val (.int (1 : Int32)), .val (.int (1 : Int32))] [(.int (1 : Int32)), (.int (1 : Int32)), (.ref o0)])) (fun _ ks_ => XS.iconst X75.here hx rfl (hb hby d5_75) ks_) ?_
            obtain ⟨T77, h77, X77, e77, W77, st77⟩ := own_iastore X75 hx hZ e75 Fa76 (j := (1 : Int32)) (x := (1 : Int32))  (by decide) (by decide) (f := (mkF m 76 #[.val (.ref o0), .val (.int p1), .val (.int p2), .val (.int p3), .val (.int (0 : Int32)), .val (.int (1 : Int32)), .val (.int (1 : Int32))] [(.int (1 : Int32)), (.int (1 : Int32)), (.ref o0)])) rfl rfl (hb hby d5_76)
            have N77 := Fr.snoc X77 N75 g_o0
            have K77 : Keep h0 h77 [o0] := K75.wr W77 (Or.inl (List.mem_of_getElem? (i := 0) rfl))
            have Z77 : n0 ≤ h77.size := Nat.le_trans Z75 (Keep.of_wr W77).1
            have Fa78 : PI Z h77 o0 .int 3 (own_l [(s0 + (1 : Int32)), (1 : Int32), s2]) := Fa76.setL (by decide) W77 rfl (Nat.le_of_ble_eq_true rfl) rfl
            refine go (u' := T77.setTop (mkF m 77 #[.val (.ref o0), .val (.int p1), .val (.int p2), .val (.int p3), .val (.int (0 : Int32)), .val (.int (1 : Int32)), .val (.int (1 : Int32))] [])) st77 ?_
            refine go (u' := T77.setTop (mkF m 114 #[.val (.ref o0), .val (.int p1), .val (.int p2), .val (.int p3), .val (.int (0 : Int32)), .val (.int (1 : Int32)), .val (.int (1 : Int32))] [])) (fun _ ks_ => XS.goto X77.here hx rfl (pc0 := 77) (pc' := 114) rfl (hb hby d5_77) (by decide) (by decide) ks_) ?_
            refine go (u' := T77.setTop (mkF m 115 #[.val (.ref o0), .val (.int p1), .val (.int p2), .val (.int p3), .val (.int (0 : Int32)), .val (.int (1 : Int32)), .val (.int (1 : Int32))] [(.ref o0)])) (fun _ ks_ => XS.aloadN X77.here hx rfl (hb hby d5_114) rfl rfl ks_) ?_
            refine go (u' := T77.setTop (mkF m 116 #[.val (.ref o0), .val (.int p1), .val (.int p2), .val (.int p3), .val (.int (0 : Int32)), .val (.int (1 : Int32)), .val (.int (1 : Int32))] [(.int (2 : Int32)), (.ref o0)])) (fun _ ks_ => XS.iconst X77.here hx rfl (hb hby d5_115) ks_) ?_
            refine go (u' := T77.setTop (mkF m 118 #[.val (.ref o0), .val (.int p1), .val (.int p2), .val (.int p3), .val (.int (0 : Int32)), .val (.int (1 : Int32)), .val (.int (1 : Int32))] [(.int (0 : Int32)), (.int (2 : Int32)), (.ref o0)])) (fun _ ks_ => XS.iload X77.here hx rfl (hb hby d5_116) rfl  ks_) ?_
            refine go (u' := T77.setTop (mkF m 125 #[.val (.ref o0), .val (.int p1), .val (.int p2), .val (.int p3), .val (.int (0 : Int32)), .val (.int (1 : Int32)), .val (.int (1 : Int32))] [(.int (2 : Int32)), (.ref o0)])) (fun _ ks_ => XS.ifYes X77.here hx rfl (pc0 := 118) (pc' := 125) rfl (hb hby d5_118) rfl ((if0 _ _).trans (teq (show (0 : Int32) = (0 : Int32) from (by decide))).1) (by decide) (by decide) ks_) ?_
            refine go (u' := T77.setTop (mkF m 126 #[.val (.ref o0), .val (.int p1), .val (.int p2), .val (.int p3), .val (.int (0 : Int32)), .val (.int (1 : Int32)), .val (.int (1 : Int32))] [(.int (0 : Int32)), (.int (2 : Int32)), (.ref o0)])) (fun _ ks_ => XS.iconst X77.here hx rfl (hb hby d5_125) ks_) ?_
            obtain ⟨T79, h79, X79, e79, W79, st79⟩ := own_iastore X77 hx hZ e77 Fa78 (j := (2 : Int32)) (x := (0 : Int32))  (by decide) (by decide) (f := (mkF m 126 #[.val (.ref o0), .val (.int p1), .val (.int p2), .val (.int p3), .val (.int (0 : Int32)), .val (.int (1 : Int32)), .val (.int (1 : Int32))] [(.int (0 : Int32)), (.int (2 : Int32)), (.ref o0)])) rfl rfl (hb hby d5_126)
            have N79 := Fr.snoc X79 N77 g_o0
            have K79 : Keep h0 h79 [o0] := K77.wr W79 (Or.inl (List.mem_of_getElem? (i := 0) rfl))
            have Z79 : n0 ≤ h79.size := Nat.le_trans Z77 (Keep.of_wr W79).1
            have Fa80 : PI Z h79 o0 .int 3 (own_l [(s0 + (1 : Int32)), (1 : Int32), (0 : Int32)]) := Fa78.setL (by decide) W79 rfl (Nat.le_of_ble_eq_true rfl) rfl
            refine go (u' := T79.setTop (mkF m 127 #[.val (.ref o0), .val (.int p1), .val (.int p2), .val (.int p3), .val (.int (0 : Int32)), .val (.int (1 : Int32)), .val (.int (1 : Int32))] [])) st79 ?_
            rw [hG]
            refine g0 X79 hx hlk hret (hb hby d5_127) ?_ (Nat.le_of_ble_eq_true rfl) (Nat.le_of_ble_eq_true rfl)
            show Q_rm5 Z o0 p1 p2 p3 s0 s1 s2 h0 n0 (none) T79.heap _
            rw [e79]
            exact ⟨rfl, N79, K79, (own_Lto Fa80 (congr (congrArg List.cons (show (s0 + (1 : Int32)) = (if p2 = (13 : Int32) then (s0 + (1 : Int32)) else (if p2 = (10 : Int32) then (if p1 = (0 : Int32) then (if s2 = (0 : Int32) then (s0 + (1 : Int32)) else s0) else (if p2 = (8232 : Int32) then (s0 + (1 : Int32)) else (if s2 = (0 : Int32) then (s0 + (1 : Int32)) else s0))) else (if p1 = (0 : Int32) then s0 else (if p2 = (133 : Int32) then (if p2 = (8232 : Int32) then (s0 + (1 : Int32)) else (if s2 = (0 : Int32) then (s0 + (1 : Int32)) else s0)) else (if p2 = (8232 : Int32) then (s0 + (1 : Int32)) else s0))))) from ((((((if_neg c3_1).trans (if_neg c16_9)).trans (if_neg c20_14)).trans (if_pos c27_15)).trans (if_pos c45_16))).symm)) (congr (congrArg List.cons (show (1 : Int32) = (if p2 = (13 : Int32) then (1 : Int32) else (if p2 = (10 : Int32) then (if p1 = (0 : Int32) then (if s2 = (0 : Int32) then (1 : Int32) else s1) else (if p2 = (8232 : Int32) then (1 : Int32) else (if s2 = (0 : Int32) then (1 : Int32) else s1))) else (if p1 = (0 : Int32) then (s1 + p3) else (if p2 = (133 : Int32) then (if p2 = (8232 : Int32) then (1 : Int32) else (if s2 = (0 : Int32) then (1 : Int32) else s1)) else (if p2 = (8232 : Int32) then (1 : Int32) else (s1 + p3)))))) from ((((((if_neg c3_1).trans (if_neg c16_9)).trans (if_neg c20_14)).trans (if_pos c27_15)).trans (if_pos c45_16))).symm)) (congr (congrArg List.cons (show (0 : Int32) = (if p2 = (13 : Int32) then (1 : Int32) else (0 : Int32)) from ((if_neg c3_1)).symm)) rfl))))⟩
          ·
            refine go (u' := s₁.setTop (mkF m 52 #[.val (.ref o0), .val (.int p1), .val (.int p2), .val (.int p3), .val (.int (0 : Int32)), .val (.int (1 : Int32)), .unset] [])) (fun _ ks_ => XS.icmpYes X0.here hx rfl (pc0 := 45) (pc' := 52) rfl (hb hby d5_45) rfl (feq c45_16).2 (by decide) (by decide) ks_) ?_
            refine go (u' := s₁.setTop (mkF m 53 #[.val (.ref o0), .val (.int p1), .val (.int p2), .val (.int p3), .val (.int (0 : Int32)), .val (.int (1 : Int32)), .unset] [(.int (0 : Int32))])) (fun _ ks_ => XS.iconst X0.here hx rfl (hb hby d5_52) ks_) ?_
            refine go (u' := s₁.setTop (mkF m 55 #[.val (.ref o0), .val (.int p1), .val (.int p2), .val (.int p3), .val (.int (0 : Int32)), .val (.int (1 : Int32)), .val (.int (0 : Int32))] [])) (fun _ ks_ => XS.istore X0.here hx rfl (hb hby d5_53) rfl  (l' := #[.val (.ref o0), .val (.int p1), .val (.int p2), .val (.int p3), .val (.int (0 : Int32)), .val (.int (1 : Int32)), .val (.int (0 : Int32))]) rfl ks_) ?_
            refine go (u' := s₁.setTop (mkF m 57 #[.val (.ref o0), .val (.int p1), .val (.int p2), .val (.int p3), .val (.int (0 : Int32)), .val (.int (1 : Int32)), .val (.int (0 : Int32))] [(.int (0 : Int32))])) (fun _ ks_ => XS.iload X0.here hx rfl (hb hby d5_55) rfl  ks_) ?_
            refine go (u' := s₁.setTop (mkF m 60 #[.val (.ref o0), .val (.int p1), .val (.int p2), .val (.int p3), .val (.int (0 : Int32)), .val (.int (1 : Int32)), .val (.int (0 : Int32))] [])) (fun _ ks_ => XS.ifNo X0.here hx rfl (hb hby d5_57) rfl ((if0 _ _).trans (teq (show (0 : Int32) = (0 : Int32) from (by decide))).2) ks_) ?_
            refine go (u' := s₁.setTop (mkF m 62 #[.val (.ref o0), .val (.int p1), .val (.int p2), .val (.int p3), .val (.int (0 : Int32)), .val (.int (1 : Int32)), .val (.int (0 : Int32))] [(.int (0 : Int32))])) (fun _ ks_ => XS.iload X0.here hx rfl (hb hby d5_60) rfl  ks_) ?_
            refine go (u' := s₁.setTop (mkF m 80 #[.val (.ref o0), .val (.int p1), .val (.int p2), .val (.int p3), .val (.int (0 : Int32)), .val (.int (1 : Int32)), .val (.int (0 : Int32))] [])) (fun _ ks_ => XS.ifYes X0.here hx rfl (pc0 := 62) (pc' := 80) rfl (hb hby d5_62) rfl ((if0 _ _).trans (teq (show (0 : Int32) = (0 : Int32) from (by decide))).1) (by decide) (by decide) ks_) ?_
            refine go (u' := s₁.setTop (mkF m 82 #[.val (.ref o0), .val (.int p1), .val (.int p2), .val (.int p3), .val (.int (0 : Int32)), .val (.int (1 : Int32)), .val (.int (0 : Int32))] [(.int (1 : Int32))])) (fun _ ks_ => XS.iload X0.here hx rfl (hb hby d5_80) rfl  ks_) ?_
            refine go (u' := s₁.setTop (mkF m 85 #[.val (.ref o0), .val (.int p1), .val (.int p2), .val (.int p3), .val (.int (0 : Int32)), .val (.int (1 : Int32)), .val (.int (0 : Int32))] [])) (fun _ ks_ => XS.ifNo X0.here hx rfl (hb hby d5_82) rfl ((if0 _ _).trans (feq (show ¬ ((1 : Int32) = (0 : Int32)) from (by decide))).1) ks_) ?_
            refine go (u' := s₁.setTop (mkF m 86 #[.val (.ref o0), .val (.int p1), .val (.int p2), .val (.int p3), .val (.int (0 : Int32)), .val (.int (1 : Int32)), .val (.int (0 : Int32))] [(.ref o0)])) (fun _ ks_ => XS.aloadN X0.here hx rfl (hb hby d5_85) rfl rfl ks_) ?_
            refine go (u' := s₁.setTop (mkF m 87 #[.val (.ref o0), .val (.int p1), .val (.int p2), .val (.int p3), .val (.int (0 : Int32)), .val (.int (1 : Int32)), .val (.int (0 : Int32))] [(.int (2 : Int32)), (.ref o0)])) (fun _ ks_ => XS.iconst X0.here hx rfl (hb hby d5_86) ks_) ?_
            refine go (u' := s₁.setTop (mkF m 88 #[.val (.ref o0), .val (.int p1), .val (.int p2), .val (.int p3), .val (.int (0 : Int32)), .val (.int (1 : Int32)), .val (.int (0 : Int32))] [(.int s2)])) (own_iaload X0 hx hZ e0 F0 (j := (2 : Int32)) (v := s2) (by decide) (by decide) rfl (f := (mkF m 87 #[.val (.ref o0), .val (.int p1), .val (.int p2), .val (.int p3), .val (.int (0 : Int32)), .val (.int (1 : Int32)), .val (.int (0 : Int32))] [(.int (2 : Int32)), (.ref o0)])) rfl rfl (hb hby d5_87)) ?_
            by_cases c88_17 : s2 = (0 : Int32)
            ·
              refine go (u' := s₁.setTop (mkF m 91 #[.val (.ref o0), .val (.int p1), .val (.int p2), .val (.int p3), .val (.int (0 : Int32)), .val (.int (1 : Int32)), .val (.int (0 : Int32))] [])) (fun _ ks_ => XS.ifNo X0.here hx rfl (hb hby d5_88) rfl ((if0 _ _).trans (teq c88_17).2) ks_) ?_
              refine go (u' := s₁.setTop (mkF m 92 #[.val (.ref o0), .val (.int p1), .val (.int p2), .val (.int p3), .val (.int (0 : Int32)), .val (.int (1 : Int32)), .val (.int (0 : Int32))] [(.ref o0)])) (fun _ ks_ => XS.aloadN X0.here hx rfl (hb hby d5_91) rfl rfl ks_) ?_
              refine go (u' := s₁.setTop (mkF m 93 #[.val (.ref o0), .val (.int p1), .val (.int p2), .val (.int p3), .val (.int (0 : Int32)), .val (.int (1 : Int32)), .val (.int (0 : Int32))] [(.int (0 : Int32)), (.ref o0)])) (fun _ ks_ => XS.iconst X0.here hx rfl (hb hby d5_92) ks_) ?_
              refine go (u' := s₁.setTop (mkF m 94 #[.val (.ref o0), .val (.int p1), .val (.int p2), .val (.int p3), .val (.int (0 : Int32)), .val (.int (1 : Int32)), .val (.int (0 : Int32))] [(.ref o0), (.int (0 : Int32)), (.ref o0)])) (fun _ ks_ => XS.aloadN X0.here hx rfl (hb hby d5_93) rfl rfl ks_) ?_
              refine go (u' := s₁.setTop (mkF m 95 #[.val (.ref o0), .val (.int p1), .val (.int p2), .val (.int p3), .val (.int (0 : Int32)), .val (.int (1 : Int32)), .val (.int (0 : Int32))] [(.int (0 : Int32)), (.ref o0), (.int (0 : Int32)), (.ref o0)])) (fun _ ks_ => XS.iconst X0.here hx rfl (hb hby d5_94) ks_) ?_
              refine go (u' := s₁.setTop (mkF m 96 #[.val (.ref o0), .val (.int p1), .val (.int p2), .val (.int p3), .val (.int (0 : Int32)), .val (.int (1 : Int32)), .val (.int (0 : Int32))] [(.int s0), (.int (0 : Int32)), (.ref o0)])) (own_iaload X0 hx hZ e0 F0 (j := (0 : Int32)) (v := s0) (by decide) (by decide) rfl (f := (mkF m 95 #[.val (.ref o0), .val (.int p1), .val (.int p2), .val (.int p3), .val (.int (0 : Int32)), .val (.int (1 : Int32)), .val (.int (0 : Int32))] [(.int (0 : Int32)), (.ref o0), (.int (0 : Int32)), (.ref o0)])) rfl rfl (hb hby d5_95)) ?_
              refine go (u' := s₁.setTop (mkF m 97 #[.val (.ref o0), .val (.int p1), .val (.int p2), .val (.int p3), .val (.int (0 : Int32)), .val (.int (1 : Int32)), .val (.int (0 : Int32))] [(.int (1 : Int32)), (.int s0), (.int (0 : Int32)), (.ref o0)])) (fun _ ks_ => XS.iconst X0.here hx rfl (hb hby d5_96) ks_) ?_
              refine go (u' := s₁.setTop (mkF m 98 #[.val (.ref o0), .val (.int p1), .val (.int p2), .val (.int p3), .val (.int (0 : Int32)), .val (.int (1 : Int32)), .val (.int (0 : Int32))] [(.int (s0 + (1 : Int32))), (.int (0 : Int32)), (.ref o0)])) (fun _ ks_ => XS.iadd X0.here hx rfl (hb hby d5_97) rfl ks_) ?_
              obtain ⟨T81, h81, X81, e81, W81, st81⟩ := own_iastore X0 hx hZ e0 F0 (j := (0 : Int32)) (x := (s0 + (1 : Int32)))  (by decide) (by decide) (f := (mkF m 98 #[.val (.ref o0), .val (.int p1), .val (.int p2), .val (.int p3), .val (.int (0 : Int32)), .val (.int (1 : Int32)), .val (.int (0 : Int32))] [(.int (s0 + (1 : Int32))), (.int (0 : Int32)), (.ref o0)])) rfl rfl (hb hby d5_98)
              have N81 := Fr.snoc X81 N0 g_o0
              have K81 : Keep h0 h81 [o0] := (Keep.refl h0 [o0]).wr W81 (Or.inl (List.mem_of_getElem? (i := 0) rfl))
              have Z81 : n0 ≤ h81.size := Nat.le_trans Z0 (Keep.of_wr W81).1
              have Fa82 : PI Z h81 o0 .int 3 (own_l [(s0 + (1 : Int32)), s1, s2]) := F0.setL (by decide) W81 rfl (Nat.le_of_ble_eq_true rfl) rfl
              refine go (u' := T81.setTop (mkF m 99 #[.val (.ref o0), .val (.int p1), .val (.int p2), .val (.int p3), .val (.int (0 : Int32)), .val (.int (1 : Int32)), .val (.int (0 : Int32))] [])) st81 ?_
              refine go (u' := T81.setTop (mkF m 100 #[.val (.ref o0), .val (.int p1), .val (.int p2), .val (.int p3), .val (.int (0 : Int32)), .val (.int (1 : Int32)), .val (.int (0 : Int32))] [(.ref o0)])) (fun _ ks_ => XS.aloadN X81.here hx rfl (hb hby d5_99) rfl rfl ks_) ?_
              refine go (u' := T81.setTop (mkF m 101 #[.val (.ref o0), .val (.int p1), .val (.int p2), .val (.int p3), .val (.int (0 : Int32)), .val (.int (1 : Int32)), .val (.int (0 : Int32))] [(.int (1 : Int32)), (.ref o0)])) (fun _ ks_ => XS.iconst X81.here hx rfl (hb hby d5_100) ks_) ?_
              refine go (u' := T81.setTop (mkF m 102 #[.val (.ref o0), .val (.int p1), .val (.int p2), .val (.int p3), .val (.int (0 : Int32)), .val (.int (1 : Int32)), .val (.int (0 : Int32))] [(.int (1 : Int32)), (.int (1 : Int32)), (.ref o0)])) (fun _ ks_ => XS.iconst X81.here hx rfl (hb hby d5_101) ks_) ?_
              obtain ⟨T83, h83, X83, e83, W83, st83⟩ := own_iastore X81 hx hZ e81 Fa82 (j := (1 : Int32)) (x := (1 : Int32))  (by decide) (by decide) (f := (mkF m 102 #[.val (.ref o0), .val (.int p1), .val (.int p2), .val (.int p3), .val (.int (0 : Int32)), .val (.int (1 : Int32)), .val (.int (0 : Int32))] [(.int (1 : Int32)), (.int (1 : Int32)), (.ref o0)])) rfl rfl (hb hby d5_102)
              have N83 := Fr.snoc X83 N81 g_o0
              have K83 : Keep h0 h83 [o0] := K81.wr W83 (Or.inl (List.mem_of_getElem? (i := 0) rfl))
              have Z83 : n0 ≤ h83.size := Nat.le_trans Z81 (Keep.of_wr W83).1
              have Fa84 : PI Z h83 o0 .int 3 (own_l [(s0 + (1 : Int32)), (1 : Int32), s2]) := Fa82.setL (by decide) W83 rfl (Nat.le_of_ble_eq_true rfl) rfl
              refine go (u' := T83.setTop (mkF m 103 #[.val (.ref o0), .val (.int p1), .val (.int p2), .val (.int p3), .val (.int (0 : Int32)), .val (.int (1 : Int32)), .val (.int (0 : Int32))] [])) st83 ?_
              refine go (u' := T83.setTop (mkF m 114 #[.val (.ref o0), .val (.int p1), .val (.int p2), .val (.int p3), .val (.int (0 : Int32)), .val (.int (1 : Int32)), .val (.int (0 : Int32))] [])) (fun _ ks_ => XS.goto X83.here hx rfl (pc0 := 103) (pc' := 114) rfl (hb hby d5_103) (by decide) (by decide) ks_) ?_
              refine go (u' := T83.setTop (mkF m 115 #[.val (.ref o0), .val (.int p1), .val (.int p2), .val (.int p3), .val (.int (0 : Int32)), .val (.int (1 : Int32)), .val (.int (0 : Int32))] [(.ref o0)])) (fun _ ks_ => XS.aloadN X83.here hx rfl (hb hby d5_114) rfl rfl ks_) ?_
              refine go (u' := T83.setTop (mkF m 116 #[.val (.ref o0), .val (.int p1), .val (.int p2), .val (.int p3), .val (.int (0 : Int32)), .val (.int (1 : Int32)), .val (.int (0 : Int32))] [(.int (2 : Int32)), (.ref o0)])) (fun _ ks_ => XS.iconst X83.here hx rfl (hb hby d5_115) ks_) ?_
              refine go (u' := T83.setTop (mkF m 118 #[.val (.ref o0), .val (.int p1), .val (.int p2), .val (.int p3), .val (.int (0 : Int32)), .val (.int (1 : Int32)), .val (.int (0 : Int32))] [(.int (0 : Int32)), (.int (2 : Int32)), (.ref o0)])) (fun _ ks_ => XS.iload X83.here hx rfl (hb hby d5_116) rfl  ks_) ?_
              refine go (u' := T83.setTop (mkF m 125 #[.val (.ref o0), .val (.int p1), .val (.int p2), .val (.int p3), .val (.int (0 : Int32)), .val (.int (1 : Int32)), .val (.int (0 : Int32))] [(.int (2 : Int32)), (.ref o0)])) (fun _ ks_ => XS.ifYes X83.here hx rfl (pc0 := 118) (pc' := 125) rfl (hb hby d5_118) rfl ((if0 _ _).trans (teq (show (0 : Int32) = (0 : Int32) from (by decide))).1) (by decide) (by decide) ks_) ?_
              refine go (u' := T83.setTop (mkF m 126 #[.val (.ref o0), .val (.int p1), .val (.int p2), .val (.int p3), .val (.int (0 : Int32)), .val (.int (1 : Int32)), .val (.int (0 : Int32))] [(.int (0 : Int32)), (.int (2 : Int32)), (.ref o0)])) (fun _ ks_ => XS.iconst X83.here hx rfl (hb hby d5_125) ks_) ?_
              obtain ⟨T85, h85, X85, e85, W85, st85⟩ := own_iastore X83 hx hZ e83 Fa84 (j := (2 : Int32)) (x := (0 : Int32))  (by decide) (by decide) (f := (mkF m 126 #[.val (.ref o0), .val (.int p1), .val (.int p2), .val (.int p3), .val (.int (0 : Int32)), .val (.int (1 : Int32)), .val (.int (0 : Int32))] [(.int (0 : Int32)), (.int (2 : Int32)), (.ref o0)])) rfl rfl (hb hby d5_126)
              have N85 := Fr.snoc X85 N83 g_o0
              have K85 : Keep h0 h85 [o0] := K83.wr W85 (Or.inl (List.mem_of_getElem? (i := 0) rfl))
              have Z85 : n0 ≤ h85.size := Nat.le_trans Z83 (Keep.of_wr W85).1
              have Fa86 : PI Z h85 o0 .int 3 (own_l [(s0 + (1 : Int32)), (1 : Int32), (0 : Int32)]) := Fa84.setL (by decide) W85 rfl (Nat.le_of_ble_eq_true rfl) rfl
              refine go (u' := T85.setTop (mkF m 127 #[.val (.ref o0), .val (.int p1), .val (.int p2), .val (.int p3), .val (.int (0 : Int32)), .val (.int (1 : Int32)), .val (.int (0 : Int32))] [])) st85 ?_
              rw [hG]
              refine g0 X85 hx hlk hret (hb hby d5_127) ?_ (Nat.le_of_ble_eq_true rfl) (Nat.le_of_ble_eq_true rfl)
              show Q_rm5 Z o0 p1 p2 p3 s0 s1 s2 h0 n0 (none) T85.heap _
              rw [e85]
              exact ⟨rfl, N85, K85, (own_Lto Fa86 (congr (congrArg List.cons (show (s0 + (1 : Int32)) = (if p2 = (13 : Int32) then (s0 + (1 : Int32)) else (if p2 = (10 : Int32) then (if p1 = (0 : Int32) then (if s2 = (0 : Int32) then (s0 + (1 : Int32)) else s0) else (if p2 = (8232 : Int32) then (s0 + (1 : Int32)) else (if s2 = (0 : Int32) then (s0 + (1 : Int32)) else s0))) else (if p1 = (0 : Int32) then s0 else (if p2 = (133 : Int32) then (if p2 = (8232 : Int32) then (s0 + (1 : Int32)) else (if s2 = (0 : Int32) then (s0 + (1 : Int32)) else s0)) else (if p2 = (8232 : Int32) then (s0 + (1 : Int32)) else s0))))) from (((((((if_neg c3_1).trans (if_neg c16_9)).trans (if_neg c20_14)).trans (if_pos c27_15)).trans (if_neg c45_16)).trans (if_pos c88_17))).symm)) (congr (congrArg List.cons (show (1 : Int32) = (if p2 = (13 : Int32) then (1 : Int32) else (if p2 = (10 : Int32) then (if p1 = (0 : Int32) then (if s2 = (0 : Int32) then (1 : Int32) else s1) else (if p2 = (8232 : Int32) then (1 : Int32) else (if s2 = (0 : Int32) then (1 : Int32) else s1))) else (if p1 = (0 : Int32) then (s1 + p3) else (if p2 = (133 : Int32) then (if p2 = (8232 : Int32) then (1 : Int32) else (if s2 = (0 : Int32) then (1 : Int32) else s1)) else (if p2 = (8232 : Int32) then (1 : Int32) else (s1 + p3)))))) from (((((((if_neg c3_1).trans (if_neg c16_9)).trans (if_neg c20_14)).trans (if_pos c27_15)).trans (if_neg c45_16)).trans (if_pos c88_17))).symm)) (congr (congrArg List.cons (show (0 : Int32) = (if p2 = (13 : Int32) then (1 : Int32) else (0 : Int32)) from ((if_neg c3_1)).symm)) rfl))))⟩
            ·
              refine go (u' := s₁.setTop (mkF m 114 #[.val (.ref o0), .val (.int p1), .val (.int p2), .val (.int p3), .val (.int (0 : Int32)), .val (.int (1 : Int32)), .val (.int (0 : Int32))] [])) (fun _ ks_ => XS.ifYes X0.here hx rfl (pc0 := 88) (pc' := 114) rfl (hb hby d5_88) rfl ((if0 _ _).trans (feq c88_17).2) (by decide) (by decide) ks_) ?_
              refine go (u' := s₁.setTop (mkF m 115 #[.val (.ref o0), .val (.int p1), .val (.int p2), .val (.int p3), .val (.int (0 : Int32)), .val (.int (1 : Int32)), .val (.int (0 : Int32))] [(.ref o0)])) (fun _ ks_ => XS.aloadN X0.here hx rfl (hb hby d5_114) rfl rfl ks_) ?_
              refine go (u' := s₁.setTop (mkF m 116 #[.val (.ref o0), .val (.int p1), .val (.int p2), .val (.int p3), .val (.int (0 : Int32)), .val (.int (1 : Int32)), .val (.int (0 : Int32))] [(.int (2 : Int32)), (.ref o0)])) (fun _ ks_ => XS.iconst X0.here hx rfl (hb hby d5_115) ks_) ?_
              refine go (u' := s₁.setTop (mkF m 118 #[.val (.ref o0), .val (.int p1), .val (.int p2), .val (.int p3), .val (.int (0 : Int32)), .val (.int (1 : Int32)), .val (.int (0 : Int32))] [(.int (0 : Int32)), (.int (2 : Int32)), (.ref o0)])) (fun _ ks_ => XS.iload X0.here hx rfl (hb hby d5_116) rfl  ks_) ?_
              refine go (u' := s₁.setTop (mkF m 125 #[.val (.ref o0), .val (.int p1), .val (.int p2), .val (.int p3), .val (.int (0 : Int32)), .val (.int (1 : Int32)), .val (.int (0 : Int32))] [(.int (2 : Int32)), (.ref o0)])) (fun _ ks_ => XS.ifYes X0.here hx rfl (pc0 := 118) (pc' := 125) rfl (hb hby d5_118) rfl ((if0 _ _).trans (teq (show (0 : Int32) = (0 : Int32) from (by decide))).1) (by decide) (by decide) ks_) ?_
              refine go (u' := s₁.setTop (mkF m 126 #[.val (.ref o0), .val (.int p1), .val (.int p2), .val (.int p3), .val (.int (0 : Int32)), .val (.int (1 : Int32)), .val (.int (0 : Int32))] [(.int (0 : Int32)), (.int (2 : Int32)), (.ref o0)])) (fun _ ks_ => XS.iconst X0.here hx rfl (hb hby d5_125) ks_) ?_
              obtain ⟨T87, h87, X87, e87, W87, st87⟩ := own_iastore X0 hx hZ e0 F0 (j := (2 : Int32)) (x := (0 : Int32))  (by decide) (by decide) (f := (mkF m 126 #[.val (.ref o0), .val (.int p1), .val (.int p2), .val (.int p3), .val (.int (0 : Int32)), .val (.int (1 : Int32)), .val (.int (0 : Int32))] [(.int (0 : Int32)), (.int (2 : Int32)), (.ref o0)])) rfl rfl (hb hby d5_126)
              have N87 := Fr.snoc X87 N0 g_o0
              have K87 : Keep h0 h87 [o0] := (Keep.refl h0 [o0]).wr W87 (Or.inl (List.mem_of_getElem? (i := 0) rfl))
              have Z87 : n0 ≤ h87.size := Nat.le_trans Z0 (Keep.of_wr W87).1
              have Fa88 : PI Z h87 o0 .int 3 (own_l [s0, s1, (0 : Int32)]) := F0.setL (by decide) W87 rfl (Nat.le_of_ble_eq_true rfl) rfl
              refine go (u' := T87.setTop (mkF m 127 #[.val (.ref o0), .val (.int p1), .val (.int p2), .val (.int p3), .val (.int (0 : Int32)), .val (.int (1 : Int32)), .val (.int (0 : Int32))] [])) st87 ?_
              rw [hG]
              refine g0 X87 hx hlk hret (hb hby d5_127) ?_ (Nat.le_of_ble_eq_true rfl) (Nat.le_of_ble_eq_true rfl)
              show Q_rm5 Z o0 p1 p2 p3 s0 s1 s2 h0 n0 (none) T87.heap _
              rw [e87]
              exact ⟨rfl, N87, K87, (own_Lto Fa88 (congr (congrArg List.cons (show s0 = (if p2 = (13 : Int32) then (s0 + (1 : Int32)) else (if p2 = (10 : Int32) then (if p1 = (0 : Int32) then (if s2 = (0 : Int32) then (s0 + (1 : Int32)) else s0) else (if p2 = (8232 : Int32) then (s0 + (1 : Int32)) else (if s2 = (0 : Int32) then (s0 + (1 : Int32)) else s0))) else (if p1 = (0 : Int32) then s0 else (if p2 = (133 : Int32) then (if p2 = (8232 : Int32) then (s0 + (1 : Int32)) else (if s2 = (0 : Int32) then (s0 + (1 : Int32)) else s0)) else (if p2 = (8232 : Int32) then (s0 + (1 : Int32)) else s0))))) from (((((((if_neg c3_1).trans (if_neg c16_9)).trans (if_neg c20_14)).trans (if_pos c27_15)).trans (if_neg c45_16)).trans (if_neg c88_17))).symm)) (congr (congrArg List.cons (show s1 = (if p2 = (13 : Int32) then (1 : Int32) else (if p2 = (10 : Int32) then (if p1 = (0 : Int32) then (if s2 = (0 : Int32) then (1 : Int32) else s1) else (if p2 = (8232 : Int32) then (1 : Int32) else (if s2 = (0 : Int32) then (1 : Int32) else s1))) else (if p1 = (0 : Int32) then (s1 + p3) else (if p2 = (133 : Int32) then (if p2 = (8232 : Int32) then (1 : Int32) else (if s2 = (0 : Int32) then (1 : Int32) else s1)) else (if p2 = (8232 : Int32) then (1 : Int32) else (s1 + p3)))))) from (((((((if_neg c3_1).trans (if_neg c16_9)).trans (if_neg c20_14)).trans (if_pos c27_15)).trans (if_neg c45_16)).trans (if_neg c88_17))).symm)) (congr (congrArg List.cons (show (0 : Int32) = (if p2 = (13 : Int32) then (1 : Int32) else (0 : Int32)) from ((if_neg c3_1)).symm)) rfl))))⟩
        ·
          refine go (u' := s₁.setTop (mkF m 34 #[.val (.ref o0), .val (.int p1), .val (.int p2), .val (.int p3), .val (.int (0 : Int32)), .unset, .unset] [])) (fun _ ks_ => XS.icmpYes X0.here hx rfl (pc0 := 27) (pc' := 34) rfl (hb hby d5_27) rfl (feq c27_15).2 (by decide) (by decide) ks_) ?_
          refine go (u' := s₁.setTop (mkF m 35 #[.val (.ref o0), .val (.int p1), .val (.int p2), .val (.int p3), .val (.int (0 : Int32)), .unset, .unset] [(.int (0 : Int32))])) (fun _ ks_ => XS.iconst X0.here hx rfl (hb hby d5_34) ks_) ?_
          refine go (u' := s₁.setTop (mkF m 37 #[.val (.ref o0), .val (.int p1), .val (.int p2), .val (.int p3), .val (.int (0 : Int32)), .val (.int (0 : Int32)), .unset] [])) (fun _ ks_ => XS.istore X0.here hx rfl (hb hby d5_35) rfl  (l' := #[.val (.ref o0), .val (.int p1), .val (.int p2), .val (.int p3), .val (.int (0 : Int32)), .val (.int (0 : Int32)), .unset]) rfl ks_) ?_
          refine go (u' := s₁.setTop (mkF m 38 #[.val (.ref o0), .val (.int p1), .val (.int p2), .val (.int p3), .val (.int (0 : Int32)), .val (.int (0 : Int32)), .unset] [(.int p1)])) (fun _ ks_ => XS.iloadN X0.here hx rfl (hb hby d5_37) rfl  ks_) ?_
          refine go (u' := s₁.setTop (mkF m 41 #[.val (.ref o0), .val (.int p1), .val (.int p2), .val (.int p3), .val (.int (0 : Int32)), .val (.int (0 : Int32)), .unset] [])) (fun _ ks_ => XS.ifNo X0.here hx rfl (hb hby d5_38) rfl ((if0 _ _).trans (feq c20_14).1) ks_) ?_
          refine go (u' := s₁.setTop (mkF m 42 #[.val (.ref o0), .val (.int p1), .val (.int p2), .val (.int p3), .val (.int (0 : Int32)), .val (.int (0 : Int32)), .unset] [(.int p2)])) (fun _ ks_ => XS.iloadN X0.here hx rfl (hb hby d5_41) rfl  ks_) ?_
          refine go (u' := s₁.setTop (mkF m 45 #[.val (.ref o0), .val (.int p1), .val (.int p2), .val (.int p3), .val (.int (0 : Int32)), .val (.int (0 : Int32)), .unset] [(.int (8232 : Int32)), (.int p2)])) (fun _ ks_ => XS.sipush X0.here hx rfl (hb hby d5_42) ks_) ?_
          by_cases c45_18 : p2 = (8232 : Int32)
          ·
            refine go (u' := s₁.setTop (mkF m 48 #[.val (.ref o0), .val (.int p1), .val (.int p2), .val (.int p3), .val (.int (0 : Int32)), .val (.int (0 : Int32)), .unset] [])) (fun _ ks_ => XS.icmpNo X0.here hx rfl (hb hby d5_45) rfl (teq c45_18).2 ks_) ?_
            refine go (u' := s₁.setTop (mkF m 49 #[.val (.ref o0), .val (.int p1), .val (.int p2), .val (.int p3), .val (.int (0 : Int32)), .val (.int (0 : Int32)), .unset] [(.int (1 : Int32))])) (fun _ ks_ => XS.iconst X0.here hx rfl (hb hby d5_48) ks_) ?_
            refine go (u' := s₁.setTop (mkF m 53 #[.val (.ref o0), .val (.int p1), .val (.int p2), .val (.int p3), .val (.int (0 : Int32)), .val (.int (0 : Int32)), .unset] [(.int (1 : Int32))])) (fun _ ks_ => XS.goto X0.here hx rfl (pc0 := 49) (pc' := 53) rfl (hb hby d5_49) (by decide) (by decide) ks_) ?_
            refine go (u' := s₁.setTop (mkF m 55 #[.val (.ref o0), .val (.int p1), .val (.int p2), .val (.int p3), .val (.int (0 : Int32)), .val (.int (0 : Int32)), .val (.int (1 : Int32))] [])) (fun _ ks_ => XS.istore X0.here hx rfl (hb hby d5_53) rfl  (l' := #[.val (.ref o0), .val (.int p1), .val (.int p2), .val (.int p3), .val (.int (0 : Int32)), .val (.int (0 : Int32)), .val (.int (1 : Int32))]) rfl ks_) ?_
            refine go (u' := s₁.setTop (mkF m 57 #[.val (.ref o0), .val (.int p1), .val (.int p2), .val (.int p3), .val (.int (0 : Int32)), .val (.int (0 : Int32)), .val (.int (1 : Int32))] [(.int (0 : Int32))])) (fun _ ks_ => XS.iload X0.here hx rfl (hb hby d5_55) rfl  ks_) ?_
            refine go (u' := s₁.setTop (mkF m 60 #[.val (.ref o0), .val (.int p1), .val (.int p2), .val (.int p3), .val (.int (0 : Int32)), .val (.int (0 : Int32)), .val (.int (1 : Int32))] [])) (fun _ ks_ => XS.ifNo X0.here hx rfl (hb hby d5_57) rfl ((if0 _ _).trans (teq (show (0 : Int32) = (0 : Int32) from (by decide))).2) ks_) ?_
            refine go (u' := s₁.setTop (mkF m 62 #[.val (.ref o0), .val (.int p1), .val (.int p2), .val (.int p3), .val (.int (0 : Int32)), .val (.int (0 : Int32)), .val (.int (1 : Int32))] [(.int (1 : Int32))])) (fun _ ks_ => XS.iload X0.here hx rfl (hb hby d5_60) rfl  ks_) ?_
            refine go (u' := s₁.setTop (mkF m 65 #[.val (.ref o0), .val (.int p1), .val (.int p2), .val (.int p3), .val (.int (0 : Int32)), .val (.int (0 : Int32)), .val (.int (1 : Int32))] [])) (fun _ ks_ => XS.ifNo X0.here hx rfl (hb hby d5_62) rfl ((if0 _ _).trans (feq (show ¬ ((1 : Int32) = (0 : Int32)) from (by decide))).1) ks_) ?_
            refine go (u' := s₁.setTop (mkF m 66 #[.val (.ref o0), .val (.int p1), .val (.int p2), .val (.int p3), .val (.int (0 : Int32)), .val (.int (0 : Int32)), .val (.int (1 : Int32))] [(.ref o0)])) (fun _ ks_ => XS.aloadN X0.here hx rfl (hb hby d5_65) rfl rfl ks_) ?_
            refine go (u' := s₁.setTop (mkF m 67 #[.val (.ref o0), .val (.int p1), .val (.int p2), .val (.int p3), .val (.int (0 : Int32)), .val (.int (0 : Int32)), .val (.int (1 : Int32))] [(.int (0 : Int32)), (.ref o0)])) (fun _ ks_ => XS.iconst X0.here hx rfl (hb hby d5_66) ks_) ?_
            refine go (u' := s₁.setTop (mkF m 68 #[.val (.ref o0), .val (.int p1), .val (.int p2), .val (.int p3), .val (.int (0 : Int32)), .val (.int (0 : Int32)), .val (.int (1 : Int32))] [(.ref o0), (.int (0 : Int32)), (.ref o0)])) (fun _ ks_ => XS.aloadN X0.here hx rfl (hb hby d5_67) rfl rfl ks_) ?_
            refine go (u' := s₁.setTop (mkF m 69 #[.val (.ref o0), .val (.int p1), .val (.int p2), .val (.int p3), .val (.int (0 : Int32)), .val (.int (0 : Int32)), .val (.int (1 : Int32))] [(.int (0 : Int32)), (.ref o0), (.int (0 : Int32)), (.ref o0)])) (fun _ ks_ => XS.iconst X0.here hx rfl (hb hby d5_68) ks_) ?_
            refine go (u' := s₁.setTop (mkF m 70 #[.val (.ref o0), .val (.int p1), .val (.int p2), .val (.int p3), .val (.int (0 : Int32)), .val (.int (0 : Int32)), .val (.int (1 : Int32))] [(.int s0), (.int (0 : Int32)), (.ref o0)])) (own_iaload X0 hx hZ e0 F0 (j := (0 : Int32)) (v := s0) (by decide) (by decide) rfl (f := (mkF m 69 #[.val (.ref o0), .val (.int p1), .val (.int p2), .val (.int p3), .val (.int (0 : Int32)), .val (.int (0 : Int32)), .val (.int (1 : Int32))] [(.int (0 : Int32)), (.ref o0), (.int (0 : Int32)), (.ref o0)])) rfl rfl (hb hby d5_69)) ?_
            refine go (u' := s₁.setTop (mkF m 71 #[.val (.ref o0), .val (.int p1), .val (.int p2), .val (.int p3), .val (.int (0 : Int32)), .val (.int (0 : Int32)), .val (.int (1 : Int32))] [(.int (1 : Int32)), (.int s0), (.int (0 : Int32)), (.ref o0)])) (fun _ ks_ => XS.iconst X0.here hx rfl (hb hby d5_70) ks_) ?_
            refine go (u' := s₁.setTop (mkF m 72 #[.val (.ref o0), .val (.int p1), .val (.int p2), .val (.int p3), .val (.int (0 : Int32)), .val (.int (0 : Int32)), .val (.int (1 : Int32))] [(.int (s0 + (1 : Int32))), (.int (0 : Int32)), (.ref o0)])) (fun _ ks_ => XS.iadd X0.here hx rfl (hb hby d5_71) rfl ks_) ?_
            obtain ⟨T89, h89, X89, e89, W89, st89⟩ := own_iastore X0 hx hZ e0 F0 (j := (0 : Int32)) (x := (s0 + (1 : Int32)))  (by decide) (by decide) (f := (mkF m 72 #[.val (.ref o0), .val (.int p1), .val (.int p2), .val (.int p3), .val (.int (0 : Int32)), .val (.int (0 : Int32)), .val (.int (1 : Int32))] [(.int (s0 + (1 : Int32))), (.int (0 : Int32)), (.ref o0)])) rfl rfl (hb hby d5_72)
            have N89 := Fr.snoc X89 N0 g_o0
            have K89 : Keep h0 h89 [o0] := (Keep.refl h0 [o0]).wr W89 (Or.inl (List.mem_of_getElem? (i := 0) rfl))
            have Z89 : n0 ≤ h89.size := Nat.le_trans Z0 (Keep.of_wr W89).1
            have Fa90 : PI Z h89 o0 .int 3 (own_l [(s0 + (1 : Int32)), s1, s2]) := F0.setL (by decide) W89 rfl (Nat.le_of_ble_eq_true rfl) rfl
            refine go (u' := T89.setTop (mkF m 73 #[.val (.ref o0), .val (.int p1), .val (.int p2), .val (.int p3), .val (.int (0 : Int32)), .val (.int (0 : Int32)), .val (.int (1 : Int32))] [])) st89 ?_
            refine go (u' := T89.setTop (mkF m 74 #[.val (.ref o0), .val (.int p1), .val (.int p2), .val (.int p3), .val (.int (0 : Int32)), .val (.int (0 : Int32)), .val (.int (1 : Int32))] [(.ref o0)])) (fun _ ks_ => XS.aloadN X89.here hx rfl (hb hby d5_73) rfl rfl ks_) ?_
            refine go (u' := T89.setTop (mkF m 75 #[.val (.ref o0), .val (.int p1), .val (.int p2), .val (.int p3), .val (.int (0 : Int32)), .val (.int (0 : Int32)), .val (.int (1 : Int32))] [(.int (1 : Int32)), (.ref o0)])) (fun _ ks_ => XS.iconst X89.here hx rfl (hb hby d5_74) ks_) ?_
            refine go (u' := T89.setTop (mkF m 76 #[.val (.ref o0), .val (.int p1), .val (.int p2), .val (.int p3), .val (.int (0 : Int32)), .val (.int (0 : Int32)), .val (.int (1 : Int32))] [(.int (1 : Int32)), (.int (1 : Int32)), (.ref o0)])) (fun _ ks_ => XS.iconst X89.here hx rfl (hb hby d5_75) ks_) ?_
            obtain ⟨T91, h91, X91, e91, W91, st91⟩ := own_iastore X89 hx hZ e89 Fa90 (j := (1 : Int32)) (x := (1 : Int32))  (by decide) (by decide) (f := (mkF m 76 #[.val (.ref o0), .val (.int p1), .val (.int p2), .val (.int p3), .val (.int (0 : Int32)), .val (.int (0 : Int32)), .val (.int (1 : Int32))] [(.int (1 : Int32)), (.int (1 : Int32)), (.ref o0)])) rfl rfl (hb hby d5_76)
            have N91 := Fr.snoc X91 N89 g_o0
            have K91 : Keep h0 h91 [o0] := K89.wr W91 (Or.inl (List.mem_of_getElem? (i := 0) rfl))
            have Z91 : n0 ≤ h91.size := Nat.le_trans Z89 (Keep.of_wr W91).1
            have Fa92 : PI Z h91 o0 .int 3 (own_l [(s0 + (1 : Int32)), (1 : Int32), s2]) := Fa90.setL (by decide) W91 rfl (Nat.le_of_ble_eq_true rfl) rfl
            refine go (u' := T91.setTop (mkF m 77 #[.val (.ref o0), .val (.int p1), .val (.int p2), .val (.int p3), .val (.int (0 : Int32)), .val (.int (0 : Int32)), .val (.int (1 : Int32))] [])) st91 ?_
            refine go (u' := T91.setTop (mkF m 114 #[.val (.ref o0), .val (.int p1), .val (.int p2), .val (.int p3), .val (.int (0 : Int32)), .val (.int (0 : Int32)), .val (.int (1 : Int32))] [])) (fun _ ks_ => XS.goto X91.here hx rfl (pc0 := 77) (pc' := 114) rfl (hb hby d5_77) (by decide) (by decide) ks_) ?_
            refine go (u' := T91.setTop (mkF m 115 #[.val (.ref o0), .val (.int p1), .val (.int p2), .val (.int p3), .val (.int (0 : Int32)), .val (.int (0 : Int32)), .val (.int (1 : Int32))] [(.ref o0)])) (fun _ ks_ => XS.aloadN X91.here hx rfl (hb hby d5_114) rfl rfl ks_) ?_
            refine go (u' := T91.setTop (mkF m 116 #[.val (.ref o0), .val (.int p1), .val (.int p2), .val (.int p3), .val (.int (0 : Int32)), .val (.int (0 : Int32)), .val (.int (1 : Int32))] [(.int (2 : Int32)), (.ref o0)])) (fun _ ks_ => XS.iconst X91.here hx rfl (hb hby d5_115) ks_) ?_
            refine go (u' := T91.setTop (mkF m 118 #[.val (.ref o0), .val (.int p1), .val (.int p2), .val (.int p3), .val (.int (0 : Int32)), .val (.int (0 : Int32)), .val (.int (1 : Int32))] [(.int (0 : Int32)), (.int (2 : Int32)), (.ref o0)])) (fun _ ks_ => XS.iload X91.here hx rfl (hb hby d5_116) rfl  ks_) ?_
            refine go (u' := T91.setTop (mkF m 125 #[.val (.ref o0), .val (.int p1), .val (.int p2), .val (.int p3), .val (.int (0 : Int32)), .val (.int (0 : Int32)), .val (.int (1 : Int32))] [(.int (2 : Int32)), (.ref o0)])) (fun _ ks_ => XS.ifYes X91.here hx rfl (pc0 := 118) (pc' := 125) rfl (hb hby d5_118) rfl ((if0 _ _).trans (teq (show (0 : Int32) = (0 : Int32) from (by decide))).1) (by decide) (by decide) ks_) ?_
            refine go (u' := T91.setTop (mkF m 126 #[.val (.ref o0), .val (.int p1), .val (.int p2), .val (.int p3), .val (.int (0 : Int32)), .val (.int (0 : Int32)), .val (.int (1 : Int32))] [(.int (0 : Int32)), (.int (2 : Int32)), (.ref o0)])) (fun _ ks_ => XS.iconst X91.here hx rfl (hb hby d5_125) ks_) ?_
            obtain ⟨T93, h93, X93, e93, W93, st93⟩ := own_iastore X91 hx hZ e91 Fa92 (j := (2 : Int32)) (x := (0 : Int32))  (by decide) (by decide) (f := (mkF m 126 #[.val (.ref o0), .val (.int p1), .val (.int p2), .val (.int p3), .val (.int (0 : Int32)), .val (.int (0 : Int32)), .val (.int (1 : Int32))] [(.int (0 : Int32)), (.int (2 : Int32)), (.ref o0)])) rfl rfl (hb hby d5_126)
            have N93 := Fr.snoc X93 N91 g_o0
            have K93 : Keep h0 h93 [o0] := K91.wr W93 (Or.inl (List.mem_of_getElem? (i := 0) rfl))
            have Z93 : n0 ≤ h93.size := Nat.le_trans Z91 (Keep.of_wr W93).1
            have Fa94 : PI Z h93 o0 .int 3 (own_l [(s0 + (1 : Int32)), (1 : Int32), (0 : Int32)]) := Fa92.setL (by decide) W93 rfl (Nat.le_of_ble_eq_true rfl) rfl
            refine go (u' := T93.setTop (mkF m 127 #[.val (.ref o0), .val (.int p1), .val (.int p2), .val (.int p3), .val (.int (0 : Int32)), .val (.int (0 : Int32)), .val (.int (1 : Int32))] [])) st93 ?_
            rw [hG]
            refine g0 X93 hx hlk hret (hb hby d5_127) ?_ (Nat.le_of_ble_eq_true rfl) (Nat.le_of_ble_eq_true rfl)
            show Q_rm5 Z o0 p1 p2 p3 s0 s1 s2 h0 n0 (none) T93.heap _
            rw [e93]
            exact ⟨rfl, N93, K93, (own_Lto Fa94 (congr (congrArg List.cons (show (s0 + (1 : Int32)) = (if p2 = (13 : Int32) then (s0 + (1 : Int32)) else (if p2 = (10 : Int32) then (if p1 = (0 : Int32) then (if s2 = (0 : Int32) then (s0 + (1 : Int32)) else s0) else (if p2 = (8232 : Int32) then (s0 + (1 : Int32)) else (if s2 = (0 : Int32) then (s0 + (1 : Int32)) else s0))) else (if p1 = (0 : Int32) then s0 else (if p2 = (133 : Int32) then (if p2 = (8232 : Int32) then (s0 + (1 : Int32)) else (if s2 = (0 : Int32) then (s0 + (1 : Int32)) else s0)) else (if p2 = (8232 : Int32) then (s0 + (1 : Int32)) else s0))))) from ((((((if_neg c3_1).trans (if_neg c16_9)).trans (if_neg c20_14)).trans (if_neg c27_15)).trans (if_pos c45_18))).symm)) (congr (congrArg List.cons (show (1 : Int32) = (if p2 = (13 : Int32) then (1 : Int32) else (if p2 = (10 : Int32) then (if p1 = (0 : Int32) then (if s2 = (0 : Int32) then (1 : Int32) else s1) else (if p2 = (8232 : Int32) then (1 : Int32) else (if s2 = (0 : Int32) then (1 : Int32) else s1))) else (if p1 = (0 : Int32) then (s1 + p3) else (if p2 = (133 : Int32) then (if p2 = (8232 : Int32) then (1 : Int32) else (if s2 = (0 : Int32) then (1 : Int32) else s1)) else (if p2 = (8232 : Int32) then (1 : Int32) else (s1 + p3)))))) from ((((((if_neg c3_1).trans (if_neg c16_9)).trans (if_neg c20_14)).trans (if_neg c27_15)).trans (if_pos c45_18))).symm)) (congr (congrArg List.cons (show (0 : Int32) = (if p2 = (13 : Int32) then (1 : Int32) else (0 : Int32)) from ((if_neg c3_1)).symm)) rfl))))⟩
          ·
            refine go (u' := s₁.setTop (mkF m 52 #[.val (.ref o0), .val (.int p1), .val (.int p2), .val (.int p3), .val (.int (0 : Int32)), .val (.int (0 : Int32)), .unset] [])) (fun _ ks_ => XS.icmpYes X0.here hx rfl (pc0 := 45) (pc' := 52) rfl (hb hby d5_45) rfl (feq c45_18).2 (by decide) (by decide) ks_) ?_
            refine go (u' := s₁.setTop (mkF m 53 #[.val (.ref o0), .val (.int p1), .val (.int p2), .val (.int p3), .val (.int (0 : Int32)), .val (.int (0 : Int32)), .unset] [(.int (0 : Int32))])) (fun _ ks_ => XS.iconst X0.here hx rfl (hb hby d5_52) ks_) ?_
            refine go (u' := s₁.setTop (mkF m 55 #[.val (.ref o0), .val (.int p1), .val (.int p2), .val (.int p3), .val (.int (0 : Int32)), .val (.int (0 : Int32)), .val (.int (0 : Int32))] [])) (fun _ ks_ => XS.istore X0.here hx rfl (hb hby d5_53) rfl  (l' := #[.val (.ref o0), .val (.int p1), .val (.int p2), .val (.int p3), .val (.int (0 : Int32)), .val (.int (0 : Int32)), .val (.int (0 : Int32))]) rfl ks_) ?_
            refine go (u' := s₁.setTop (mkF m 57 #[.val (.ref o0), .val (.int p1), .val (.int p2), .val (.int p3), .val (.int (0 : Int32)), .val (.int (0 : Int32)), .val (.int (0 : Int32))] [(.int (0 : Int32))])) (fun _ ks_ => XS.iload X0.here hx rfl (hb hby d5_55) rfl  ks_) ?_
            refine go (u' := s₁.setTop (mkF m 60 #[.val (.ref o0), .val (.int p1), .val (.int p2), .val (.int p3), .val (.int (0 : Int32)), .val (.int (0 : Int32)), .val (.int (0 : Int32))] [])) (fun _ ks_ => XS.ifNo X0.here hx rfl (hb hby d5_57) rfl ((if0 _ _).trans (teq (show (0 : Int32) = (0 : Int32) from (by decide))).2) ks_) ?_
            refine go (u' := s₁.setTop (mkF m 62 #[.val (.ref o0), .val (.int p1), .val (.int p2), .val (.int p3), .val (.int (0 : Int32)), .val (.int (0 : Int32)), .val (.int (0 : Int32))] [(.int (0 : Int32))])) (fun _ ks_ => XS.iload X0.here hx rfl (hb hby d5_60) rfl  ks_) ?_
            refine go (u' := s₁.setTop (mkF m 80 #[.val (.ref o0), .val (.int p1), .val (.int p2), .val (.int p3), .val (.int (0 : Int32)), .val (.int (0 : Int32)), .val (.int (0 : Int32))] [])) (fun _ ks_ => XS.ifYes X0.here hx rfl (pc0 := 62) (pc' := 80) rfl (hb hby d5_62) rfl ((if0 _ _).trans (teq (show (0 : Int32) = (0 : Int32) from (by decide))).1) (by decide) (by decide) ks_) ?_
            refine go (u' := s₁.setTop (mkF m 82 #[.val (.ref o0), .val (.int p1), .val (.int p2), .val (.int p3), .val (.int (0 : Int32)), .val (.int (0 : Int32)), .val (.int (0 : Int32))] [(.int (0 : Int32))])) (fun _ ks_ => XS.iload X0.here hx rfl (hb hby d5_80) rfl  ks_) ?_
            refine go (u' := s₁.setTop (mkF m 106 #[.val (.ref o0), .val (.int p1), .val (.int p2), .val (.int p3), .val (.int (0 : Int32)), .val (.int (0 : Int32)), .val (.int (0 : Int32))] [])) (fun _ ks_ => XS.ifYes X0.here hx rfl (pc0 := 82) (pc' := 106) rfl (hb hby d5_82) rfl ((if0 _ _).trans (teq (show (0 : Int32) = (0 : Int32) from (by decide))).1) (by decide) (by decide) ks_) ?_
            refine go (u' := s₁.setTop (mkF m 107 #[.val (.ref o0), .val (.int p1), .val (.int p2), .val (.int p3), .val (.int (0 : Int32)), .val (.int (0 : Int32)), .val (.int (0 : Int32))] [(.ref o0)])) (fun _ ks_ => XS.aloadN X0.here hx rfl (hb hby d5_106) rfl rfl ks_) ?_
            refine go (u' := s₁.setTop (mkF m 108 #[.val (.ref o0), .val (.int p1), .val (.int p2), .val (.int p3), .val (.int (0 : Int32)), .val (.int (0 : Int32)), .val (.int (0 : Int32))] [(.int (1 : Int32)), (.ref o0)])) (fun _ ks_ => XS.iconst X0.here hx rfl (hb hby d5_107) ks_) ?_
            refine go (u' := s₁.setTop (mkF m 109 #[.val (.ref o0), .val (.int p1), .val (.int p2), .val (.int p3), .val (.int (0 : Int32)), .val (.int (0 : Int32)), .val (.int (0 : Int32))] [(.ref o0), (.int (1 : Int32)), (.ref o0)])) (fun _ ks_ => XS.aloadN X0.here hx rfl (hb hby d5_108) rfl rfl ks_) ?_
            refine go (u' := s₁.setTop (mkF m 110 #[.val (.ref o0), .val (.int p1), .val (.int p2), .val (.int p3), .val (.int (0 : Int32)), .val (.int (0 : Int32)), .val (.int (0 : Int32))] [(.int (1 : Int32)), (.ref o0), (.int (1 : Int32)), (.ref o0)])) (fun _ ks_ => XS.iconst X0.here hx rfl (hb hby d5_109) ks_) ?_
            refine go (u' := s₁.setTop (mkF m 111 #[.val (.ref o0), .val (.int p1), .val (.int p2), .val (.int p3), .val (.int (0 : Int32)), .val (.int (0 : Int32)), .val (.int (0 : Int32))] [(.int s1), (.int (1 : Int32)), (.ref o0)])) (own_iaload X0 hx hZ e0 F0 (j := (1 : Int32)) (v := s1) (by decide) (by decide) rfl (f := (mkF m 110 #[.val (.ref o0), .val (.int p1), .val (.int p2), .val (.int p3), .val (.int (0 : Int32)), .val (.int (0 : Int32)), .val (.int (0 : Int32))] [(.int (1 : Int32)), (.ref o0), (.int (1 : Int32)), (.ref o0)])) rfl rfl (hb hby d5_110)) ?_
            refine go (u' := s₁.setTop (mkF m 112 #[.val (.ref o0), .val (.int p1), .val (.int p2), .val (.int p3), .val (.int (0 : Int32)), .val (.int (0 : Int32)), .val (.int (0 : Int32))] [(.int p3), (.int s1), (.int (1 : Int32)), (.ref o0)])) (fun _ ks_ => XS.iloadN X0.here hx rfl (hb hby d5_111) rfl  ks_) ?_
            refine go (u' := s₁.setTop (mkF m 113 #[.val (.ref o0), .val (.int p1), .val (.int p2), .val (.int p3), .val (.int (0 : Int32)), .val (.int (0 : Int32)), .val (.int (0 : Int32))] [(.int (s1 + p3)), (.int (1 : Int32)), (.ref o0)])) (fun _ ks_ => XS.iadd X0.here hx rfl (hb hby d5_112) rfl ks_) ?_
            obtain ⟨T95, h95, X95, e95, W95, st95⟩ := own_iastore X0 hx hZ e0 F0 (j := (1 : Int32)) (x := (s1 + p3))  (by decide) (by decide) (f := (mkF m 113 #[.val (.ref o0), .val (.int p1), .val (.int p2), .val (.int p3), .val (.int (0 : Int32)), .val (.int (0 : Int32)), .val (.int (0 : Int32))] [(.int (s1 + p3)), (.int (1 : Int32)), (.ref o0)])) rfl rfl (hb hby d5_113)
            have N95 := Fr.snoc X95 N0 g_o0
            have K95 : Keep h0 h95 [o0] := (Keep.refl h0 [o0]).wr W95 (Or.inl (List.mem_of_getElem? (i := 0) rfl))
            have Z95 : n0 ≤ h95.size := Nat.le_trans Z0 (Keep.of_wr W95).1
            have Fa96 : PI Z h95 o0 .int 3 (own_l [s0, (s1 + p3), s2]) := F0.setL (by decide) W95 rfl (Nat.le_of_ble_eq_true rfl) rfl
            refine go (u' := T95.setTop (mkF m 114 #[.val (.ref o0), .val (.int p1), .val (.int p2), .val (.int p3), .val (.int (0 : Int32)), .val (.int (0 : Int32)), .val (.int (0 : Int32))] [])) st95 ?_
            refine go (u' := T95.setTop (mkF m 115 #[.val (.ref o0), .val (.int p1), .val (.int p2), .val (.int p3), .val (.int (0 : Int32)), .val (.int (0 : Int32)), .val (.int (0 : Int32))] [(.ref o0)])) (fun _ ks_ => XS.aloadN X95.here hx rfl (hb hby d5_114) rfl rfl ks_) ?_
            refine go (u' := T95.setTop (mkF m 116 #[.val (.ref o0), .val (.int p1), .val (.int p2), .val (.int p3), .val (.int (0 : Int32)), .val (.int (0 : Int32)), .val (.int (0 : Int32))] [(.int (2 : Int32)), (.ref o0)])) (fun _ ks_ => XS.iconst X95.here hx rfl (hb hby d5_115) ks_) ?_
            refine go (u' := T95.setTop (mkF m 118 #[.val (.ref o0), .val (.int p1), .val (.int p2), .val (.int p3), .val (.int (0 : Int32)), .val (.int (0 : Int32)), .val (.int (0 : Int32))] [(.int (0 : Int32)), (.int (2 : Int32)), (.ref o0)])) (fun _ ks_ => XS.iload X95.here hx rfl (hb hby d5_116) rfl  ks_) ?_
            refine go (u' := T95.setTop (mkF m 125 #[.val (.ref o0), .val (.int p1), .val (.int p2), .val (.int p3), .val (.int (0 : Int32)), .val (.int (0 : Int32)), .val (.int (0 : Int32))] [(.int (2 : Int32)), (.ref o0)])) (fun _ ks_ => XS.ifYes X95.here hx rfl (pc0 := 118) (pc' := 125) rfl (hb hby d5_118) rfl ((if0 _ _).trans (teq (show (0 : Int32) = (0 : Int32) from (by decide))).1) (by decide) (by decide) ks_) ?_
            refine go (u' := T95.setTop (mkF m 126 #[.val (.ref o0), .val (.int p1), .val (.int p2), .val (.int p3), .val (.int (0 : Int32)), .val (.int (0 : Int32)), .val (.int (0 : Int32))] [(.int (0 : Int32)), (.int (2 : Int32)), (.ref o0)])) (fun _ ks_ => XS.iconst X95.here hx rfl (hb hby d5_125) ks_) ?_
            obtain ⟨T97, h97, X97, e97, W97, st97⟩ := own_iastore X95 hx hZ e95 Fa96 (j := (2 : Int32)) (x := (0 : Int32))  (by decide) (by decide) (f := (mkF m 126 #[.val (.ref o0), .val (.int p1), .val (.int p2), .val (.int p3), .val (.int (0 : Int32)), .val (.int (0 : Int32)), .val (.int (0 : Int32))] [(.int (0 : Int32)), (.int (2 : Int32)), (.ref o0)])) rfl rfl (hb hby d5_126)
            have N97 := Fr.snoc X97 N95 g_o0
            have K97 : Keep h0 h97 [o0] := K95.wr W97 (Or.inl (List.mem_of_getElem? (i := 0) rfl))
            have Z97 : n0 ≤ h97.size := Nat.le_trans Z95 (Keep.of_wr W97).1
            have Fa98 : PI Z h97 o0 .int 3 (own_l [s0, (s1 + p3), (0 : Int32)]) := Fa96.setL (by decide) W97 rfl (Nat.le_of_ble_eq_true rfl) rfl
            refine go (u' := T97.setTop (mkF m 127 #[.val (.ref o0), .val (.int p1), .val (.int p2), .val (.int p3), .val (.int (0 : Int32)), .val (.int (0 : Int32)), .val (.int (0 : Int32))] [])) st97 ?_
            rw [hG]
            refine g0 X97 hx hlk hret (hb hby d5_127) ?_ (Nat.le_of_ble_eq_true rfl) (Nat.le_of_ble_eq_true rfl)
            show Q_rm5 Z o0 p1 p2 p3 s0 s1 s2 h0 n0 (none) T97.heap _
            rw [e97]
            exact ⟨rfl, N97, K97, (own_Lto Fa98 (congr (congrArg List.cons (show s0 = (if p2 = (13 : Int32) then (s0 + (1 : Int32)) else (if p2 = (10 : Int32) then (if p1 = (0 : Int32) then (if s2 = (0 : Int32) then (s0 + (1 : Int32)) else s0) else (if p2 = (8232 : Int32) then (s0 + (1 : Int32)) else (if s2 = (0 : Int32) then (s0 + (1 : Int32)) else s0))) else (if p1 = (0 : Int32) then s0 else (if p2 = (133 : Int32) then (if p2 = (8232 : Int32) then (s0 + (1 : Int32)) else (if s2 = (0 : Int32) then (s0 + (1 : Int32)) else s0)) else (if p2 = (8232 : Int32) then (s0 + (1 : Int32)) else s0))))) from ((((((if_neg c3_1).trans (if_neg c16_9)).trans (if_neg c20_14)).trans (if_neg c27_15)).trans (if_neg c45_18))).symm)) (congr (congrArg List.cons (show (s1 + p3) = (if p2 = (13 : Int32) then (1 : Int32) else (if p2 = (10 : Int32) then (if p1 = (0 : Int32) then (if s2 = (0 : Int32) then (1 : Int32) else s1) else (if p2 = (8232 : Int32) then (1 : Int32) else (if s2 = (0 : Int32) then (1 : Int32) else s1))) else (if p1 = (0 : Int32) then (s1 + p3) else (if p2 = (133 : Int32) then (if p2 = (8232 : Int32) then (1 : Int32) else (if s2 = (0 : Int32) then (1 : Int32) else s1)) else (if p2 = (8232 : Int32) then (1 : Int32) else (s1 + p3)))))) from ((((((if_neg c3_1).trans (if_neg c16_9)).trans (if_neg c20_14)).trans (if_neg c27_15)).trans (if_neg c45_18))).symm)) (congr (congrArg List.cons (show (0 : Int32) = (if p2 = (13 : Int32) then (1 : Int32) else (0 : Int32)) from ((if_neg c3_1)).symm)) rfl))))⟩
theorem pn_com_example_locattr_locattr_PlaceCounter_line_6 : plainFor (⟨"com/example/locattr/locattr/PlaceCounter", "line", "()I"⟩ : MethodName) = true := by first | exact plainFor_of_name (by first | (simp [plainName, overriddenIn]; done) | decide +kernel) | decide +kernel
def Q_rm6 (Z : State) (o0 : Addr) (li : Int32) (h0 : Heap) (n0 : Nat) (v : Option Value) (h : Heap) (L : List Loc) : Prop := v = some (.int li) ∧ Fr n0 L ∧ h = h0
set_option maxRecDepth 65536 in
set_option maxHeartbeats 4000000 in
theorem ef_rm6 (m : MethodId) (o0 : Addr) : entryFrame m #[(.ref o0)] 1 = mkF m 0 #[.val (.ref o0)] [] := by first | (simp [entryFrame, mkF, argsToLocals, Value.category, maxLocals]; done) | rfl
theorem d6_0 : decode prog_89_method_3_code 0 = .ok (.aload_n 0, 1) := by decide +kernel
theorem d6_1 : decode prog_89_method_3_code 1 = .ok (.getfield 7, 3) := by decide +kernel
theorem d6_4 : decode prog_89_method_3_code 4 = .ok (.ireturn, 1) := by decide +kernel
set_option maxRecDepth 65536 in
set_option maxHeartbeats 40000000 in
theorem rm6 (l : Launch) (Z : State) (a0 : Array Value) (hw : ∀ d ∈ tables_1, d.before a0 Z = true) (ws : List Jvm.Cond) (o0 : Addr) (li : Int32) (h0 : Heap) (n0 : Nat) (Z0 : n0 ≤ h0.size) (F0 : Fld Z h0 o0 "com/example/locattr/locattr/PlaceCounter" "line" "I" (.int li)) :
    MetFree l (⟨"com/example/locattr/locattr/PlaceCounter", "line", "()I"⟩ : MethodName) (head1 (Jvm.Cond.code (⟨"com/example/locattr/locattr/PlaceCounter", "line", "()I"⟩ : MethodName) prog_89_method_3_code 1 (some .int) :: ws) ({ frames := 0, cells := 0, slots := 0, locals := 0 } : Room)) (fun a U => a = #[(.ref o0)] ∧ Z.Warmed39 U.vm ∧ U.heap = h0) (fun _ _ _ _ _ => True) (fun _ U o U' => ∃ v L, o = .returned v ∧ Q_rm6 Z o0 li h0 n0 v U'.heap L ∧ FrameEnd U o U' L ({ frames := 0, cells := 0, slots := 0, locals := 0 } : Room).cells ({ frames := 0, cells := 0, slots := 0, locals := 0 } : Room).slots) := by
  refine body pn_com_example_locattr_locattr_PlaceCounter_line_6 ?_
  intro p e s m below meth c s₁ hx hby hml hown hnm hret hlk hZ e0 X0
  replace hml : c.maxLocals = 1 := hml
  replace hown : s.vm.findClass "com/example/locattr/locattr/PlaceCounter" = some m.cls := hown
  replace hnm : meth.name = "line" := hnm
  replace hret : meth.sig.returnType = (some .int) := hret
  have N0 := Fr.nil n0
  rw [ef_rm6]
  obtain ⟨G, hG⟩ : ∃ G, G = End (Q_rm6 Z o0 li h0 n0) s ({ frames := 0, cells := 0, slots := 0, locals := 0 } : Room).cells ({ frames := 0, cells := 0, slots := 0, locals := 0 } : Room).slots := ⟨_, rfl⟩
  rw [← hG]
  refine go (u' := s₁.setTop (mkF m 1 #[.val (.ref o0)] [(.ref o0)])) (fun _ ks_ => XS.aloadN X0.here hx rfl (hb hby d6_0) rfl rfl ks_) ?_
  obtain ⟨T1, X1, e1, st1⟩ := getF X0 hx hZ hown (host := "") (Or.inl (ww hw 14 rfl)) Via.refl e0 F0 (g := (mkF m 1 #[.val (.ref o0)] [(.ref o0)])) rfl rfl (hb hby d6_1)
  refine go (u' := T1.setTop (mkF m 4 #[.val (.ref o0)] [(.int li)])) st1 ?_
  rw [hG]
  refine gI X1 hx hlk hret (hb hby d6_4) ?_ (Nat.le_of_ble_eq_true rfl) (Nat.le_of_ble_eq_true rfl)
  show Q_rm6 Z o0 li h0 n0 (some (.int li)) T1.heap _
  rw [e1]
  exact ⟨rfl, N0, rfl⟩
theorem pn_com_example_locattr_locattr_PlaceCounter_column_7 : plainFor (⟨"com/example/locattr/locattr/PlaceCounter", "column", "()I"⟩ : MethodName) = true := by first | exact plainFor_of_name (by first | (simp [plainName, overriddenIn]; done) | decide +kernel) | decide +kernel
def Q_rm7 (Z : State) (o0 : Addr) (co : Int32) (h0 : Heap) (n0 : Nat) (v : Option Value) (h : Heap) (L : List Loc) : Prop := v = some (.int co) ∧ Fr n0 L ∧ h = h0
set_option maxRecDepth 65536 in
set_option maxHeartbeats 4000000 in
theorem ef_rm7 (m : MethodId) (o0 : Addr) : entryFrame m #[(.ref o0)] 1 = mkF m 0 #[.val (.ref o0)] [] := by first | (simp [entryFrame, mkF, argsToLocals, Value.category, maxLocals]; done) | rfl
theorem d7_0 : decode prog_89_method_4_code 0 = .ok (.aload_n 0, 1) := by decide +kernel
theorem d7_1 : decode prog_89_method_4_code 1 = .ok (.getfield 13, 3) := by decide +kernel
theorem d7_4 : decode prog_89_method_4_code 4 = .ok (.ireturn, 1) := by decide +kernel
set_option maxRecDepth 65536 in
set_option maxHeartbeats 40000000 in
theorem rm7 (l : Launch) (Z : State) (a0 : Array Value) (hw : ∀ d ∈ tables_1, d.before a0 Z = true) (ws : List Jvm.Cond) (o0 : Addr) (co : Int32) (h0 : Heap) (n0 : Nat) (Z0 : n0 ≤ h0.size) (F0 : Fld Z h0 o0 "com/example/locattr/locattr/PlaceCounter" "column" "I" (.int co)) :
    MetFree l (⟨"com/example/locattr/locattr/PlaceCounter", "column", "()I"⟩ : MethodName) (head1 (Jvm.Cond.code (⟨"com/example/locattr/locattr/PlaceCounter", "column", "()I"⟩ : MethodName) prog_89_method_4_code 1 (some .int) :: ws) ({ frames := 0, cells := 0, slots := 0, locals := 0 } : Room)) (fun a U => a = #[(.ref o0)] ∧ Z.Warmed39 U.vm ∧ U.heap = h0) (fun _ _ _ _ _ => True) (fun _ U o U' => ∃ v L, o = .returned v ∧ Q_rm7 Z o0 co h0 n0 v U'.heap L ∧ FrameEnd U o U' L ({ frames := 0, cells := 0, slots := 0, locals := 0 } : Room).cells ({ frames := 0, cells := 0, slots := 0, locals := 0 } : Room).slots) := by
  refine body pn_com_example_locattr_locattr_PlaceCounter_column_7 ?_
  intro p e s m below meth c s₁ hx hby hml hown hnm hret hlk hZ e0 X0
  replace hml : c.maxLocals = 1 := hml
  replace hown : s.vm.findClass "com/example/locattr/locattr/PlaceCounter" = some m.cls := hown
  replace hnm : meth.name = "column" := hnm
  replace hret : meth.sig.returnType = (some .int) := hret
  have N0 := Fr.nil n0
  rw [ef_rm7]
  obtain ⟨G, hG⟩ : ∃ G, G = End (Q_rm7 Z o0 co h0 n0) s ({ frames := 0, cells := 0, slots := 0, locals := 0 } : Room).cells ({ frames := 0, cells := 0, slots := 0, locals := 0 } : Room).slots := ⟨_, rfl⟩
  rw [← hG]
  refine go (u' := s₁.setTop (mkF m 1 #[.val (.ref o0)] [(.ref o0)])) (fun _ ks_ => XS.aloadN X0.here hx rfl (hb hby d7_0) rfl rfl ks_) ?_
  obtain ⟨T1, X1, e1, st1⟩ := getF X0 hx hZ hown (host := "") (Or.inl (ww hw 16 rfl)) Via.refl e0 F0 (g := (mkF m 1 #[.val (.ref o0)] [(.ref o0)])) rfl rfl (hb hby d7_1)
  refine go (u' := T1.setTop (mkF m 4 #[.val (.ref o0)] [(.int co)])) st1 ?_
  rw [hG]
  refine gI X1 hx hlk hret (hb hby d7_4) ?_ (Nat.le_of_ble_eq_true rfl) (Nat.le_of_ble_eq_true rfl)
  show Q_rm7 Z o0 co h0 n0 (some (.int co)) T1.heap _
  rw [e1]
  exact ⟨rfl, N0, rfl⟩
theorem own_eq0 (c l x a : Int32) : ps_line c l x a = sp_a0 x c l a := by
  simp only [ps_line, sp_a0]
  repeat' split
  all_goals first | rfl | simp_all
theorem own_eq1 (c u k x a : Int32) : ps_column c u k x a = sp_a1 x c u k a := by
  simp only [ps_column, sp_a1]
  repeat' split
  all_goals first | rfl | simp_all
theorem own_eq2 (c : Int32) : ps_afterReturn c = sp_a2 c := rfl
theorem pd__40_II_41_I : parseMethodDescriptor "(II)I" = some ⟨[.int, .int], some .int⟩ := by decide +kernel
theorem pd__40_Z_41_V : parseMethodDescriptor "(Z)V" = some ⟨[.boolean], none⟩ := by decide +kernel
theorem pd__40_II_41_V : parseMethodDescriptor "(II)V" = some ⟨[.int, .int], none⟩ := by decide +kernel
theorem pd__40__91_IZII_41_V : parseMethodDescriptor "([IZII)V" = some ⟨[(.array .int), .boolean, .int, .int], none⟩ := by decide +kernel
theorem pd__40__41_I : parseMethodDescriptor "()I" = some ⟨[], some .int⟩ := by decide +kernel
theorem pn_com_example_locattr_locattr_PlaceCounterPassPinLaw_law_0 : plainFor x = true := by first | exact plainFor_of_name (by first | (simp [plainName, overriddenIn]; done) | decide +kernel) | decide +kernel
def Q_rm0 (Z : State) (p0 : Int32) (p1 : Int32) (p2 : Int32) (p3 : Int32) (p4 : Int32) (p5 : Int32) (h0 : Heap) (n0 : Nat) (v : Option Value) (h : Heap) (L : List Loc) : Prop := v = some (.int (1 : Int32)) ∧ Fr n0 L
set_option maxRecDepth 65536 in
set_option maxHeartbeats 4000000 in
theorem ef_rm0 (m : MethodId) (p0 : Int32) (p1 : Int32) (p2 : Int32) (p3 : Int32) (p4 : Int32) (p5 : Int32) : entryFrame m #[(.int p0), (.int p1), (.int p2), (.int p3), (.int p4), (.int p5)] maxLocals = mkF m 0 #[.val (.int p0), .val (.int p1), .val (.int p2), .val (.int p3), .val (.int p4), .val (.int p5), .unset, .unset, .unset, .unset, .unset, .unset, .unset, .unset] [] := by first | (simp [entryFrame, mkF, argsToLocals, Value.category, maxLocals]; done) | rfl
set_option maxRecDepth 65536 in
set_option maxHeartbeats 40000000 in
theorem rm0 (l : Launch) (Z : State) (a0 : Array Value) (hw : ∀ d ∈ tables_1, d.before a0 Z = true) (ws : List Jvm.Cond) (p0 : Int32) (p1 : Int32) (p2 : Int32) (p3 : Int32) (p4 : Int32) (p5 : Int32) (h0 : Heap) (n0 : Nat) (Z0 : n0 ≤ h0.size)  :
    MetFree l x (head1 (Jvm.Cond.code x code maxLocals ret :: ws) room_1) (fun a U => a = #[(.int p0), (.int p1), (.int p2), (.int p3), (.int p4), (.int p5)] ∧ Z.Warmed39 U.vm ∧ U.heap = h0) (fun _ _ _ _ _ => True) (fun _ U o U' => ∃ v L, o = .returned v ∧ Q_rm0 Z p0 p1 p2 p3 p4 p5 h0 n0 v U'.heap L ∧ FrameEnd U o U' L room_1.cells room_1.slots) := by
  refine body pn_com_example_locattr_locattr_PlaceCounterPassPinLaw_law_0 ?_
  intro p e s m below meth c s₁ hx hby hml hown hnm hret hlk hZ e0 X0
  replace hml : c.maxLocals = 14 := hml
  replace hown : s.vm.findClass "com/example/locattr/locattr/PlaceCounterPassPinLaw" = some m.cls := hown
  replace hnm : meth.name = "law" := hnm
  replace hret : meth.sig.returnType = (some .boolean) := hret
  have N0 := Fr.nil n0
  rw [ef_rm0]
  obtain ⟨G, hG⟩ : ∃ G, G = End (Q_rm0 Z p0 p1 p2 p3 p4 p5 h0 n0) s room_1.cells room_1.slots := ⟨_, rfl⟩
  rw [← hG]
  refine go (u' := s₁.setTop (mkF m 1 #[.val (.int p0), .val (.int p1), .val (.int p2), .val (.int p3), .val (.int p4), .val (.int p5), .unset, .unset, .unset, .unset, .unset, .unset, .unset, .unset] [(.int p0)])) (fun _ ks_ => XS.iloadN X0.here hx rfl (hb hby at_0) rfl  ks_) ?_
  refine go (u' := s₁.setTop (mkF m 2 #[.val (.int p0), .val (.int p1), .val (.int p2), .val (.int p3), .val (.int p4), .val (.int p5), .unset, .unset, .unset, .unset, .unset, .unset, .unset, .unset] [(.int (1 : Int32)), (.int p0)])) (fun _ ks_ => XS.iconst X0.here hx rfl (hb hby at_1) ks_) ?_
  refine go (u' := s₁.setTop (mkF m 3 #[.val (.int p0), .val (.int p1), .val (.int p2), .val (.int p3), .val (.int p4), .val (.int p5), .unset, .unset, .unset, .unset, .unset, .unset, .unset, .unset] [(.int (p0 &&& (1 : Int32)))])) (fun _ ks_ => XS.iand X0.here hx rfl (hb hby at_2) rfl ks_) ?_
  have J11_1 : ∀ v11_1 : Int32, v11_1 = (B (¬ ((p0 &&& (1 : Int32)) = (0 : Int32)))) → Go p.tables e below G (s₁.setTop (mkF m 11 #[.val (.int p0), .val (.int p1), .val (.int p2), .val (.int p3), .val (.int p4), .val (.int p5), .unset, .unset, .unset, .unset, .unset, .unset, .unset, .unset] [(.int v11_1)])) := by
    intro v11_1 hv11_1
    subst hv11_1
    refine go (u' := s₁.setTop (mkF m 13 #[.val (.int p0), .val (.int p1), .val (.int p2), .val (.int p3), .val (.int p4), .val (.int p5), .val (.int (B (¬ ((p0 &&& (1 : Int32)) = (0 : Int32))))), .unset, .unset, .unset, .unset, .unset, .unset, .unset] [])) (fun _ ks_ => XS.istore X0.here hx rfl (hb hby at_11) rfl  (l' := #[.val (.int p0), .val (.int p1), .val (.int p2), .val (.int p3), .val (.int p4), .val (.int p5), .val (.int (B (¬ ((p0 &&& (1 : Int32)) = (0 : Int32))))), .unset, .unset, .unset, .unset, .unset, .unset, .unset]) rfl ks_) ?_
    refine go (u' := s₁.setTop (mkF m 14 #[.val (.int p0), .val (.int p1), .val (.int p2), .val (.int p3), .val (.int p4), .val (.int p5), .val (.int (B (¬ ((p0 &&& (1 : Int32)) = (0 : Int32))))), .unset, .unset, .unset, .unset, .unset, .unset, .unset] [(.int p0)])) (fun _ ks_ => XS.iloadN X0.here hx rfl (hb hby at_13) rfl  ks_) ?_
    refine go (u' := s₁.setTop (mkF m 15 #[.val (.int p0), .val (.int p1), .val (.int p2), .val (.int p3), .val (.int p4), .val (.int p5), .val (.int (B (¬ ((p0 &&& (1 : Int32)) = (0 : Int32))))), .unset, .unset, .unset, .unset, .unset, .unset, .unset] [(.int (1 : Int32)), (.int p0)])) (fun _ ks_ => XS.iconst X0.here hx rfl (hb hby at_14) ks_) ?_
    refine go (u' := s₁.setTop (mkF m 16 #[.val (.int p0), .val (.int p1), .val (.int p2), .val (.int p3), .val (.int p4), .val (.int p5), .val (.int (B (¬ ((p0 &&& (1 : Int32)) = (0 : Int32))))), .unset, .unset, .unset, .unset, .unset, .unset, .unset] [(.int ((p0.toUInt32 >>> ((1 : Int32) &&& 31).toUInt32).toInt32))])) (fun _ ks_ => XS.iushr X0.here hx rfl (hb hby at_15) rfl ks_) ?_
    refine go (u' := s₁.setTop (mkF m 17 #[.val (.int p0), .val (.int p1), .val (.int p2), .val (.int p3), .val (.int p4), .val (.int p5), .val (.int (B (¬ ((p0 &&& (1 : Int32)) = (0 : Int32))))), .unset, .unset, .unset, .unset, .unset, .unset, .unset] [(.int p1), (.int ((p0.toUInt32 >>> ((1 : Int32) &&& 31).toUInt32).toInt32))])) (fun _ ks_ => XS.iloadN X0.here hx rfl (hb hby at_16) rfl  ks_) ?_
    obtain ⟨_, _, ⟨T1, L1, k1, n1⟩, -, X1, ⟨Lc1, hQ1, l1, y1, z1⟩, st1⟩ := Jvm.LawKit.callS X0 hx (y := (⟨"com/example/locattr/locattr/PlaceCounterPassPinLaw", "pick", "(II)I"⟩ : MethodName)) hown (mvT hZ (ww hw 0 rfl)) (mvT hZ (ww hw 1 rfl)) (mvT hZ (ww hw 2 rfl)) (mvT hZ (ww hw 3 rfl)) (by decide) (backOf (W := 0) (rm1 l Z a0 hw [] ((p0.toUInt32 >>> ((1 : Int32) &&& 31).toUInt32).toInt32) p1 h0 n0 Z0) hZ (ww hw 3 rfl) (ww hw 2 rfl) (by decide) (by decide)) (g := (mkF m 17 #[.val (.int p0), .val (.int p1), .val (.int p2), .val (.int p3), .val (.int p4), .val (.int p5), .val (.int (B (¬ ((p0 &&& (1 : Int32)) = (0 : Int32))))), .unset, .unset, .unset, .unset, .unset, .unset, .unset] [(.int p1), (.int ((p0.toUInt32 >>> ((1 : Int32) &&& 31).toUInt32).toInt32))])) rfl (by rw [hml]; rfl) (argsL := [(.int ((p0.toUInt32 >>> ((1 : Int32) &&& 31).toUInt32).toInt32)), (.int p1)]) (rest := []) (lenOf pd__40_II_41_I rfl) rfl (by show 2 * 0 + _ ≤ _; exact Nat.le_of_eq rfl) (hb hby at_17) (fun _ _ => ⟨rfl, e0, (by decide : 0 + 0 ≤ _), (by decide : 0 + 0 ≤ _)⟩)
    dsimp only [Pt.U, Pt.locs, Pt.cells, Pt.slots] at X1 l1 y1 z1 st1 hQ1
    subst l1 y1 z1
    obtain ⟨rfl, N1q, eq1⟩ := hQ1
    have N1 := Fr.app N0 N1q
    obtain ⟨ca, h_ca⟩ : ∃ z, z = (own_pick ((p0.toUInt32 >>> ((1 : Int32) &&& 31).toUInt32).toInt32) p1) := ⟨_, rfl⟩
    rw [← h_ca] at st1
    refine go (u' := T1.setTop (mkF m 20 #[.val (.int p0), .val (.int p1), .val (.int p2), .val (.int p3), .val (.int p4), .val (.int p5), .val (.int (B (¬ ((p0 &&& (1 : Int32)) = (0 : Int32))))), .unset, .unset, .unset, .unset, .unset, .unset, .unset] [(.int ca)])) st1 ?_
    refine go (u' := T1.setTop (mkF m 22 #[.val (.int p0), .val (.int p1), .val (.int p2), .val (.int p3), .val (.int p4), .val (.int p5), .val (.int (B (¬ ((p0 &&& (1 : Int32)) = (0 : Int32))))), .val (.int ca), .unset, .unset, .unset, .unset, .unset, .unset] [])) (fun _ ks_ => XS.istore X1.here hx rfl (hb hby at_20) rfl  (l' := #[.val (.int p0), .val (.int p1), .val (.int p2), .val (.int p3), .val (.int p4), .val (.int p5), .val (.int (B (¬ ((p0 &&& (1 : Int32)) = (0 : Int32))))), .val (.int ca), .unset, .unset, .unset, .unset, .unset, .unset]) rfl ks_) ?_
    refine go (u' := T1.setTop (mkF m 23 #[.val (.int p0), .val (.int p1), .val (.int p2), .val (.int p3), .val (.int p4), .val (.int p5), .val (.int (B (¬ ((p0 &&& (1 : Int32)) = (0 : Int32))))), .val (.int ca), .unset, .unset, .unset, .unset, .unset, .unset] [(.int p0)])) (fun _ ks_ => XS.iloadN X1.here hx rfl (hb hby at_22) rfl  ks_) ?_
    refine go (u' := T1.setTop (mkF m 24 #[.val (.int p0), .val (.int p1), .val (.int p2), .val (.int p3), .val (.int p4), .val (.int p5), .val (.int (B (¬ ((p0 &&& (1 : Int32)) = (0 : Int32))))), .val (.int ca), .unset, .unset, .unset, .unset, .unset, .unset] [(.int (4 : Int32)), (.int p0)])) (fun _ ks_ => XS.iconst X1.here hx rfl (hb hby at_23) ks_) ?_
    refine go (u' := T1.setTop (mkF m 25 #[.val (.int p0), .val (.int p1), .val (.int p2), .val (.int p3), .val (.int p4), .val (.int p5), .val (.int (B (¬ ((p0 &&& (1 : Int32)) = (0 : Int32))))), .val (.int ca), .unset, .unset, .unset, .unset, .unset, .unset] [(.int ((p0.toUInt32 >>> ((4 : Int32) &&& 31).toUInt32).toInt32))])) (fun _ ks_ => XS.iushr X1.here hx rfl (hb hby at_24) rfl ks_) ?_
    refine go (u' := T1.setTop (mkF m 26 #[.val (.int p0), .val (.int p1), .val (.int p2), .val (.int p3), .val (.int p4), .val (.int p5), .val (.int (B (¬ ((p0 &&& (1 : Int32)) = (0 : Int32))))), .val (.int ca), .unset, .unset, .unset, .unset, .unset, .unset] [(.int p2), (.int ((p0.toUInt32 >>> ((4 : Int32) &&& 31).toUInt32).toInt32))])) (fun _ ks_ => XS.iloadN X1.here hx rfl (hb hby at_25) rfl  ks_) ?_
    obtain ⟨_, _, ⟨T2, L2, k2, n2⟩, -, X2, ⟨Lc2, hQ2, l2, y2, z2⟩, st2⟩ := Jvm.LawKit.callS X1 hx (y := (⟨"com/example/locattr/locattr/PlaceCounterPassPinLaw", "pick", "(II)I"⟩ : MethodName)) hown (mvT hZ (ww hw 0 rfl)) (mvT hZ (ww hw 1 rfl)) (mvT hZ (ww hw 2 rfl)) (mvT hZ (ww hw 3 rfl)) (by decide) (backOf (W := 0) (rm1 l Z a0 hw [] ((p0.toUInt32 >>> ((4 : Int32) &&& 31).toUInt32).toInt32) p2 h0 n0 Z0) hZ (ww hw 3 rfl) (ww hw 2 rfl) (by decide) (by decide)) (g := (mkF m 26 #[.val (.int p0), .val (.int p1), .val (.int p2), .val (.int p3), .val (.int p4), .val (.int p5), .val (.int (B (¬ ((p0 &&& (1 : Int32)) = (0 : Int32))))), .val (.int ca), .unset, .unset, .unset, .unset, .unset, .unset] [(.int p2), (.int ((p0.toUInt32 >>> ((4 : Int32) &&& 31).toUInt32).toInt32))])) rfl (by rw [hml]; rfl) (argsL := [(.int ((p0.toUInt32 >>> ((4 : Int32) &&& 31).toUInt32).toInt32)), (.int p2)]) (rest := []) (lenOf pd__40_II_41_I rfl) rfl (by show 2 * 0 + _ ≤ _; exact Nat.le_of_eq rfl) (hb hby at_26) (fun _ _ => ⟨rfl, eq1, (by decide : 0 + 0 ≤ _), (by decide : 0 + 0 ≤ _)⟩)
    dsimp only [Pt.U, Pt.locs, Pt.cells, Pt.slots] at X2 l2 y2 z2 st2 hQ2
    subst l2 y2 z2
    obtain ⟨rfl, N2q, eq2⟩ := hQ2
    have N2 := Fr.app N1 N2q
    obtain ⟨cb, h_cb⟩ : ∃ z, z = (own_pick ((p0.toUInt32 >>> ((4 : Int32) &&& 31).toUInt32).toInt32) p2) := ⟨_, rfl⟩
    rw [← h_cb] at st2
    refine go (u' := T2.setTop (mkF m 29 #[.val (.int p0), .val (.int p1), .val (.int p2), .val (.int p3), .val (.int p4), .val (.int p5), .val (.int (B (¬ ((p0 &&& (1 : Int32)) = (0 : Int32))))), .val (.int ca), .unset, .unset, .unset, .unset, .unset, .unset] [(.int cb)])) st2 ?_
    refine go (u' := T2.setTop (mkF m 31 #[.val (.int p0), .val (.int p1), .val (.int p2), .val (.int p3), .val (.int p4), .val (.int p5), .val (.int (B (¬ ((p0 &&& (1 : Int32)) = (0 : Int32))))), .val (.int ca), .val (.int cb), .unset, .unset, .unset, .unset, .unset] [])) (fun _ ks_ => XS.istore X2.here hx rfl (hb hby at_29) rfl  (l' := #[.val (.int p0), .val (.int p1), .val (.int p2), .val (.int p3), .val (.int p4), .val (.int p5), .val (.int (B (¬ ((p0 &&& (1 : Int32)) = (0 : Int32))))), .val (.int ca), .val (.int cb), .unset, .unset, .unset, .unset, .unset]) rfl ks_) ?_
    refine go (u' := T2.setTop (mkF m 32 #[.val (.int p0), .val (.int p1), .val (.int p2), .val (.int p3), .val (.int p4), .val (.int p5), .val (.int (B (¬ ((p0 &&& (1 : Int32)) = (0 : Int32))))), .val (.int ca), .val (.int cb), .unset, .unset, .unset, .unset, .unset] [(.int p0)])) (fun _ ks_ => XS.iloadN X2.here hx rfl (hb hby at_31) rfl  ks_) ?_
    refine go (u' := T2.setTop (mkF m 34 #[.val (.int p0), .val (.int p1), .val (.int p2), .val (.int p3), .val (.int p4), .val (.int p5), .val (.int (B (¬ ((p0 &&& (1 : Int32)) = (0 : Int32))))), .val (.int ca), .val (.int cb), .unset, .unset, .unset, .unset, .unset] [(.int (7 : Int32)), (.int p0)])) (fun _ ks_ => XS.bipush X2.here hx rfl (hb hby at_32) ks_) ?_
    refine go (u' := T2.setTop (mkF m 35 #[.val (.int p0), .val (.int p1), .val (.int p2), .val (.int p3), .val (.int p4), .val (.int p5), .val (.int (B (¬ ((p0 &&& (1 : Int32)) = (0 : Int32))))), .val (.int ca), .val (.int cb), .unset, .unset, .unset, .unset, .unset] [(.int ((p0.toUInt32 >>> ((7 : Int32) &&& 31).toUInt32).toInt32))])) (fun _ ks_ => XS.iushr X2.here hx rfl (hb hby at_34) rfl ks_) ?_
    refine go (u' := T2.setTop (mkF m 36 #[.val (.int p0), .val (.int p1), .val (.int p2), .val (.int p3), .val (.int p4), .val (.int p5), .val (.int (B (¬ ((p0 &&& (1 : Int32)) = (0 : Int32))))), .val (.int ca), .val (.int cb), .unset, .unset, .unset, .unset, .unset] [(.int p3), (.int ((p0.toUInt32 >>> ((7 : Int32) &&& 31).toUInt32).toInt32))])) (fun _ ks_ => XS.iloadN X2.here hx rfl (hb hby at_35) rfl  ks_) ?_
    obtain ⟨_, _, ⟨T3, L3, k3, n3⟩, -, X3, ⟨Lc3, hQ3, l3, y3, z3⟩, st3⟩ := Jvm.LawKit.callS X2 hx (y := (⟨"com/example/locattr/locattr/PlaceCounterPassPinLaw", "pick", "(II)I"⟩ : MethodName)) hown (mvT hZ (ww hw 0 rfl)) (mvT hZ (ww hw 1 rfl)) (mvT hZ (ww hw 2 rfl)) (mvT hZ (ww hw 3 rfl)) (by decide) (backOf (W := 0) (rm1 l Z a0 hw [] ((p0.toUInt32 >>> ((7 : Int32) &&& 31).toUInt32).toInt32) p3 h0 n0 Z0) hZ (ww hw 3 rfl) (ww hw 2 rfl) (by decide) (by decide)) (g := (mkF m 36 #[.val (.int p0), .val (.int p1), .val (.int p2), .val (.int p3), .val (.int p4), .val (.int p5), .val (.int (B (¬ ((p0 &&& (1 : Int32)) = (0 : Int32))))), .val (.int ca), .val (.int cb), .unset, .unset, .unset, .unset, .unset] [(.int p3), (.int ((p0.toUInt32 >>> ((7 : Int32) &&& 31).toUInt32).toInt32))])) rfl (by rw [hml]; rfl) (argsL := [(.int ((p0.toUInt32 >>> ((7 : Int32) &&& 31).toUInt32).toInt32)), (.int p3)]) (rest := []) (lenOf pd__40_II_41_I rfl) rfl (by show 2 * 0 + _ ≤ _; exact Nat.le_of_eq rfl) (hb hby at_36) (fun _ _ => ⟨rfl, eq2, (by decide : 0 + 0 ≤ _), (by decide : 0 + 0 ≤ _)⟩)
    dsimp only [Pt.U, Pt.locs, Pt.cells, Pt.slots] at X3 l3 y3 z3 st3 hQ3
    subst l3 y3 z3
    obtain ⟨rfl, N3q, eq3⟩ := hQ3
    have N3 := Fr.app N2 N3q
    obtain ⟨cc, h_cc⟩ : ∃ z, z = (own_pick ((p0.toUInt32 >>> ((7 : Int32) &&& 31).toUInt32).toInt32) p3) := ⟨_, rfl⟩
    rw [← h_cc] at st3
    refine go (u' := T3.setTop (mkF m 39 #[.val (.int p0), .val (.int p1), .val (.int p2), .val (.int p3), .val (.int p4), .val (.int p5), .val (.int (B (¬ ((p0 &&& (1 : Int32)) = (0 : Int32))))), .val (.int ca), .val (.int cb), .unset, .unset, .unset, .unset, .unset] [(.int cc)])) st3 ?_
    refine go (u' := T3.setTop (mkF m 41 #[.val (.int p0), .val (.int p1), .val (.int p2), .val (.int p3), .val (.int p4), .val (.int p5), .val (.int (B (¬ ((p0 &&& (1 : Int32)) = (0 : Int32))))), .val (.int ca), .val (.int cb), .val (.int cc), .unset, .unset, .unset, .unset] [])) (fun _ ks_ => XS.istore X3.here hx rfl (hb hby at_39) rfl  (l' := #[.val (.int p0), .val (.int p1), .val (.int p2), .val (.int p3), .val (.int p4), .val (.int p5), .val (.int (B (¬ ((p0 &&& (1 : Int32)) = (0 : Int32))))), .val (.int ca), .val (.int cb), .val (.int cc), .unset, .unset, .unset, .unset]) rfl ks_) ?_
    refine go (u' := T3.setTop (mkF m 43 #[.val (.int p0), .val (.int p1), .val (.int p2), .val (.int p3), .val (.int p4), .val (.int p5), .val (.int (B (¬ ((p0 &&& (1 : Int32)) = (0 : Int32))))), .val (.int ca), .val (.int cb), .val (.int cc), .unset, .unset, .unset, .unset] [(.int p4)])) (fun _ ks_ => XS.iload X3.here hx rfl (hb hby at_41) rfl  ks_) ?_
    refine go (u' := T3.setTop (mkF m 45 #[.val (.int p0), .val (.int p1), .val (.int p2), .val (.int p3), .val (.int p4), .val (.int p5), .val (.int (B (¬ ((p0 &&& (1 : Int32)) = (0 : Int32))))), .val (.int ca), .val (.int cb), .val (.int cc), .unset, .unset, .unset, .unset] [(.int p5), (.int p4)])) (fun _ ks_ => XS.iload X3.here hx rfl (hb hby at_43) rfl  ks_) ?_
    refine go (u' := T3.setTop (mkF m 46 #[.val (.int p0), .val (.int p1), .val (.int p2), .val (.int p3), .val (.int p4), .val (.int p5), .val (.int (B (¬ ((p0 &&& (1 : Int32)) = (0 : Int32))))), .val (.int ca), .val (.int cb), .val (.int cc), .unset, .unset, .unset, .unset] [(.int (p4 + p5))])) (fun _ ks_ => XS.iadd X3.here hx rfl (hb hby at_45) rfl ks_) ?_
    refine go (u' := T3.setTop (mkF m 48 #[.val (.int p0), .val (.int p1), .val (.int p2), .val (.int p3), .val (.int p4), .val (.int p5), .val (.int (B (¬ ((p0 &&& (1 : Int32)) = (0 : Int32))))), .val (.int ca), .val (.int cb), .val (.int cc), .val (.int (p4 + p5)), .unset, .unset, .unset] [])) (fun _ ks_ => XS.istore X3.here hx rfl (hb hby at_46) rfl  (l' := #[.val (.int p0), .val (.int p1), .val (.int p2), .val (.int p3), .val (.int p4), .val (.int p5), .val (.int (B (¬ ((p0 &&& (1 : Int32)) = (0 : Int32))))), .val (.int ca), .val (.int cb), .val (.int cc), .val (.int (p4 + p5)), .unset, .unset, .unset]) rfl ks_) ?_
    refine go (u' := T3.setTop (mkF m 49 #[.val (.int p0), .val (.int p1), .val (.int p2), .val (.int p3), .val (.int p4), .val (.int p5), .val (.int (B (¬ ((p0 &&& (1 : Int32)) = (0 : Int32))))), .val (.int ca), .val (.int cb), .val (.int cc), .val (.int (p4 + p5)), .unset, .unset, .unset] [(.int (3 : Int32))])) (fun _ ks_ => XS.iconst X3.here hx rfl (hb hby at_48) ks_) ?_
    obtain ⟨T4, h4, k4, X4, e4, E4, A4, st4⟩ := newP X3 hx hZ (ww hw 4 rfl) eq3 (g := (mkF m 49 #[.val (.int p0), .val (.int p1), .val (.int p2), .val (.int p3), .val (.int p4), .val (.int p5), .val (.int (B (¬ ((p0 &&& (1 : Int32)) = (0 : Int32))))), .val (.int ca), .val (.int cb), .val (.int cc), .val (.int (p4 + p5)), .unset, .unset, .unset] [(.int (3 : Int32))])) rfl (hb hby at_49) rfl (by decide) (cap := 3) (by decide) (by decide) (by decide) (by decide)
    obtain ⟨b4, g4⟩ : ∃ z, z = h0.size := ⟨_, rfl⟩
    rw [← g4] at A4 st4
    have g_b4 : n0 ≤ b4 := Nat.le_trans Z0 (Nat.le_of_eq g4.symm)
    have sz_b4 : h0.size ≤ b4 := Nat.le_trans (Keep.refl h0 []).1 (Nat.le_of_eq g4.symm)
    have K4 : Keep h0 h4 [] := (Keep.refl h0 []).ext E4
    have Z4 : n0 ≤ h4.size := Nat.le_trans Z0 E4.1
    have Fa5 : PI Z h4 b4 .int 3 (own_l [(0 : Int32), (0 : Int32), (0 : Int32)]) := PI.newL A4 (by decide) rfl rfl
    refine go (u' := T4.setTop (mkF m 51 #[.val (.int p0), .val (.int p1), .val (.int p2), .val (.int p3), .val (.int p4), .val (.int p5), .val (.int (B (¬ ((p0 &&& (1 : Int32)) = (0 : Int32))))), .val (.int ca), .val (.int cb), .val (.int cc), .val (.int (p4 + p5)), .unset, .unset, .unset] [(.ref b4)])) st4 ?_
    refine go (u' := T4.setTop (mkF m 53 #[.val (.int p0), .val (.int p1), .val (.int p2), .val (.int p3), .val (.int p4), .val (.int p5), .val (.int (B (¬ ((p0 &&& (1 : Int32)) = (0 : Int32))))), .val (.int ca), .val (.int cb), .val (.int cc), .val (.int (p4 + p5)), .val (.ref b4), .unset, .unset] [])) (fun _ ks_ => XS.astore X4.here hx rfl (hb hby at_51) rfl rfl (l' := #[.val (.int p0), .val (.int p1), .val (.int p2), .val (.int p3), .val (.int p4), .val (.int p5), .val (.int (B (¬ ((p0 &&& (1 : Int32)) = (0 : Int32))))), .val (.int ca), .val (.int cb), .val (.int cc), .val (.int (p4 + p5)), .val (.ref b4), .unset, .unset]) rfl ks_) ?_
    refine go (u' := T4.setTop (mkF m 55 #[.val (.int p0), .val (.int p1), .val (.int p2), .val (.int p3), .val (.int p4), .val (.int p5), .val (.int (B (¬ ((p0 &&& (1 : Int32)) = (0 : Int32))))), .val (.int ca), .val (.int cb), .val (.int cc), .val (.int (p4 + p5)), .val (.ref b4), .unset, .unset] [(.ref b4)])) (fun _ ks_ => XS.aload X4.here hx rfl (hb hby at_53) rfl rfl ks_) ?_
    refine go (u' := T4.setTop (mkF m 56 #[.val (.int p0), .val (.int p1), .val (.int p2), .val (.int p3), .val (.int p4), .val (.int p5), .val (.int (B (¬ ((p0 &&& (1 : Int32)) = (0 : Int32))))), .val (.int ca), .val (.int cb), .val (.int cc), .val (.int (p4 + p5)), .val (.ref b4), .unset, .unset] [(.int (0 : Int32)), (.ref b4)])) (fun _ ks_ => XS.iconst X4.here hx rfl (hb hby at_55) ks_) ?_
    refine go (u' := T4.setTop (mkF m 57 #[.val (.int p0), .val (.int p1), .val (.int p2), .val (.int p3), .val (.int p4), .val (.int p5), .val (.int (B (¬ ((p0 &&& (1 : Int32)) = (0 : Int32))))), .val (.int ca), .val (.int cb), .val (.int cc), .val (.int (p4 + p5)), .val (.ref b4), .unset, .unset] [(.int (1 : Int32)), (.int (0 : Int32)), (.ref b4)])) (fun _ ks_ => XS.iconst X4.here hx rfl (hb hby at_56) ks_) ?_
    obtain ⟨T6, h6, X6, e6, W6, st6⟩ := own_iastore X4 hx hZ e4 Fa5 (j := (0 : Int32)) (x := (1 : Int32))  (by decide) (by decide) (f := (mkF m 57 #[.val (.int p0), .val (.int p1), .val (.int p2), .val (.int p3), .val (.int p4), .val (.int p5), .val (.int (B (¬ ((p0 &&& (1 : Int32)) = (0 : Int32))))), .val (.int ca), .val (.int cb), .val (.int cc), .val (.int (p4 + p5)), .val (.ref b4), .unset, .unset] [(.int (1 : Int32)), (.int (0 : Int32)), (.ref b4)])) rfl rfl (hb hby at_57)
    have N6 := Fr.snoc X6 N3 g_b4
    have K6 : Keep h0 h6 [] := K4.wr W6 (Or.inr sz_b4)
    have Z6 : n0 ≤ h6.size := Nat.le_trans Z4 (Keep.of_wr W6).1
    have Fa7 : PI Z h6 b4 .int 3 (own_l [(1 : Int32), (0 : Int32), (0 : Int32)]) := Fa5.setL (by decide) W6 rfl (Nat.le_of_ble_eq_true rfl) rfl
    refine go (u' := T6.setTop (mkF m 58 #[.val (.int p0), .val (.int p1), .val (.int p2), .val (.int p3), .val (.int p4), .val (.int p5), .val (.int (B (¬ ((p0 &&& (1 : Int32)) = (0 : Int32))))), .val (.int ca), .val (.int cb), .val (.int cc), .val (.int (p4 + p5)), .val (.ref b4), .unset, .unset] [])) st6 ?_
    refine go (u' := T6.setTop (mkF m 60 #[.val (.int p0), .val (.int p1), .val (.int p2), .val (.int p3), .val (.int p4), .val (.int p5), .val (.int (B (¬ ((p0 &&& (1 : Int32)) = (0 : Int32))))), .val (.int ca), .val (.int cb), .val (.int cc), .val (.int (p4 + p5)), .val (.ref b4), .unset, .unset] [(.ref b4)])) (fun _ ks_ => XS.aload X6.here hx rfl (hb hby at_58) rfl rfl ks_) ?_
    refine go (u' := T6.setTop (mkF m 61 #[.val (.int p0), .val (.int p1), .val (.int p2), .val (.int p3), .val (.int p4), .val (.int p5), .val (.int (B (¬ ((p0 &&& (1 : Int32)) = (0 : Int32))))), .val (.int ca), .val (.int cb), .val (.int cc), .val (.int (p4 + p5)), .val (.ref b4), .unset, .unset] [(.int (1 : Int32)), (.ref b4)])) (fun _ ks_ => XS.iconst X6.here hx rfl (hb hby at_60) ks_) ?_
    refine go (u' := T6.setTop (mkF m 62 #[.val (.int p0), .val (.int p1), .val (.int p2), .val (.int p3), .val (.int p4), .val (.int p5), .val (.int (B (¬ ((p0 &&& (1 : Int32)) = (0 : Int32))))), .val (.int ca), .val (.int cb), .val (.int cc), .val (.int (p4 + p5)), .val (.ref b4), .unset, .unset] [(.int (1 : Int32)), (.int (1 : Int32)), (.ref b4)])) (fun _ ks_ => XS.iconst X6.here hx rfl (hb hby at_61) ks_) ?_
    obtain ⟨T8, h8, X8, e8, W8, st8⟩ := own_iastore X6 hx hZ e6 Fa7 (j := (1 : Int32)) (x := (1 : Int32))  (by decide) (by decide) (f := (mkF m 62 #[.val (.int p0), .val (.int p1), .val (.int p2), .val (.int p3), .val (.int p4), .val (.int p5), .val (.int (B (¬ ((p0 &&& (1 : Int32)) = (0 : Int32))))), .val (.int ca), .val (.int cb), .val (.int cc), .val (.int (p4 + p5)), .val (.ref b4), .unset, .unset] [(.int (1 : Int32)), (.int (1 : Int32)), (.ref b4)])) rfl rfl (hb hby at_62)
    have N8 := Fr.snoc X8 N6 g_b4
    have K8 : Keep h0 h8 [] := K6.wr W8 (Or.inr sz_b4)
    have Z8 : n0 ≤ h8.size := Nat.le_trans Z6 (Keep.of_wr W8).1
    have Fa9 : PI Z h8 b4 .int 3 (own_l [(1 : Int32), (1 : Int32), (0 : Int32)]) := Fa7.setL (by decide) W8 rfl (Nat.le_of_ble_eq_true rfl) rfl
    refine go (u' := T8.setTop (mkF m 63 #[.val (.int p0), .val (.int p1), .val (.int p2), .val (.int p3), .val (.int p4), .val (.int p5), .val (.int (B (¬ ((p0 &&& (1 : Int32)) = (0 : Int32))))), .val (.int ca), .val (.int cb), .val (.int cc), .val (.int (p4 + p5)), .val (.ref b4), .unset, .unset] [])) st8 ?_
    refine go (u' := T8.setTop (mkF m 65 #[.val (.int p0), .val (.int p1), .val (.int p2), .val (.int p3), .val (.int p4), .val (.int p5), .val (.int (B (¬ ((p0 &&& (1 : Int32)) = (0 : Int32))))), .val (.int ca), .val (.int cb), .val (.int cc), .val (.int (p4 + p5)), .val (.ref b4), .unset, .unset] [(.ref b4)])) (fun _ ks_ => XS.aload X8.here hx rfl (hb hby at_63) rfl rfl ks_) ?_
    refine go (u' := T8.setTop (mkF m 66 #[.val (.int p0), .val (.int p1), .val (.int p2), .val (.int p3), .val (.int p4), .val (.int p5), .val (.int (B (¬ ((p0 &&& (1 : Int32)) = (0 : Int32))))), .val (.int ca), .val (.int cb), .val (.int cc), .val (.int (p4 + p5)), .val (.ref b4), .unset, .unset] [(.int (2 : Int32)), (.ref b4)])) (fun _ ks_ => XS.iconst X8.here hx rfl (hb hby at_65) ks_) ?_
    refine go (u' := T8.setTop (mkF m 67 #[.val (.int p0), .val (.int p1), .val (.int p2), .val (.int p3), .val (.int p4), .val (.int p5), .val (.int (B (¬ ((p0 &&& (1 : Int32)) = (0 : Int32))))), .val (.int ca), .val (.int cb), .val (.int cc), .val (.int (p4 + p5)), .val (.ref b4), .unset, .unset] [(.int (0 : Int32)), (.int (2 : Int32)), (.ref b4)])) (fun _ ks_ => XS.iconst X8.here hx rfl (hb hby at_66) ks_) ?_
    obtain ⟨T10, h10, X10, e10, W10, st10⟩ := own_iastore X8 hx hZ e8 Fa9 (j := (2 : Int32)) (x := (0 : Int32))  (by decide) (by decide) (f := (mkF m 67 #[.val (.int p0), .val (.int p1), .val (.int p2), .val (.int p3), .val (.int p4), .val (.int p5), .val (.int (B (¬ ((p0 &&& (1 : Int32)) = (0 : Int32))))), .val (.int ca), .val (.int cb), .val (.int cc), .val (.int (p4 + p5)), .val (.ref b4), .unset, .unset] [(.int (0 : Int32)), (.int (2 : Int32)), (.ref b4)])) rfl rfl (hb hby at_67)
    have N10 := Fr.snoc X10 N8 g_b4
    have K10 : Keep h0 h10 [] := K8.wr W10 (Or.inr sz_b4)
    have Z10 : n0 ≤ h10.size := Nat.le_trans Z8 (Keep.of_wr W10).1
    have Fa11 : PI Z h10 b4 .int 3 (own_l [(1 : Int32), (1 : Int32), (0 : Int32)]) := Fa9.setL (by decide) W10 rfl (Nat.le_of_ble_eq_true rfl) rfl
    refine go (u' := T10.setTop (mkF m 68 #[.val (.int p0), .val (.int p1), .val (.int p2), .val (.int p3), .val (.int p4), .val (.int p5), .val (.int (B (¬ ((p0 &&& (1 : Int32)) = (0 : Int32))))), .val (.int ca), .val (.int cb), .val (.int cc), .val (.int (p4 + p5)), .val (.ref b4), .unset, .unset] [])) st10 ?_
    obtain ⟨T12, h12, X12, e12, E12, A12, D12, -, st12⟩ := newO X10 hx hZ hown (ww hw 5 rfl) (ww hw 6 rfl) (ww hw 7 rfl) e10 (g := (mkF m 68 #[.val (.int p0), .val (.int p1), .val (.int p2), .val (.int p3), .val (.int p4), .val (.int p5), .val (.int (B (¬ ((p0 &&& (1 : Int32)) = (0 : Int32))))), .val (.int ca), .val (.int cb), .val (.int cc), .val (.int (p4 + p5)), .val (.ref b4), .unset, .unset] [])) rfl (hb hby at_68) (by decide) (by decide)
    obtain ⟨b12, g12⟩ : ∃ z, z = h10.size := ⟨_, rfl⟩
    rw [← g12] at A12 D12 st12
    have ne_b4_b12 : b4 ≠ b12 := Nat.ne_of_lt (Nat.lt_of_lt_of_le Fa11.lt (Nat.le_of_eq g12.symm))
    have g_b12 : n0 ≤ b12 := Nat.le_trans Z10 (Nat.le_of_eq g12.symm)
    have sz_b12 : h0.size ≤ b12 := Nat.le_trans K10.1 (Nat.le_of_eq g12.symm)
    have K12 : Keep h0 h12 [] := K10.ext E12
    have Fa13 : PI Z h12 b4 .int 3 (own_l [(1 : Int32), (1 : Int32), (0 : Int32)]) := Fa11.ext E12
    have Z12 : n0 ≤ h12.size := Nat.le_trans Z10 E12.1
    have Fa14 : Fld Z h12 b12 "com/example/locattr/locattr/PlaceCounter" "line" "I" (.int (0 : Int32)) := D12 (Or.inl (ww hw 15 rfl)) (ty := .int) (by decide)
    have Fa15 : Fld Z h12 b12 "com/example/locattr/locattr/PlaceCounter" "column" "I" (.int (0 : Int32)) := D12 (Or.inl (ww hw 17 rfl)) (ty := .int) (by decide)
    have Fa16 : Fld Z h12 b12 "com/example/locattr/locattr/PlaceCounter" "xml11" "Z" (.int (0 : Int32)) := D12 (Or.inr (ww hw 19 rfl)) (ty := .boolean) (by decide)
    have Fa17 : Fld Z h12 b12 "com/example/locattr/locattr/PlaceCounter" "afterReturn" "Z" (.int (0 : Int32)) := D12 (Or.inl (ww hw 26 rfl)) (ty := .boolean) (by decide)
    refine go (u' := T12.setTop (mkF m 71 #[.val (.int p0), .val (.int p1), .val (.int p2), .val (.int p3), .val (.int p4), .val (.int p5), .val (.int (B (¬ ((p0 &&& (1 : Int32)) = (0 : Int32))))), .val (.int ca), .val (.int cb), .val (.int cc), .val (.int (p4 + p5)), .val (.ref b4), .unset, .unset] [(.ref b12)])) st12 ?_
    refine go (u' := T12.setTop (mkF m 72 #[.val (.int p0), .val (.int p1), .val (.int p2), .val (.int p3), .val (.int p4), .val (.int p5), .val (.int (B (¬ ((p0 &&& (1 : Int32)) = (0 : Int32))))), .val (.int ca), .val (.int cb), .val (.int cc), .val (.int (p4 + p5)), .val (.ref b4), .unset, .unset] [(.ref b12), (.ref b12)])) (fun _ ks_ => XS.dup X12.here hx rfl (hb hby at_71) rfl rfl ks_) ?_
    refine go (u' := T12.setTop (mkF m 74 #[.val (.int p0), .val (.int p1), .val (.int p2), .val (.int p3), .val (.int p4), .val (.int p5), .val (.int (B (¬ ((p0 &&& (1 : Int32)) = (0 : Int32))))), .val (.int ca), .val (.int cb), .val (.int cc), .val (.int (p4 + p5)), .val (.ref b4), .unset, .unset] [(.int (B (¬ ((p0 &&& (1 : Int32)) = (0 : Int32))))), (.ref b12), (.ref b12)])) (fun _ ks_ => XS.iload X12.here hx rfl (hb hby at_72) rfl  ks_) ?_
    obtain ⟨_, _, ⟨T18, L18, k18, n18⟩, -, X18, ⟨Lc18, hQ18, l18, y18, z18⟩, st18⟩ := X12.specialBack hx (y := (⟨"com/example/locattr/locattr/PlaceCounter", "<init>", "(Z)V"⟩ : MethodName)) rfl hown (mvT hZ (ww hw 8 rfl)) (mvT hZ (ww hw 9 rfl)) (mvT hZ (ww hw 10 rfl)) (by decide) (backOf (W := 1) (rm2 l Z a0 hw [] b12 (B (¬ ((p0 &&& (1 : Int32)) = (0 : Int32)))) h12 n0 Z12 g_b12 A12 Fa14 Fa15 Fa16 Fa17 B_nar) hZ (ww hw 10 rfl) (ww hw 7 rfl) (by decide) (by decide)) (g := (mkF m 74 #[.val (.int p0), .val (.int p1), .val (.int p2), .val (.int p3), .val (.int p4), .val (.int p5), .val (.int (B (¬ ((p0 &&& (1 : Int32)) = (0 : Int32))))), .val (.int ca), .val (.int cb), .val (.int cc), .val (.int (p4 + p5)), .val (.ref b4), .unset, .unset] [(.int (B (¬ ((p0 &&& (1 : Int32)) = (0 : Int32))))), (.ref b12), (.ref b12)])) rfl (by rw [hml]; rfl) (Steps.refl _) (a := b12) (argsL := [(.int (B (¬ ((p0 &&& (1 : Int32)) = (0 : Int32)))))]) (rest := [(.ref b12)]) (lenOf pd__40_Z_41_V rfl) rfl (by show 2 * 0 + _ ≤ _; exact Nat.le_of_eq rfl) (hb hby at_74) (fun _ _ => ⟨rfl, e12, (by decide : 2 + 0 ≤ _), (by decide : 7 + 0 ≤ _)⟩)
    dsimp only [Pt.U, Pt.locs, Pt.cells, Pt.slots] at X18 l18 y18 z18 st18 hQ18
    subst l18 y18 z18
    obtain ⟨rfl, N18q, Kq18, Fa19, Fa20, Fa21, Fa22, Fa23⟩ := hQ18
    have N18 := Fr.app N10 N18q
    have K18 : Keep h0 T18.heap [] := K12.trans Kq18 (allS (P := fun x => x ∈ [] ∨ h0.size ≤ x) (Or.inr sz_b12) all0)
    have Z18 : n0 ≤ T18.heap.size := Nat.le_trans Z12 Kq18.1
    have Fa24 : PI Z T18.heap b4 .int 3 (own_l [(1 : Int32), (1 : Int32), (0 : Int32)]) := Fa13.keep Kq18 (ninS ne_b4_b12 nin0)
    have Fa25 : Exa Z T18.heap b12 "com/example/locattr/locattr/PlaceCounter" := A12.keep Kq18
    refine goT (u' := T18.setTop (mkF m 77 #[.val (.int p0), .val (.int p1), .val (.int p2), .val (.int p3), .val (.int p4), .val (.int p5), .val (.int (B (¬ ((p0 &&& (1 : Int32)) = (0 : Int32))))), .val (.int ca), .val (.int cb), .val (.int cc), .val (.int (p4 + p5)), .val (.ref b4), .unset, .unset] [(.ref b12)])) st18 ?_
    refine go (u' := T18.setTop (mkF m 79 #[.val (.int p0), .val (.int p1), .val (.int p2), .val (.int p3), .val (.int p4), .val (.int p5), .val (.int (B (¬ ((p0 &&& (1 : Int32)) = (0 : Int32))))), .val (.int ca), .val (.int cb), .val (.int cc), .val (.int (p4 + p5)), .val (.ref b4), .val (.ref b12), .unset] [])) (fun _ ks_ => XS.astore X18.here hx rfl (hb hby at_77) rfl rfl (l' := #[.val (.int p0), .val (.int p1), .val (.int p2), .val (.int p3), .val (.int p4), .val (.int p5), .val (.int (B (¬ ((p0 &&& (1 : Int32)) = (0 : Int32))))), .val (.int ca), .val (.int cb), .val (.int cc), .val (.int (p4 + p5)), .val (.ref b4), .val (.ref b12), .unset]) rfl ks_) ?_
    refine go (u' := T18.setTop (mkF m 80 #[.val (.int p0), .val (.int p1), .val (.int p2), .val (.int p3), .val (.int p4), .val (.int p5), .val (.int (B (¬ ((p0 &&& (1 : Int32)) = (0 : Int32))))), .val (.int ca), .val (.int cb), .val (.int cc), .val (.int (p4 + p5)), .val (.ref b4), .val (.ref b12), .unset] [(.int (1 : Int32))])) (fun _ ks_ => XS.iconst X18.here hx rfl (hb hby at_79) ks_) ?_
    refine go (u' := T18.setTop (mkF m 82 #[.val (.int p0), .val (.int p1), .val (.int p2), .val (.int p3), .val (.int p4), .val (.int p5), .val (.int (B (¬ ((p0 &&& (1 : Int32)) = (0 : Int32))))), .val (.int ca), .val (.int cb), .val (.int cc), .val (.int (p4 + p5)), .val (.ref b4), .val (.ref b12), .val (.int (1 : Int32))] [])) (fun _ ks_ => XS.istore X18.here hx rfl (hb hby at_80) rfl  (l' := #[.val (.int p0), .val (.int p1), .val (.int p2), .val (.int p3), .val (.int p4), .val (.int p5), .val (.int (B (¬ ((p0 &&& (1 : Int32)) = (0 : Int32))))), .val (.int ca), .val (.int cb), .val (.int cc), .val (.int (p4 + p5)), .val (.ref b4), .val (.ref b12), .val (.int (1 : Int32))]) rfl ks_) ?_
    refine go (u' := T18.setTop (mkF m 84 #[.val (.int p0), .val (.int p1), .val (.int p2), .val (.int p3), .val (.int p4), .val (.int p5), .val (.int (B (¬ ((p0 &&& (1 : Int32)) = (0 : Int32))))), .val (.int ca), .val (.int cb), .val (.int cc), .val (.int (p4 + p5)), .val (.ref b4), .val (.ref b12), .val (.int (1 : Int32))] [(.ref b12)])) (fun _ ks_ => XS.aload X18.here hx rfl (hb hby at_82) rfl rfl ks_) ?_
    refine go (u' := T18.setTop (mkF m 86 #[.val (.int p0), .val (.int p1), .val (.int p2), .val (.int p3), .val (.int p4), .val (.int p5), .val (.int (B (¬ ((p0 &&& (1 : Int32)) = (0 : Int32))))), .val (.int ca), .val (.int cb), .val (.int cc), .val (.int (p4 + p5)), .val (.ref b4), .val (.ref b12), .val (.int (1 : Int32))] [(.int ca), (.ref b12)])) (fun _ ks_ => XS.iload X18.here hx rfl (hb hby at_84) rfl  ks_) ?_
    refine go (u' := T18.setTop (mkF m 88 #[.val (.int p0), .val (.int p1), .val (.int p2), .val (.int p3), .val (.int p4), .val (.int p5), .val (.int (B (¬ ((p0 &&& (1 : Int32)) = (0 : Int32))))), .val (.int ca), .val (.int cb), .val (.int cc), .val (.int (p4 + p5)), .val (.ref b4), .val (.ref b12), .val (.int (1 : Int32))] [(.int p4), (.int ca), (.ref b12)])) (fun _ ks_ => XS.iload X18.here hx rfl (hb hby at_86) rfl  ks_) ?_
    obtain ⟨cq26, kq26, q26a, q26b, q26c⟩ := isOf hZ (rfl : T18.heap = _) Fa19
    obtain ⟨_, _, ⟨T26, L26, k26, n26⟩, -, X26, ⟨Lc26, hQ26, l26, y26, z26⟩, st26⟩ := X18.virtualBack hx (y := (⟨"com/example/locattr/locattr/PlaceCounter", "pass", "(II)V"⟩ : MethodName)) (z := (⟨"com/example/locattr/locattr/PlaceCounter", "pass", "(II)V"⟩ : MethodName)) hown (mvT hZ (ww hw 20 rfl)) (mvT hZ (ww hw 21 rfl)) (notFace_of_selects (args := #[]) (mvT hZ (ww hw 23 rfl))) (mvT hZ (ww hw 23 rfl)) (mvT hZ (ww hw 22 rfl)) (by decide) (backOf (W := 0) (rm4 l Z a0 hw [] b12 ca p4 (1 : Int32) (1 : Int32) (B (¬ ((p0 &&& (1 : Int32)) = (0 : Int32)))) (0 : Int32) T18.heap n0 Z18 g_b12 Fa19 Fa20 Fa21 Fa22 Fa23) hZ (ww hw 24 rfl) (ww hw 7 rfl) (by decide) (by decide)) q26a q26c (g := (mkF m 88 #[.val (.int p0), .val (.int p1), .val (.int p2), .val (.int p3), .val (.int p4), .val (.int p5), .val (.int (B (¬ ((p0 &&& (1 : Int32)) = (0 : Int32))))), .val (.int ca), .val (.int cb), .val (.int cc), .val (.int (p4 + p5)), .val (.ref b4), .val (.ref b12), .val (.int (1 : Int32))] [(.int p4), (.int ca), (.ref b12)])) rfl (by rw [hml]; rfl) (Steps.refl _) (argsL := [(.int ca), (.int p4)]) (rest := []) (lenOf pd__40_II_41_V rfl) rfl (by show 2 * 0 + _ ≤ _; exact Nat.le_of_eq rfl) (hb hby at_88) (fun _ _ => ⟨rfl, (rfl : T18.heap = _), (by decide : 2 + 0 ≤ _), (by decide : 7 + 0 ≤ _)⟩)
    dsimp only [Pt.U, Pt.locs, Pt.cells, Pt.slots] at X26 l26 y26 z26 st26 hQ26
    subst l26 y26 z26
    obtain ⟨rfl, N26q, Kq26, Fa27, Fa28, Fa29, Fa30, Fa31⟩ := hQ26
    have N26 := Fr.app N18 N26q
    have K26 : Keep h0 T26.heap [] := K18.trans Kq26 (allS (P := fun x => x ∈ [] ∨ h0.size ≤ x) (Or.inr sz_b12) all0)
    have Z26 : n0 ≤ T26.heap.size := Nat.le_trans Z18 Kq26.1
    have Fa32 : PI Z T26.heap b4 .int 3 (own_l [(1 : Int32), (1 : Int32), (0 : Int32)]) := Fa24.keep Kq26 (ninS ne_b4_b12 nin0)
    have Fa33 : Exa Z T26.heap b12 "com/example/locattr/locattr/PlaceCounter" := Fa19.keep Kq26
    refine goT (u' := T26.setTop (mkF m 91 #[.val (.int p0), .val (.int p1), .val (.int p2), .val (.int p3), .val (.int p4), .val (.int p5), .val (.int (B (¬ ((p0 &&& (1 : Int32)) = (0 : Int32))))), .val (.int ca), .val (.int cb), .val (.int cc), .val (.int (p4 + p5)), .val (.ref b4), .val (.ref b12), .val (.int (1 : Int32))] [])) st26 ?_
    refine go (u' := T26.setTop (mkF m 93 #[.val (.int p0), .val (.int p1), .val (.int p2), .val (.int p3), .val (.int p4), .val (.int p5), .val (.int (B (¬ ((p0 &&& (1 : Int32)) = (0 : Int32))))), .val (.int ca), .val (.int cb), .val (.int cc), .val (.int (p4 + p5)), .val (.ref b4), .val (.ref b12), .val (.int (1 : Int32))] [(.ref b4)])) (fun _ ks_ => XS.aload X26.here hx rfl (hb hby at_91) rfl rfl ks_) ?_
    refine go (u' := T26.setTop (mkF m 95 #[.val (.int p0), .val (.int p1), .val (.int p2), .val (.int p3), .val (.int p4), .val (.int p5), .val (.int (B (¬ ((p0 &&& (1 : Int32)) = (0 : Int32))))), .val (.int ca), .val (.int cb), .val (.int cc), .val (.int (p4 + p5)), .val (.ref b4), .val (.ref b12), .val (.int (1 : Int32))] [(.int (B (¬ ((p0 &&& (1 : Int32)) = (0 : Int32))))), (.ref b4)])) (fun _ ks_ => XS.iload X26.here hx rfl (hb hby at_93) rfl  ks_) ?_
    refine go (u' := T26.setTop (mkF m 97 #[.val (.int p0), .val (.int p1), .val (.int p2), .val (.int p3), .val (.int p4), .val (.int p5), .val (.int (B (¬ ((p0 &&& (1 : Int32)) = (0 : Int32))))), .val (.int ca), .val (.int cb), .val (.int cc), .val (.int (p4 + p5)), .val (.ref b4), .val (.ref b12), .val (.int (1 : Int32))] [(.int ca), (.int (B (¬ ((p0 &&& (1 : Int32)) = (0 : Int32))))), (.ref b4)])) (fun _ ks_ => XS.iload X26.here hx rfl (hb hby at_95) rfl  ks_) ?_
    refine go (u' := T26.setTop (mkF m 99 #[.val (.int p0), .val (.int p1), .val (.int p2), .val (.int p3), .val (.int p4), .val (.int p5), .val (.int (B (¬ ((p0 &&& (1 : Int32)) = (0 : Int32))))), .val (.int ca), .val (.int cb), .val (.int cc), .val (.int (p4 + p5)), .val (.ref b4), .val (.ref b12), .val (.int (1 : Int32))] [(.int p4), (.int ca), (.int (B (¬ ((p0 &&& (1 : Int32)) = (0 : Int32))))), (.ref b4)])) (fun _ ks_ => XS.iload X26.here hx rfl (hb hby at_97) rfl  ks_) ?_
    obtain ⟨_, _, ⟨T34, L34, k34, n34⟩, -, X34, ⟨Lc34, hQ34, l34, y34, z34⟩, st34⟩ := Jvm.LawKit.callS X26 hx (y := (⟨"com/example/locattr/locattr/PlaceCounterPassPinLaw", "step", "([IZII)V"⟩ : MethodName)) hown (mvT hZ (ww hw 27 rfl)) (mvT hZ (ww hw 28 rfl)) (mvT hZ (ww hw 2 rfl)) (mvT hZ (ww hw 29 rfl)) (by decide) (backOf (W := 0) (rm5 l Z a0 hw [] b4 (B (¬ ((p0 &&& (1 : Int32)) = (0 : Int32)))) ca p4 (1 : Int32) (1 : Int32) (0 : Int32) T26.heap n0 Z26 g_b4 Fa32) hZ (ww hw 29 rfl) (ww hw 2 rfl) (by decide) (by decide)) (g := (mkF m 99 #[.val (.int p0), .val (.int p1), .val (.int p2), .val (.int p3), .val (.int p4), .val (.int p5), .val (.int (B (¬ ((p0 &&& (1 : Int32)) = (0 : Int32))))), .val (.int ca), .val (.int cb), .val (.int cc), .val (.int (p4 + p5)), .val (.ref b4), .val (.ref b12), .val (.int (1 : Int32))] [(.int p4), (.int ca), (.int (B (¬ ((p0 &&& (1 : Int32)) = (0 : Int32))))), (.ref b4)])) rfl (by rw [hml]; rfl) (argsL := [(.ref b4), (.int (B (¬ ((p0 &&& (1 : Int32)) = (0 : Int32))))), (.int ca), (.int p4)]) (rest := []) (lenOf pd__40__91_IZII_41_V rfl) rfl (by show 2 * 0 + _ ≤ _; exact Nat.le_of_eq rfl) (hb hby at_99) (fun _ _ => ⟨rfl, (rfl : T26.heap = _), (by decide : 2 + 0 ≤ _), (by decide : 7 + 0 ≤ _)⟩)
    dsimp only [Pt.U, Pt.locs, Pt.cells, Pt.slots] at X34 l34 y34 z34 st34 hQ34
    subst l34 y34 z34
    obtain ⟨rfl, N34q, Kq34, Fa35⟩ := hQ34
    have N34 := Fr.app N26 N34q
    have K34 : Keep h0 T34.heap [] := K26.trans Kq34 (allS (P := fun x => x ∈ [] ∨ h0.size ≤ x) (Or.inr sz_b4) all0)
    have Z34 : n0 ≤ T34.heap.size := Nat.le_trans Z26 Kq34.1
    have Fa36 : Exa Z T34.heap b12 "com/example/locattr/locattr/PlaceCounter" := Fa27.keep Kq34
    have Fa37 : Fld Z T34.heap b12 "com/example/locattr/locattr/PlaceCounter" "line" "I" (.int (ps_line ca (1 : Int32) (B (¬ ((p0 &&& (1 : Int32)) = (0 : Int32)))) (0 : Int32))) := Fa28.keep Kq34 (ninS (Ne.symm ne_b4_b12) nin0)
    have Fa38 : Fld Z T34.heap b12 "com/example/locattr/locattr/PlaceCounter" "column" "I" (.int (ps_column ca p4 (1 : Int32) (B (¬ ((p0 &&& (1 : Int32)) = (0 : Int32)))) (0 : Int32))) := Fa29.keep Kq34 (ninS (Ne.symm ne_b4_b12) nin0)
    have Fa39 : Fld Z T34.heap b12 "com/example/locattr/locattr/PlaceCounter" "xml11" "Z" (.int (B (¬ ((p0 &&& (1 : Int32)) = (0 : Int32))))) := Fa30.keep Kq34 (ninS (Ne.symm ne_b4_b12) nin0)
    have Fa40 : Fld Z T34.heap b12 "com/example/locattr/locattr/PlaceCounter" "afterReturn" "Z" (.int (ps_afterReturn ca)) := Fa31.keep Kq34 (ninS (Ne.symm ne_b4_b12) nin0)
    refine go (u' := T34.setTop (mkF m 102 #[.val (.int p0), .val (.int p1), .val (.int p2), .val (.int p3), .val (.int p4), .val (.int p5), .val (.int (B (¬ ((p0 &&& (1 : Int32)) = (0 : Int32))))), .val (.int ca), .val (.int cb), .val (.int cc), .val (.int (p4 + p5)), .val (.ref b4), .val (.ref b12), .val (.int (1 : Int32))] [])) st34 ?_
    refine go (u' := T34.setTop (mkF m 104 #[.val (.int p0), .val (.int p1), .val (.int p2), .val (.int p3), .val (.int p4), .val (.int p5), .val (.int (B (¬ ((p0 &&& (1 : Int32)) = (0 : Int32))))), .val (.int ca), .val (.int cb), .val (.int cc), .val (.int (p4 + p5)), .val (.ref b4), .val (.ref b12), .val (.int (1 : Int32))] [(.int (1 : Int32))])) (fun _ ks_ => XS.iload X34.here hx rfl (hb hby at_102) rfl  ks_) ?_
    refine go (u' := T34.setTop (mkF m 107 #[.val (.int p0), .val (.int p1), .val (.int p2), .val (.int p3), .val (.int p4), .val (.int p5), .val (.int (B (¬ ((p0 &&& (1 : Int32)) = (0 : Int32))))), .val (.int ca), .val (.int cb), .val (.int cc), .val (.int (p4 + p5)), .val (.ref b4), .val (.ref b12), .val (.int (1 : Int32))] [])) (fun _ ks_ => XS.ifNo X34.here hx rfl (hb hby at_104) rfl ((if0 _ _).trans (feq (show ¬ ((1 : Int32) = (0 : Int32)) from (by decide))).1) ks_) ?_
    refine go (u' := T34.setTop (mkF m 109 #[.val (.int p0), .val (.int p1), .val (.int p2), .val (.int p3), .val (.int p4), .val (.int p5), .val (.int (B (¬ ((p0 &&& (1 : Int32)) = (0 : Int32))))), .val (.int ca), .val (.int cb), .val (.int cc), .val (.int (p4 + p5)), .val (.ref b4), .val (.ref b12), .val (.int (1 : Int32))] [(.ref b12)])) (fun _ ks_ => XS.aload X34.here hx rfl (hb hby at_107) rfl rfl ks_) ?_
    obtain ⟨cq41, kq41, q41a, q41b, q41c⟩ := isOf hZ (rfl : T34.heap = _) Fa36
    obtain ⟨_, _, ⟨T41, L41, k41, n41⟩, -, X41, ⟨Lc41, hQ41, l41, y41, z41⟩, st41⟩ := X34.virtualBack hx (y := (⟨"com/example/locattr/locattr/PlaceCounter", "line", "()I"⟩ : MethodName)) (z := (⟨"com/example/locattr/locattr/PlaceCounter", "line", "()I"⟩ : MethodName)) hown (mvT hZ (ww hw 30 rfl)) (mvT hZ (ww hw 31 rfl)) (notFace_of_selects (args := #[]) (mvT hZ (ww hw 33 rfl))) (mvT hZ (ww hw 33 rfl)) (mvT hZ (ww hw 32 rfl)) (by decide) (backOf (W := 0) (rm6 l Z a0 hw [] b12 (ps_line ca (1 : Int32) (B (¬ ((p0 &&& (1 : Int32)) = (0 : Int32)))) (0 : Int32)) T34.heap n0 Z34 Fa37) hZ (ww hw 34 rfl) (ww hw 7 rfl) (by decide) (by decide)) q41a q41c (g := (mkF m 109 #[.val (.int p0), .val (.int p1), .val (.int p2), .val (.int p3), .val (.int p4), .val (.int p5), .val (.int (B (¬ ((p0 &&& (1 : Int32)) = (0 : Int32))))), .val (.int ca), .val (.int cb), .val (.int cc), .val (.int (p4 + p5)), .val (.ref b4), .val (.ref b12), .val (.int (1 : Int32))] [(.ref b12)])) rfl (by rw [hml]; rfl) (Steps.refl _) (argsL := []) (rest := []) (lenOf pd__40__41_I rfl) rfl (by show 2 * 0 + _ ≤ _; exact Nat.le_of_eq rfl) (hb hby at_109) (fun _ _ => ⟨rfl, (rfl : T34.heap = _), (by decide : 2 + 0 ≤ _), (by decide : 7 + 0 ≤ _)⟩)
    dsimp only [Pt.U, Pt.locs, Pt.cells, Pt.slots] at X41 l41 y41 z41 st41 hQ41
    subst l41 y41 z41
    obtain ⟨rfl, N41q, eq41⟩ := hQ41
    have N41 := Fr.app N34 N41q
    refine goT (u' := T41.setTop (mkF m 112 #[.val (.int p0), .val (.int p1), .val (.int p2), .val (.int p3), .val (.int p4), .val (.int p5), .val (.int (B (¬ ((p0 &&& (1 : Int32)) = (0 : Int32))))), .val (.int ca), .val (.int cb), .val (.int cc), .val (.int (p4 + p5)), .val (.ref b4), .val (.ref b12), .val (.int (1 : Int32))] [(.int (ps_line ca (1 : Int32) (B (¬ ((p0 &&& (1 : Int32)) = (0 : Int32)))) (0 : Int32)))])) st41 ?_
    refine go (u' := T41.setTop (mkF m 114 #[.val (.int p0), .val (.int p1), .val (.int p2), .val (.int p3), .val (.int p4), .val (.int p5), .val (.int (B (¬ ((p0 &&& (1 : Int32)) = (0 : Int32))))), .val (.int ca), .val (.int cb), .val (.int cc), .val (.int (p4 + p5)), .val (.ref b4), .val (.ref b12), .val (.int (1 : Int32))] [(.ref b4), (.int (ps_line ca (1 : Int32) (B (¬ ((p0 &&& (1 : Int32)) = (0 : Int32)))) (0 : Int32)))])) (fun _ ks_ => XS.aload X41.here hx rfl (hb hby at_112) rfl rfl ks_) ?_
    refine go (u' := T41.setTop (mkF m 115 #[.val (.int p0), .val (.int p1), .val (.int p2), .val (.int p3), .val (.int p4), .val (.int p5), .val (.int (B (¬ ((p0 &&& (1 : Int32)) = (0 : Int32))))), .val (.int ca), .val (.int cb), .val (.int cc), .val (.int (p4 + p5)), .val (.ref b4), .val (.ref b12), .val (.int (1 : Int32))] [(.int (0 : Int32)), (.ref b4), (.int (ps_line ca (1 : Int32) (B (¬ ((p0 &&& (1 : Int32)) = (0 : Int32)))) (0 : Int32)))])) (fun _ ks_ => XS.iconst X41.here hx rfl (hb hby at_114) ks_) ?_
    refine go (u' := T41.setTop (mkF m 116 #[.val (.int p0), .val (.int p1), .val (.int p2), .val (.int p3), .val (.int p4), .val (.int p5), .val (.int (B (¬ ((p0 &&& (1 : Int32)) = (0 : Int32))))), .val (.int ca), .val (.int cb), .val (.int cc), .val (.int (p4 + p5)), .val (.ref b4), .val (.ref b12), .val (.int (1 : Int32))] [(.int (sp_a0 (B (¬ ((p0 &&& (1 : Int32)) = (0 : Int32)))) ca (1 : Int32) (0 : Int32))), (.int (ps_line ca (1 : Int32) (B (¬ ((p0 &&& (1 : Int32)) = (0 : Int32)))) (0 : Int32)))])) (own_iaload X41 hx hZ eq41 Fa35 (j := (0 : Int32)) (v := (sp_a0 (B (¬ ((p0 &&& (1 : Int32)) = (0 : Int32)))) ca (1 : Int32) (0 : Int32))) (by decide) (by decide) rfl (f := (mkF m 115 #[.val (.int p0), .val (.int p1), .val (.int p2), .val (.int p3), .val (.int p4), .val (.int p5), .val (.int (B (¬ ((p0 &&& (1 : Int32)) = (0 : Int32))))), .val (.int ca), .val (.int cb), .val (.int cc), .val (.int (p4 + p5)), .val (.ref b4), .val (.ref b12), .val (.int (1 : Int32))] [(.int (0 : Int32)), (.ref b4), (.int (ps_line ca (1 : Int32) (B (¬ ((p0 &&& (1 : Int32)) = (0 : Int32)))) (0 : Int32)))])) rfl rfl (hb hby at_115)) ?_
    refine go (u' := T41.setTop (mkF m 119 #[.val (.int p0), .val (.int p1), .val (.int p2), .val (.int p3), .val (.int p4), .val (.int p5), .val (.int (B (¬ ((p0 &&& (1 : Int32)) = (0 : Int32))))), .val (.int ca), .val (.int cb), .val (.int cc), .val (.int (p4 + p5)), .val (.ref b4), .val (.ref b12), .val (.int (1 : Int32))] [])) (fun _ ks_ => XS.icmpNo X41.here hx rfl (hb hby at_116) rfl (teq (show (ps_line ca (1 : Int32) (B (¬ ((p0 &&& (1 : Int32)) = (0 : Int32)))) (0 : Int32)) = (sp_a0 (B (¬ ((p0 &&& (1 : Int32)) = (0 : Int32)))) ca (1 : Int32) (0 : Int32)) from (by simp only [own_eq0, own_eq1, own_eq2]))).2 ks_) ?_
    refine go (u' := T41.setTop (mkF m 121 #[.val (.int p0), .val (.int p1), .val (.int p2), .val (.int p3), .val (.int p4), .val (.int p5), .val (.int (B (¬ ((p0 &&& (1 : Int32)) = (0 : Int32))))), .val (.int ca), .val (.int cb), .val (.int cc), .val (.int (p4 + p5)), .val (.ref b4), .val (.ref b12), .val (.int (1 : Int32))] [(.ref b12)])) (fun _ ks_ => XS.aload X41.here hx rfl (hb hby at_119) rfl rfl ks_) ?_
    obtain ⟨cq42, kq42, q42a, q42b, q42c⟩ := isOf hZ eq41 Fa36
    obtain ⟨_, _, ⟨T42, L42, k42, n42⟩, -, X42, ⟨Lc42, hQ42, l42, y42, z42⟩, st42⟩ := X41.virtualBack hx (y := (⟨"com/example/locattr/locattr/PlaceCounter", "column", "()I"⟩ : MethodName)) (z := (⟨"com/example/locattr/locattr/PlaceCounter", "column", "()I"⟩ : MethodName)) hown (mvT hZ (ww hw 35 rfl)) (mvT hZ (ww hw 36 rfl)) (notFace_of_selects (args := #[]) (mvT hZ (ww hw 38 rfl))) (mvT hZ (ww hw 38 rfl)) (mvT hZ (ww hw 37 rfl)) (by decide) (backOf (W := 0) (rm7 l Z a0 hw [] b12 (ps_column ca p4 (1 : Int32) (B (¬ ((p0 &&& (1 : Int32)) = (0 : Int32)))) (0 : Int32)) T34.heap n0 Z34 Fa38) hZ (ww hw 39 rfl) (ww hw 7 rfl) (by decide) (by decide)) q42a q42c (g := (mkF m 121 #[.val (.int p0), .val (.int p1), .val (.int p2), .val (.int p3), .val (.int p4), .val (.int p5), .val (.int (B (¬ ((p0 &&& (1 : Int32)) = (0 : Int32))))), .val (.int ca), .val (.int cb), .val (.int cc), .val (.int (p4 + p5)), .val (.ref b4), .val (.ref b12), .val (.int (1 : Int32))] [(.ref b12)])) rfl (by rw [hml]; rfl) (Steps.refl _) (argsL := []) (rest := []) (lenOf pd__40__41_I rfl) rfl (by show 2 * 0 + _ ≤ _; exact Nat.le_of_eq rfl) (hb hby at_121) (fun _ _ => ⟨rfl, eq41, (by decide : 2 + 0 ≤ _), (by decide : 7 + 0 ≤ _)⟩)
    dsimp only [Pt.U, Pt.locs, Pt.cells, Pt.slots] at X42 l42 y42 z42 st42 hQ42
    subst l42 y42 z42
    obtain ⟨rfl, N42q, eq42⟩ := hQ42
    have N42 := Fr.app N41 N42q
    refine goT (u' := T42.setTop (mkF m 124 #[.val (.int p0), .val (.int p1), .val (.int p2), .val (.int p3), .val (.int p4), .val (.int p5), .val (.int (B (¬ ((p0 &&& (1 : Int32)) = (0 : Int32))))), .val (.int ca), .val (.int cb), .val (.int cc), .val (.int (p4 + p5)), .val (.ref b4), .val (.ref b12), .val (.int (1 : Int32))] [(.int (ps_column ca p4 (1 : Int32) (B (¬ ((p0 &&& (1 : Int32)) = (0 : Int32)))) (0 : Int32)))])) st42 ?_
    refine go (u' := T42.setTop (mkF m 126 #[.val (.int p0), .val (.int p1), .val (.int p2), .val (.int p3), .val (.int p4), .val (.int p5), .val (.int (B (¬ ((p0 &&& (1 : Int32)) = (0 : Int32))))), .val (.int ca), .val (.int cb), .val (.int cc), .val (.int (p4 + p5)), .val (.ref b4), .val (.ref b12), .val (.int (1 : Int32))] [(.ref b4), (.int (ps_column ca p4 (1 : Int32) (B (¬ ((p0 &&& (1 : Int32)) = (0 : Int32)))) (0 : Int32)))])) (fun _ ks_ => XS.aload X42.here hx rfl (hb hby at_124) rfl rfl ks_) ?_
    refine go (u' := T42.setTop (mkF m 127 #[.val (.int p0), .val (.int p1), .val (.int p2), .val (.int p3), .val (.int p4), .val (.int p5), .val (.int (B (¬ ((p0 &&& (1 : Int32)) = (0 : Int32))))), .val (.int ca), .val (.int cb), .val (.int cc), .val (.int (p4 + p5)), .val (.ref b4), .val (.ref b12), .val (.int (1 : Int32))] [(.int (1 : Int32)), (.ref b4), (.int (ps_column ca p4 (1 : Int32) (B (¬ ((p0 &&& (1 : Int32)) = (0 : Int32)))) (0 : Int32)))])) (fun _ ks_ => XS.iconst X42.here hx rfl (hb hby at_126) ks_) ?_
    refine go (u' := T42.setTop (mkF m 128 #[.val (.int p0), .val (.int p1), .val (.int p2), .val (.int p3), .val (.int p4), .val (.int p5), .val (.int (B (¬ ((p0 &&& (1 : Int32)) = (0 : Int32))))), .val (.int ca), .val (.int cb), .val (.int cc), .val (.int (p4 + p5)), .val (.ref b4), .val (.ref b12), .val (.int (1 : Int32))] [(.int (sp_a1 (B (¬ ((p0 &&& (1 : Int32)) = (0 : Int32)))) ca p4 (1 : Int32) (0 : Int32))), (.int (ps_column ca p4 (1 : Int32) (B (¬ ((p0 &&& (1 : Int32)) = (0 : Int32)))) (0 : Int32)))])) (own_iaload X42 hx hZ eq42 Fa35 (j := (1 : Int32)) (v := (sp_a1 (B (¬ ((p0 &&& (1 : Int32)) = (0 : Int32)))) ca p4 (1 : Int32) (0 : Int32))) (by decide) (by decide) rfl (f := (mkF m 127 #[.val (.int p0), .val (.int p1), .val (.int p2), .val (.int p3), .val (.int p4), .val (.int p5), .val (.int (B (¬ ((p0 &&& (1 : Int32)) = (0 : Int32))))), .val (.int ca), .val (.int cb), .val (.int cc), .val (.int (p4 + p5)), .val (.ref b4), .val (.ref b12), .val (.int (1 : Int32))] [(.int (1 : Int32)), (.ref b4), (.int (ps_column ca p4 (1 : Int32) (B (¬ ((p0 &&& (1 : Int32)) = (0 : Int32)))) (0 : Int32)))])) rfl rfl (hb hby at_127)) ?_
    refine go (u' := T42.setTop (mkF m 131 #[.val (.int p0), .val (.int p1), .val (.int p2), .val (.int p3), .val (.int p4), .val (.int p5), .val (.int (B (¬ ((p0 &&& (1 : Int32)) = (0 : Int32))))), .val (.int ca), .val (.int cb), .val (.int cc), .val (.int (p4 + p5)), .val (.ref b4), .val (.ref b12), .val (.int (1 : Int32))] [])) (fun _ ks_ => XS.icmpNo X42.here hx rfl (hb hby at_128) rfl (teq (show (ps_column ca p4 (1 : Int32) (B (¬ ((p0 &&& (1 : Int32)) = (0 : Int32)))) (0 : Int32)) = (sp_a1 (B (¬ ((p0 &&& (1 : Int32)) = (0 : Int32)))) ca p4 (1 : Int32) (0 : Int32)) from (by simp only [own_eq0, own_eq1, own_eq2]))).2 ks_) ?_
    refine go (u' := T42.setTop (mkF m 132 #[.val (.int p0), .val (.int p1), .val (.int p2), .val (.int p3), .val (.int p4), .val (.int p5), .val (.int (B (¬ ((p0 &&& (1 : Int32)) = (0 : Int32))))), .val (.int ca), .val (.int cb), .val (.int cc), .val (.int (p4 + p5)), .val (.ref b4), .val (.ref b12), .val (.int (1 : Int32))] [(.int (1 : Int32))])) (fun _ ks_ => XS.iconst X42.here hx rfl (hb hby at_131) ks_) ?_
    refine go (u' := T42.setTop (mkF m 136 #[.val (.int p0), .val (.int p1), .val (.int p2), .val (.int p3), .val (.int p4), .val (.int p5), .val (.int (B (¬ ((p0 &&& (1 : Int32)) = (0 : Int32))))), .val (.int ca), .val (.int cb), .val (.int cc), .val (.int (p4 + p5)), .val (.ref b4), .val (.ref b12), .val (.int (1 : Int32))] [(.int (1 : Int32))])) (fun _ ks_ => XS.goto X42.here hx rfl (pc0 := 132) (pc' := 136) rfl (hb hby at_132) (by decide) (by decide) ks_) ?_
    refine go (u' := T42.setTop (mkF m 138 #[.val (.int p0), .val (.int p1), .val (.int p2), .val (.int p3), .val (.int p4), .val (.int p5), .val (.int (B (¬ ((p0 &&& (1 : Int32)) = (0 : Int32))))), .val (.int ca), .val (.int cb), .val (.int cc), .val (.int (p4 + p5)), .val (.ref b4), .val (.ref b12), .val (.int (1 : Int32))] [])) (fun _ ks_ => XS.istore X42.here hx rfl (hb hby at_136) rfl  (l' := #[.val (.int p0), .val (.int p1), .val (.int p2), .val (.int p3), .val (.int p4), .val (.int p5), .val (.int (B (¬ ((p0 &&& (1 : Int32)) = (0 : Int32))))), .val (.int ca), .val (.int cb), .val (.int cc), .val (.int (p4 + p5)), .val (.ref b4), .val (.ref b12), .val (.int (1 : Int32))]) rfl ks_) ?_
    refine go (u' := T42.setTop (mkF m 140 #[.val (.int p0), .val (.int p1), .val (.int p2), .val (.int p3), .val (.int p4), .val (.int p5), .val (.int (B (¬ ((p0 &&& (1 : Int32)) = (0 : Int32))))), .val (.int ca), .val (.int cb), .val (.int cc), .val (.int (p4 + p5)), .val (.ref b4), .val (.ref b12), .val (.int (1 : Int32))] [(.ref b12)])) (fun _ ks_ => XS.aload X42.here hx rfl (hb hby at_138) rfl rfl ks_) ?_
    refine go (u' := T42.setTop (mkF m 142 #[.val (.int p0), .val (.int p1), .val (.int p2), .val (.int p3), .val (.int p4), .val (.int p5), .val (.int (B (¬ ((p0 &&& (1 : Int32)) = (0 : Int32))))), .val (.int ca), .val (.int cb), .val (.int cc), .val (.int (p4 + p5)), .val (.ref b4), .val (.ref b12), .val (.int (1 : Int32))] [(.int cb), (.ref b12)])) (fun _ ks_ => XS.iload X42.here hx rfl (hb hby at_140) rfl  ks_) ?_
    refine go (u' := T42.setTop (mkF m 144 #[.val (.int p0), .val (.int p1), .val (.int p2), .val (.int p3), .val (.int p4), .val (.int p5), .val (.int (B (¬ ((p0 &&& (1 : Int32)) = (0 : Int32))))), .val (.int ca), .val (.int cb), .val (.int cc), .val (.int (p4 + p5)), .val (.ref b4), .val (.ref b12), .val (.int (1 : Int32))] [(.int p5), (.int cb), (.ref b12)])) (fun _ ks_ => XS.iload X42.here hx rfl (hb hby at_142) rfl  ks_) ?_
    obtain ⟨cq43, kq43, q43a, q43b, q43c⟩ := isOf hZ eq42 Fa36
    obtain ⟨_, _, ⟨T43, L43, k43, n43⟩, -, X43, ⟨Lc43, hQ43, l43, y43, z43⟩, st43⟩ := X42.virtualBack hx (y := (⟨"com/example/locattr/locattr/PlaceCounter", "pass", "(II)V"⟩ : MethodName)) (z := (⟨"com/example/locattr/locattr/PlaceCounter", "pass", "(II)V"⟩ : MethodName)) hown (mvT hZ (ww hw 20 rfl)) (mvT hZ (ww hw 21 rfl)) (notFace_of_selects (args := #[]) (mvT hZ (ww hw 23 rfl))) (mvT hZ (ww hw 23 rfl)) (mvT hZ (ww hw 22 rfl)) (by decide) (backOf (W := 0) (rm4 l Z a0 hw [] b12 cb p5 (ps_line ca (1 : Int32) (B (¬ ((p0 &&& (1 : Int32)) = (0 : Int32)))) (0 : Int32)) (ps_column ca p4 (1 : Int32) (B (¬ ((p0 &&& (1 : Int32)) = (0 : Int32)))) (0 : Int32)) (B (¬ ((p0 &&& (1 : Int32)) = (0 : Int32)))) (ps_afterReturn ca) T34.heap n0 Z34 g_b12 Fa36 Fa37 Fa38 Fa39 Fa40) hZ (ww hw 24 rfl) (ww hw 7 rfl) (by decide) (by decide)) q43a q43c (g := (mkF m 144 #[.val (.int p0), .val (.int p1), .val (.int p2), .val (.int p3), .val (.int p4), .val (.int p5), .val (.int (B (¬ ((p0 &&& (1 : Int32)) = (0 : Int32))))), .val (.int ca), .val (.int cb), .val (.int cc), .val (.int (p4 + p5)), .val (.ref b4), .val (.ref b12), .val (.int (1 : Int32))] [(.int p5), (.int cb), (.ref b12)])) rfl (by rw [hml]; rfl) (Steps.refl _) (argsL := [(.int cb), (.int p5)]) (rest := []) (lenOf pd__40_II_41_V rfl) rfl (by show 2 * 0 + _ ≤ _; exact Nat.le_of_eq rfl) (hb hby at_144) (fun _ _ => ⟨rfl, eq42, (by decide : 2 + 0 ≤ _), (by decide : 7 + 0 ≤ _)⟩)
    dsimp only [Pt.U, Pt.locs, Pt.cells, Pt.slots] at X43 l43 y43 z43 st43 hQ43
    subst l43 y43 z43
    obtain ⟨rfl, N43q, Kq43, Fa44, Fa45, Fa46, Fa47, Fa48⟩ := hQ43
    have N43 := Fr.app N42 N43q
    have K43 : Keep h0 T43.heap [] := K34.trans Kq43 (allS (P := fun x => x ∈ [] ∨ h0.size ≤ x) (Or.inr sz_b12) all0)
    have Z43 : n0 ≤ T43.heap.size := Nat.le_trans Z34 Kq43.1
    have Fa49 : Exa Z T43.heap b12 "com/example/locattr/locattr/PlaceCounter" := Fa36.keep Kq43
    have Fa50 : PI Z T43.heap b4 .int 3 (own_l [(sp_a0 (B (¬ ((p0 &&& (1 : Int32)) = (0 : Int32)))) ca (1 : Int32) (0 : Int32)), (sp_a1 (B (¬ ((p0 &&& (1 : Int32)) = (0 : Int32)))) ca p4 (1 : Int32) (0 : Int32)), (sp_a2 ca)]) := Fa35.keep Kq43 (ninS ne_b4_b12 nin0)
    refine goT (u' := T43.setTop (mkF m 147 #[.val (.int p0), .val (.int p1), .val (.int p2), .val (.int p3), .val (.int p4), .val (.int p5), .val (.int (B (¬ ((p0 &&& (1 : Int32)) = (0 : Int32))))), .val (.int ca), .val (.int cb), .val (.int cc), .val (.int (p4 + p5)), .val (.ref b4), .val (.ref b12), .val (.int (1 : Int32))] [])) st43 ?_
    refine go (u' := T43.setTop (mkF m 149 #[.val (.int p0), .val (.int p1), .val (.int p2), .val (.int p3), .val (.int p4), .val (.int p5), .val (.int (B (¬ ((p0 &&& (1 : Int32)) = (0 : Int32))))), .val (.int ca), .val (.int cb), .val (.int cc), .val (.int (p4 + p5)), .val (.ref b4), .val (.ref b12), .val (.int (1 : Int32))] [(.ref b4)])) (fun _ ks_ => XS.aload X43.here hx rfl (hb hby at_147) rfl rfl ks_) ?_
    refine go (u' := T43.setTop (mkF m 151 #[.val (.int p0), .val (.int p1), .val (.int p2), .val (.int p3), .val (.int p4), .val (.int p5), .val (.int (B (¬ ((p0 &&& (1 : Int32)) = (0 : Int32))))), .val (.int ca), .val (.int cb), .val (.int cc), .val (.int (p4 + p5)), .val (.ref b4), .val (.ref b12), .val (.int (1 : Int32))] [(.int (B (¬ ((p0 &&& (1 : Int32)) = (0 : Int32))))), (.ref b4)])) (fun _ ks_ => XS.iload X43.here hx rfl (hb hby at_149) rfl  ks_) ?_
    refine go (u' := T43.setTop (mkF m 153 #[.val (.int p0), .val (.int p1), .val (.int p2), .val (.int p3), .val (.int p4), .val (.int p5), .val (.int (B (¬ ((p0 &&& (1 : Int32)) = (0 : Int32))))), .val (.int ca), .val (.int cb), .val (.int cc), .val (.int (p4 + p5)), .val (.ref b4), .val (.ref b12), .val (.int (1 : Int32))] [(.int cb), (.int (B (¬ ((p0 &&& (1 : Int32)) = (0 : Int32))))), (.ref b4)])) (fun _ ks_ => XS.iload X43.here hx rfl (hb hby at_151) rfl  ks_) ?_
    refine go (u' := T43.setTop (mkF m 155 #[.val (.int p0), .val (.int p1), .val (.int p2), .val (.int p3), .val (.int p4), .val (.int p5), .val (.int (B (¬ ((p0 &&& (1 : Int32)) = (0 : Int32))))), .val (.int ca), .val (.int cb), .val (.int cc), .val (.int (p4 + p5)), .val (.ref b4), .val (.ref b12), .val (.int (1 : Int32))] [(.int p5), (.int cb), (.int (B (¬ ((p0 &&& (1 : Int32)) = (0 : Int32))))), (.ref b4)])) (fun _ ks_ => XS.iload X43.here hx rfl (hb hby at_153) rfl  ks_) ?_
    obtain ⟨_, _, ⟨T51, L51, k51, n51⟩, -, X51, ⟨Lc51, hQ51, l51, y51, z51⟩, st51⟩ := Jvm.LawKit.callS X43 hx (y := (⟨"com/example/locattr/locattr/PlaceCounterPassPinLaw", "step", "([IZII)V"⟩ : MethodName)) hown (mvT hZ (ww hw 27 rfl)) (mvT hZ (ww hw 28 rfl)) (mvT hZ (ww hw 2 rfl)) (mvT hZ (ww hw 29 rfl)) (by decide) (backOf (W := 0) (rm5 l Z a0 hw [] b4 (B (¬ ((p0 &&& (1 : Int32)) = (0 : Int32)))) cb p5 (sp_a0 (B (¬ ((p0 &&& (1 : Int32)) = (0 : Int32)))) ca (1 : Int32) (0 : Int32)) (sp_a1 (B (¬ ((p0 &&& (1 : Int32)) = (0 : Int32)))) ca p4 (1 : Int32) (0 : Int32)) (sp_a2 ca) T43.heap n0 Z43 g_b4 Fa50) hZ (ww hw 29 rfl) (ww hw 2 rfl) (by decide) (by decide)) (g := (mkF m 155 #[.val (.int p0), .val (.int p1), .val (.int p2), .val (.int p3), .val (.int p4), .val (.int p5), .val (.int (B (¬ ((p0 &&& (1 : Int32)) = (0 : Int32))))), .val (.int ca), .val (.int cb), .val (.int cc), .val (.int (p4 + p5)), .val (.ref b4), .val (.ref b12), .val (.int (1 : Int32))] [(.int p5), (.int cb), (.int (B (¬ ((p0 &&& (1 : Int32)) = (0 : Int32))))), (.ref b4)])) rfl (by rw [hml]; rfl) (argsL := [(.ref b4), (.int (B (¬ ((p0 &&& (1 : Int32)) = (0 : Int32))))), (.int cb), (.int p5)]) (rest := []) (lenOf pd__40__91_IZII_41_V rfl) rfl (by show 2 * 0 + _ ≤ _; exact Nat.le_of_eq rfl) (hb hby at_155) (fun _ _ => ⟨rfl, (rfl : T43.heap = _), (by decide : 2 + 0 ≤ _), (by decide : 7 + 0 ≤ _)⟩)
    dsimp only [Pt.U, Pt.locs, Pt.cells, Pt.slots] at X51 l51 y51 z51 st51 hQ51
    subst l51 y51 z51
    obtain ⟨rfl, N51q, Kq51, Fa52⟩ := hQ51
    have N51 := Fr.app N43 N51q
    have K51 : Keep h0 T51.heap [] := K43.trans Kq51 (allS (P := fun x => x ∈ [] ∨ h0.size ≤ x) (Or.inr sz_b4) all0)
    have Z51 : n0 ≤ T51.heap.size := Nat.le_trans Z43 Kq51.1
    have Fa53 : Exa Z T51.heap b12 "com/example/locattr/locattr/PlaceCounter" := Fa44.keep Kq51
    have Fa54 : Fld Z T51.heap b12 "com/example/locattr/locattr/PlaceCounter" "line" "I" (.int (ps_line cb (ps_line ca (1 : Int32) (B (¬ ((p0 &&& (1 : Int32)) = (0 : Int32)))) (0 : Int32)) (B (¬ ((p0 &&& (1 : Int32)) = (0 : Int32)))) (ps_afterReturn ca))) := Fa45.keep Kq51 (ninS (Ne.symm ne_b4_b12) nin0)
    have Fa55 : Fld Z T51.heap b12 "com/example/locattr/locattr/PlaceCounter" "column" "I" (.int (ps_column cb p5 (ps_column ca p4 (1 : Int32) (B (¬ ((p0 &&& (1 : Int32)) = (0 : Int32)))) (0 : Int32)) (B (¬ ((p0 &&& (1 : Int32)) = (0 : Int32)))) (ps_afterReturn ca))) := Fa46.keep Kq51 (ninS (Ne.symm ne_b4_b12) nin0)
    have Fa56 : Fld Z T51.heap b12 "com/example/locattr/locattr/PlaceCounter" "xml11" "Z" (.int (B (¬ ((p0 &&& (1 : Int32)) = (0 : Int32))))) := Fa47.keep Kq51 (ninS (Ne.symm ne_b4_b12) nin0)
    have Fa57 : Fld Z T51.heap b12 "com/example/locattr/locattr/PlaceCounter" "afterReturn" "Z" (.int (ps_afterReturn cb)) := Fa48.keep Kq51 (ninS (Ne.symm ne_b4_b12) nin0)
    refine go (u' := T51.setTop (mkF m 158 #[.val (.int p0), .val (.int p1), .val (.int p2), .val (.int p3), .val (.int p4), .val (.int p5), .val (.int (B (¬ ((p0 &&& (1 : Int32)) = (0 : Int32))))), .val (.int ca), .val (.int cb), .val (.int cc), .val (.int (p4 + p5)), .val (.ref b4), .val (.ref b12), .val (.int (1 : Int32))] [])) st51 ?_
    refine go (u' := T51.setTop (mkF m 160 #[.val (.int p0), .val (.int p1), .val (.int p2), .val (.int p3), .val (.int p4), .val (.int p5), .val (.int (B (¬ ((p0 &&& (1 : Int32)) = (0 : Int32))))), .val (.int ca), .val (.int cb), .val (.int cc), .val (.int (p4 + p5)), .val (.ref b4), .val (.ref b12), .val (.int (1 : Int32))] [(.int (1 : Int32))])) (fun _ ks_ => XS.iload X51.here hx rfl (hb hby at_158) rfl  ks_) ?_
    refine go (u' := T51.setTop (mkF m 163 #[.val (.int p0), .val (.int p1), .val (.int p2), .val (.int p3), .val (.int p4), .val (.int p5), .val (.int (B (¬ ((p0 &&& (1 : Int32)) = (0 : Int32))))), .val (.int ca), .val (.int cb), .val (.int cc), .val (.int (p4 + p5)), .val (.ref b4), .val (.ref b12), .val (.int (1 : Int32))] [])) (fun _ ks_ => XS.ifNo X51.here hx rfl (hb hby at_160) rfl ((if0 _ _).trans (feq (show ¬ ((1 : Int32) = (0 : Int32)) from (by decide))).1) ks_) ?_
    refine go (u' := T51.setTop (mkF m 165 #[.val (.int p0), .val (.int p1), .val (.int p2), .val (.int p3), .val (.int p4), .val (.int p5), .val (.int (B (¬ ((p0 &&& (1 : Int32)) = (0 : Int32))))), .val (.int ca), .val (.int cb), .val (.int cc), .val (.int (p4 + p5)), .val (.ref b4), .val (.ref b12), .val (.int (1 : Int32))] [(.ref b12)])) (fun _ ks_ => XS.aload X51.here hx rfl (hb hby at_163) rfl rfl ks_) ?_
    obtain ⟨cq58, kq58, q58a, q58b, q58c⟩ := isOf hZ (rfl : T51.heap = _) Fa53
    obtain ⟨_, _, ⟨T58, L58, k58, n58⟩, -, X58, ⟨Lc58, hQ58, l58, y58, z58⟩, st58⟩ := X51.virtualBack hx (y := (⟨"com/example/locattr/locattr/PlaceCounter", "line", "()I"⟩ : MethodName)) (z := (⟨"com/example/locattr/locattr/PlaceCounter", "line", "()I"⟩ : MethodName)) hown (mvT hZ (ww hw 30 rfl)) (mvT hZ (ww hw 31 rfl)) (notFace_of_selects (args := #[]) (mvT hZ (ww hw 33 rfl))) (mvT hZ (ww hw 33 rfl)) (mvT hZ (ww hw 32 rfl)) (by decide) (backOf (W := 0) (rm6 l Z a0 hw [] b12 (ps_line cb (ps_line ca (1 : Int32) (B (¬ ((p0 &&& (1 : Int32)) = (0 : Int32)))) (0 : Int32)) (B (¬ ((p0 &&& (1 : Int32)) = (0 : Int32)))) (ps_afterReturn ca)) T51.heap n0 Z51 Fa54) hZ (ww hw 34 rfl) (ww hw 7 rfl) (by decide) (by decide)) q58a q58c (g := (mkF m 165 #[.val (.int p0), .val (.int p1), .val (.int p2), .val (.int p3), .val (.int p4), .val (.int p5), .val (.int (B (¬ ((p0 &&& (1 : Int32)) = (0 : Int32))))), .val (.int ca), .val (.int cb), .val (.int cc), .val (.int (p4 + p5)), .val (.ref b4), .val (.ref b12), .val (.int (1 : Int32))] [(.ref b12)])) rfl (by rw [hml]; rfl) (Steps.refl _) (argsL := []) (rest := []) (lenOf pd__40__41_I rfl) rfl (by show 2 * 0 + _ ≤ _; exact Nat.le_of_eq rfl) (hb hby at_165) (fun _ _ => ⟨rfl, (rfl : T51.heap = _), (by decide : 2 + 0 ≤ _), (by decide : 7 + 0 ≤ _)⟩)
    dsimp only [Pt.U, Pt.locs, Pt.cells, Pt.slots] at X58 l58 y58 z58 st58 hQ58
    subst l58 y58 z58
    obtain ⟨rfl, N58q, eq58⟩ := hQ58
    have N58 := Fr.app N51 N58q
    refine goT (u' := T58.setTop (mkF m 168 #[.val (.int p0), .val (.int p1), .val (.int p2), .val (.int p3), .val (.int p4), .val (.int p5), .val (.int (B (¬ ((p0 &&& (1 : Int32)) = (0 : Int32))))), .val (.int ca), .val (.int cb), .val (.int cc), .val (.int (p4 + p5)), .val (.ref b4), .val (.ref b12), .val (.int (1 : Int32))] [(.int (ps_line cb (ps_line ca (1 : Int32) (B (¬ ((p0 &&& (1 : Int32)) = (0 : Int32)))) (0 : Int32)) (B (¬ ((p0 &&& (1 : Int32)) = (0 : Int32)))) (ps_afterReturn ca)))])) st58 ?_
    refine go (u' := T58.setTop (mkF m 170 #[.val (.int p0), .val (.int p1), .val (.int p2), .val (.int p3), .val (.int p4), .val (.int p5), .val (.int (B (¬ ((p0 &&& (1 : Int32)) = (0 : Int32))))), .val (.int ca), .val (.int cb), .val (.int cc), .val (.int (p4 + p5)), .val (.ref b4), .val (.ref b12), .val (.int (1 : Int32))] [(.ref b4), (.int (ps_line cb (ps_line ca (1 : Int32) (B (¬ ((p0 &&& (1 : Int32)) = (0 : Int32)))) (0 : Int32)) (B (¬ ((p0 &&& (1 : Int32)) = (0 : Int32)))) (ps_afterReturn ca)))])) (fun _ ks_ => XS.aload X58.here hx rfl (hb hby at_168) rfl rfl ks_) ?_
    refine go (u' := T58.setTop (mkF m 171 #[.val (.int p0), .val (.int p1), .val (.int p2), .val (.int p3), .val (.int p4), .val (.int p5), .val (.int (B (¬ ((p0 &&& (1 : Int32)) = (0 : Int32))))), .val (.int ca), .val (.int cb), .val (.int cc), .val (.int (p4 + p5)), .val (.ref b4), .val (.ref b12), .val (.int (1 : Int32))] [(.int (0 : Int32)), (.ref b4), (.int (ps_line cb (ps_line ca (1 : Int32) (B (¬ ((p0 &&& (1 : Int32)) = (0 : Int32)))) (0 : Int32)) (B (¬ ((p0 &&& (1 : Int32)) = (0 : Int32)))) (ps_afterReturn ca)))])) (fun _ ks_ => XS.iconst X58.here hx rfl (hb hby at_170) ks_) ?_
    refine go (u' := T58.setTop (mkF m 172 #[.val (.int p0), .val (.int p1), .val (.int p2), .val (.int p3), .val (.int p4), .val (.int p5), .val (.int (B (¬ ((p0 &&& (1 : Int32)) = (0 : Int32))))), .val (.int ca), .val (.int cb), .val (.int cc), .val (.int (p4 + p5)), .val (.ref b4), .val (.ref b12), .val (.int (1 : Int32))] [(.int (sp_a0 (B (¬ ((p0 &&& (1 : Int32)) = (0 : Int32)))) cb (sp_a0 (B (¬ ((p0 &&& (1 : Int32)) = (0 : Int32)))) ca (1 : Int32) (0 : Int32)) (sp_a2 ca))), (.int (ps_line cb (ps_line ca (1 : Int32) (B (¬ ((p0 &&& (1 : Int32)) = (0 : Int32)))) (0 : Int32)) (B (¬ ((p0 &&& (1 : Int32)) = (0 : Int32)))) (ps_afterReturn ca)))])) (own_iaload X58 hx hZ eq58 Fa52 (j := (0 : Int32)) (v := (sp_a0 (B (¬ ((p0 &&& (1 : Int32)) = (0 : Int32)))) cb (sp_a0 (B (¬ ((p0 &&& (1 : Int32)) = (0 : Int32)))) ca (1 : Int32) (0 : Int32)) (sp_a2 ca))) (by decide) (by decide) rfl (f := (mkF m 171 #[.val (.int p0), .val (.int p1), .val (.int p2), .val (.int p3), .val (.int p4), .val (.int p5), .val (.int (B (¬ ((p0 &&& (1 : Int32)) = (0 : Int32))))), .val (.int ca), .val (.int cb), .val (.int cc), .val (.int (p4 + p5)), .val (.ref b4), .val (.ref b12), .val (.int (1 : Int32))] [(.int (0 : Int32)), (.ref b4), (.int (ps_line cb (ps_line ca (1 : Int32) (B (¬ ((p0 &&& (1 : Int32)) = (0 : Int32)))) (0 : Int32)) (B (¬ ((p0 &&& (1 : Int32)) = (0 : Int32)))) (ps_afterReturn ca)))])) rfl rfl (hb hby at_171)) ?_
    refine go (u' := T58.setTop (mkF m 175 #[.val (.int p0), .val (.int p1), .val (.int p2), .val (.int p3), .val (.int p4), .val (.int p5), .val (.int (B (¬ ((p0 &&& (1 : Int32)) = (0 : Int32))))), .val (.int ca), .val (.int cb), .val (.int cc), .val (.int (p4 + p5)), .val (.ref b4), .val (.ref b12), .val (.int (1 : Int32))] [])) (fun _ ks_ => XS.icmpNo X58.here hx rfl (hb hby at_172) rfl (teq (show (ps_line cb (ps_line ca (1 : Int32) (B (¬ ((p0 &&& (1 : Int32)) = (0 : Int32)))) (0 : Int32)) (B (¬ ((p0 &&& (1 : Int32)) = (0 : Int32)))) (ps_afterReturn ca)) = (sp_a0 (B (¬ ((p0 &&& (1 : Int32)) = (0 : Int32)))) cb (sp_a0 (B (¬ ((p0 &&& (1 : Int32)) = (0 : Int32)))) ca (1 : Int32) (0 : Int32)) (sp_a2 ca)) from (by simp only [own_eq0, own_eq1, own_eq2]))).2 ks_) ?_
    refine go (u' := T58.setTop (mkF m 177 #[.val (.int p0), .val (.int p1), .val (.int p2), .val (.int p3), .val (.int p4), .val (.int p5), .val (.int (B (¬ ((p0 &&& (1 : Int32)) = (0 : Int32))))), .val (.int ca), .val (.int cb), .val (.int cc), .val (.int (p4 + p5)), .val (.ref b4), .val (.ref b12), .val (.int (1 : Int32))] [(.ref b12)])) (fun _ ks_ => XS.aload X58.here hx rfl (hb hby at_175) rfl rfl ks_) ?_
    obtain ⟨cq59, kq59, q59a, q59b, q59c⟩ := isOf hZ eq58 Fa53
    obtain ⟨_, _, ⟨T59, L59, k59, n59⟩, -, X59, ⟨Lc59, hQ59, l59, y59, z59⟩, st59⟩ := X58.virtualBack hx (y := (⟨"com/example/locattr/locattr/PlaceCounter", "column", "()I"⟩ : MethodName)) (z := (⟨"com/example/locattr/locattr/PlaceCounter", "column", "()I"⟩ : MethodName)) hown (mvT hZ (ww hw 35 rfl)) (mvT hZ (ww hw 36 rfl)) (notFace_of_selects (args := #[]) (mvT hZ (ww hw 38 rfl))) (mvT hZ (ww hw 38 rfl)) (mvT hZ (ww hw 37 rfl)) (by decide) (backOf (W := 0) (rm7 l Z a0 hw [] b12 (ps_column cb p5 (ps_column ca p4 (1 : Int32) (B (¬ ((p0 &&& (1 : Int32)) = (0 : Int32)))) (0 : Int32)) (B (¬ ((p0 &&& (1 : Int32)) = (0 : Int32)))) (ps_afterReturn ca)) T51.heap n0 Z51 Fa55) hZ (ww hw 39 rfl) (ww hw 7 rfl) (by decide) (by decide)) q59a q59c (g := (mkF m 177 #[.val (.int p0), .val (.int p1), .val (.int p2), .val (.int p3), .val (.int p4), .val (.int p5), .val (.int (B (¬ ((p0 &&& (1 : Int32)) = (0 : Int32))))), .val (.int ca), .val (.int cb), .val (.int cc), .val (.int (p4 + p5)), .val (.ref b4), .val (.ref b12), .val (.int (1 : Int32))] [(.ref b12)])) rfl (by rw [hml]; rfl) (Steps.refl _) (argsL := []) (rest := []) (lenOf pd__40__41_I rfl) rfl (by show 2 * 0 + _ ≤ _; exact Nat.le_of_eq rfl) (hb hby at_177) (fun _ _ => ⟨rfl, eq58, (by decide : 2 + 0 ≤ _), (by decide : 7 + 0 ≤ _)⟩)
    dsimp only [Pt.U, Pt.locs, Pt.cells, Pt.slots] at X59 l59 y59 z59 st59 hQ59
    subst l59 y59 z59
    obtain ⟨rfl, N59q, eq59⟩ := hQ59
    have N59 := Fr.app N58 N59q
    refine goT (u' := T59.setTop (mkF m 180 #[.val (.int p0), .val (.int p1), .val (.int p2), .val (.int p3), .val (.int p4), .val (.int p5), .val (.int (B (¬ ((p0 &&& (1 : Int32)) = (0 : Int32))))), .val (.int ca), .val (.int cb), .val (.int cc), .val (.int (p4 + p5)), .val (.ref b4), .val (.ref b12), .val (.int (1 : Int32))] [(.int (ps_column cb p5 (ps_column ca p4 (1 : Int32) (B (¬ ((p0 &&& (1 : Int32)) = (0 : Int32)))) (0 : Int32)) (B (¬ ((p0 &&& (1 : Int32)) = (0 : Int32)))) (ps_afterReturn ca)))])) st59 ?_
    refine go (u' := T59.setTop (mkF m 182 #[.val (.int p0), .val (.int p1), .val (.int p2), .val (.int p3), .val (.int p4), .val (.int p5), .val (.int (B (¬ ((p0 &&& (1 : Int32)) = (0 : Int32))))), .val (.int ca), .val (.int cb), .val (.int cc), .val (.int (p4 + p5)), .val (.ref b4), .val (.ref b12), .val (.int (1 : Int32))] [(.ref b4), (.int (ps_column cb p5 (ps_column ca p4 (1 : Int32) (B (¬ ((p0 &&& (1 : Int32)) = (0 : Int32)))) (0 : Int32)) (B (¬ ((p0 &&& (1 : Int32)) = (0 : Int32)))) (ps_afterReturn ca)))])) (fun _ ks_ => XS.aload X59.here hx rfl (hb hby at_180) rfl rfl ks_) ?_
    refine go (u' := T59.setTop (mkF m 183 #[.val (.int p0), .val (.int p1), .val (.int p2), .val (.int p3), .val (.int p4), .val (.int p5), .val (.int (B (¬ ((p0 &&& (1 : Int32)) = (0 : Int32))))), .val (.int ca), .val (.int cb), .val (.int cc), .val (.int (p4 + p5)), .val (.ref b4), .val (.ref b12), .val (.int (1 : Int32))] [(.int (1 : Int32)), (.ref b4), (.int (ps_column cb p5 (ps_column ca p4 (1 : Int32) (B (¬ ((p0 &&& (1 : Int32)) = (0 : Int32)))) (0 : Int32)) (B (¬ ((p0 &&& (1 : Int32)) = (0 : Int32)))) (ps_afterReturn ca)))])) (fun _ ks_ => XS.iconst X59.here hx rfl (hb hby at_182) ks_) ?_
    refine go (u' := T59.setTop (mkF m 184 #[.val (.int p0), .val (.int p1), .val (.int p2), .val (.int p3), .val (.int p4), .val (.int p5), .val (.int (B (¬ ((p0 &&& (1 : Int32)) = (0 : Int32))))), .val (.int ca), .val (.int cb), .val (.int cc), .val (.int (p4 + p5)), .val (.ref b4), .val (.ref b12), .val (.int (1 : Int32))] [(.int (sp_a1 (B (¬ ((p0 &&& (1 : Int32)) = (0 : Int32)))) cb p5 (sp_a1 (B (¬ ((p0 &&& (1 : Int32)) = (0 : Int32)))) ca p4 (1 : Int32) (0 : Int32)) (sp_a2 ca))), (.int (ps_column cb p5 (ps_column ca p4 (1 : Int32) (B (¬ ((p0 &&& (1 : Int32)) = (0 : Int32)))) (0 : Int32)) (B (¬ ((p0 &&& (1 : Int32)) = (0 : Int32)))) (ps_afterReturn ca)))])) (own_iaload X59 hx hZ eq59 Fa52 (j := (1 : Int32)) (v := (sp_a1 (B (¬ ((p0 &&& (1 : Int32)) = (0 : Int32)))) cb p5 (sp_a1 (B (¬ ((p0 &&& (1 : Int32)) = (0 : Int32)))) ca p4 (1 : Int32) (0 : Int32)) (sp_a2 ca))) (by decide) (by decide) rfl (f := (mkF m 183 #[.val (.int p0), .val (.int p1), .val (.int p2), .val (.int p3), .val (.int p4), .val (.int p5), .val (.int (B (¬ ((p0 &&& (1 : Int32)) = (0 : Int32))))), .val (.int ca), .val (.int cb), .val (.int cc), .val (.int (p4 + p5)), .val (.ref b4), .val (.ref b12), .val (.int (1 : Int32))] [(.int (1 : Int32)), (.ref b4), (.int (ps_column cb p5 (ps_column ca p4 (1 : Int32) (B (¬ ((p0 &&& (1 : Int32)) = (0 : Int32)))) (0 : Int32)) (B (¬ ((p0 &&& (1 : Int32)) = (0 : Int32)))) (ps_afterReturn ca)))])) rfl rfl (hb hby at_183)) ?_
    refine go (u' := T59.setTop (mkF m 187 #[.val (.int p0), .val (.int p1), .val (.int p2), .val (.int p3), .val (.int p4), .val (.int p5), .val (.int (B (¬ ((p0 &&& (1 : Int32)) = (0 : Int32))))), .val (.int ca), .val (.int cb), .val (.int cc), .val (.int (p4 + p5)), .val (.ref b4), .val (.ref b12), .val (.int (1 : Int32))] [])) (fun _ ks_ => XS.icmpNo X59.here hx rfl (hb hby at_184) rfl (teq (show (ps_column cb p5 (ps_column ca p4 (1 : Int32) (B (¬ ((p0 &&& (1 : Int32)) = (0 : Int32)))) (0 : Int32)) (B (¬ ((p0 &&& (1 : Int32)) = (0 : Int32)))) (ps_afterReturn ca)) = (sp_a1 (B (¬ ((p0 &&& (1 : Int32)) = (0 : Int32)))) cb p5 (sp_a1 (B (¬ ((p0 &&& (1 : Int32)) = (0 : Int32)))) ca p4 (1 : Int32) (0 : Int32)) (sp_a2 ca)) from (by simp only [own_eq0, own_eq1, own_eq2]))).2 ks_) ?_
    refine go (u' := T59.setTop (mkF m 188 #[.val (.int p0), .val (.int p1), .val (.int p2), .val (.int p3), .val (.int p4), .val (.int p5), .val (.int (B (¬ ((p0 &&& (1 : Int32)) = (0 : Int32))))), .val (.int ca), .val (.int cb), .val (.int cc), .val (.int (p4 + p5)), .val (.ref b4), .val (.ref b12), .val (.int (1 : Int32))] [(.int (1 : Int32))])) (fun _ ks_ => XS.iconst X59.here hx rfl (hb hby at_187) ks_) ?_
    refine go (u' := T59.setTop (mkF m 192 #[.val (.int p0), .val (.int p1), .val (.int p2), .val (.int p3), .val (.int p4), .val (.int p5), .val (.int (B (¬ ((p0 &&& (1 : Int32)) = (0 : Int32))))), .val (.int ca), .val (.int cb), .val (.int cc), .val (.int (p4 + p5)), .val (.ref b4), .val (.ref b12), .val (.int (1 : Int32))] [(.int (1 : Int32))])) (fun _ ks_ => XS.goto X59.here hx rfl (pc0 := 188) (pc' := 192) rfl (hb hby at_188) (by decide) (by decide) ks_) ?_
    refine go (u' := T59.setTop (mkF m 194 #[.val (.int p0), .val (.int p1), .val (.int p2), .val (.int p3), .val (.int p4), .val (.int p5), .val (.int (B (¬ ((p0 &&& (1 : Int32)) = (0 : Int32))))), .val (.int ca), .val (.int cb), .val (.int cc), .val (.int (p4 + p5)), .val (.ref b4), .val (.ref b12), .val (.int (1 : Int32))] [])) (fun _ ks_ => XS.istore X59.here hx rfl (hb hby at_192) rfl  (l' := #[.val (.int p0), .val (.int p1), .val (.int p2), .val (.int p3), .val (.int p4), .val (.int p5), .val (.int (B (¬ ((p0 &&& (1 : Int32)) = (0 : Int32))))), .val (.int ca), .val (.int cb), .val (.int cc), .val (.int (p4 + p5)), .val (.ref b4), .val (.ref b12), .val (.int (1 : Int32))]) rfl ks_) ?_
    refine go (u' := T59.setTop (mkF m 196 #[.val (.int p0), .val (.int p1), .val (.int p2), .val (.int p3), .val (.int p4), .val (.int p5), .val (.int (B (¬ ((p0 &&& (1 : Int32)) = (0 : Int32))))), .val (.int ca), .val (.int cb), .val (.int cc), .val (.int (p4 + p5)), .val (.ref b4), .val (.ref b12), .val (.int (1 : Int32))] [(.ref b12)])) (fun _ ks_ => XS.aload X59.here hx rfl (hb hby at_194) rfl rfl ks_) ?_
    refine go (u' := T59.setTop (mkF m 198 #[.val (.int p0), .val (.int p1), .val (.int p2), .val (.int p3), .val (.int p4), .val (.int p5), .val (.int (B (¬ ((p0 &&& (1 : Int32)) = (0 : Int32))))), .val (.int ca), .val (.int cb), .val (.int cc), .val (.int (p4 + p5)), .val (.ref b4), .val (.ref b12), .val (.int (1 : Int32))] [(.int cc), (.ref b12)])) (fun _ ks_ => XS.iload X59.here hx rfl (hb hby at_196) rfl  ks_) ?_
    refine go (u' := T59.setTop (mkF m 200 #[.val (.int p0), .val (.int p1), .val (.int p2), .val (.int p3), .val (.int p4), .val (.int p5), .val (.int (B (¬ ((p0 &&& (1 : Int32)) = (0 : Int32))))), .val (.int ca), .val (.int cb), .val (.int cc), .val (.int (p4 + p5)), .val (.ref b4), .val (.ref b12), .val (.int (1 : Int32))] [(.int (p4 + p5)), (.int cc), (.ref b12)])) (fun _ ks_ => XS.iload X59.here hx rfl (hb hby at_198) rfl  ks_) ?_
    obtain ⟨cq60, kq60, q60a, q60b, q60c⟩ := isOf hZ eq59 Fa53
    obtain ⟨_, _, ⟨T60, L60, k60, n60⟩, -, X60, ⟨Lc60, hQ60, l60, y60, z60⟩, st60⟩ := X59.virtualBack hx (y := (⟨"com/example/locattr/locattr/PlaceCounter", "pass", "(II)V"⟩ : MethodName)) (z := (⟨"com/example/locattr/locattr/PlaceCounter", "pass", "(II)V"⟩ : MethodName)) hown (mvT hZ (ww hw 20 rfl)) (mvT hZ (ww hw 21 rfl)) (notFace_of_selects (args := #[]) (mvT hZ (ww hw 23 rfl))) (mvT hZ (ww hw 23 rfl)) (mvT hZ (ww hw 22 rfl)) (by decide) (backOf (W := 0) (rm4 l Z a0 hw [] b12 cc (p4 + p5) (ps_line cb (ps_line ca (1 : Int32) (B (¬ ((p0 &&& (1 : Int32)) = (0 : Int32)))) (0 : Int32)) (B (¬ ((p0 &&& (1 : Int32)) = (0 : Int32)))) (ps_afterReturn ca)) (ps_column cb p5 (ps_column ca p4 (1 : Int32) (B (¬ ((p0 &&& (1 : Int32)) = (0 : Int32)))) (0 : Int32)) (B (¬ ((p0 &&& (1 : Int32)) = (0 : Int32)))) (ps_afterReturn ca)) (B (¬ ((p0 &&& (1 : Int32)) = (0 : Int32)))) (ps_afterReturn cb) T51.heap n0 Z51 g_b12 Fa53 Fa54 Fa55 Fa56 Fa57) hZ (ww hw 24 rfl) (ww hw 7 rfl) (by decide) (by decide)) q60a q60c (g := (mkF m 200 #[.val (.int p0), .val (.int p1), .val (.int p2), .val (.int p3), .val (.int p4), .val (.int p5), .val (.int (B (¬ ((p0 &&& (1 : Int32)) = (0 : Int32))))), .val (.int ca), .val (.int cb), .val (.int cc), .val (.int (p4 + p5)), .val (.ref b4), .val (.ref b12), .val (.int (1 : Int32))] [(.int (p4 + p5)), (.int cc), (.ref b12)])) rfl (by rw [hml]; rfl) (Steps.refl _) (argsL := [(.int cc), (.int (p4 + p5))]) (rest := []) (lenOf pd__40_II_41_V rfl) rfl (by show 2 * 0 + _ ≤ _; exact Nat.le_of_eq rfl) (hb hby at_200) (fun _ _ => ⟨rfl, eq59, (by decide : 2 + 0 ≤ _), (by decide : 7 + 0 ≤ _)⟩)
    dsimp only [Pt.U, Pt.locs, Pt.cells, Pt.slots] at X60 l60 y60 z60 st60 hQ60
    subst l60 y60 z60
    obtain ⟨rfl, N60q, Kq60, Fa61, Fa62, Fa63, Fa64, Fa65⟩ := hQ60
    have N60 := Fr.app N59 N60q
    have K60 : Keep h0 T60.heap [] := K51.trans Kq60 (allS (P := fun x => x ∈ [] ∨ h0.size ≤ x) (Or.inr sz_b12) all0)
    have Z60 : n0 ≤ T60.heap.size := Nat.le_trans Z51 Kq60.1
    have Fa66 : Exa Z T60.heap b12 "com/example/locattr/locattr/PlaceCounter" := Fa53.keep Kq60
    have Fa67 : PI Z T60.heap b4 .int 3 (own_l [(sp_a0 (B (¬ ((p0 &&& (1 : Int32)) = (0 : Int32)))) cb (sp_a0 (B (¬ ((p0 &&& (1 : Int32)) = (0 : Int32)))) ca (1 : Int32) (0 : Int32)) (sp_a2 ca)), (sp_a1 (B (¬ ((p0 &&& (1 : Int32)) = (0 : Int32)))) cb p5 (sp_a1 (B (¬ ((p0 &&& (1 : Int32)) = (0 : Int32)))) ca p4 (1 : Int32) (0 : Int32)) (sp_a2 ca)), (sp_a2 cb)]) := Fa52.keep Kq60 (ninS ne_b4_b12 nin0)
    refine goT (u' := T60.setTop (mkF m 203 #[.val (.int p0), .val (.int p1), .val (.int p2), .val (.int p3), .val (.int p4), .val (.int p5), .val (.int (B (¬ ((p0 &&& (1 : Int32)) = (0 : Int32))))), .val (.int ca), .val (.int cb), .val (.int cc), .val (.int (p4 + p5)), .val (.ref b4), .val (.ref b12), .val (.int (1 : Int32))] [])) st60 ?_
    refine go (u' := T60.setTop (mkF m 205 #[.val (.int p0), .val (.int p1), .val (.int p2), .val (.int p3), .val (.int p4), .val (.int p5), .val (.int (B (¬ ((p0 &&& (1 : Int32)) = (0 : Int32))))), .val (.int ca), .val (.int cb), .val (.int cc), .val (.int (p4 + p5)), .val (.ref b4), .val (.ref b12), .val (.int (1 : Int32))] [(.ref b4)])) (fun _ ks_ => XS.aload X60.here hx rfl (hb hby at_203) rfl rfl ks_) ?_
    refine go (u' := T60.setTop (mkF m 207 #[.val (.int p0), .val (.int p1), .val (.int p2), .val (.int p3), .val (.int p4), .val (.int p5), .val (.int (B (¬ ((p0 &&& (1 : Int32)) = (0 : Int32))))), .val (.int ca), .val (.int cb), .val (.int cc), .val (.int (p4 + p5)), .val (.ref b4), .val (.ref b12), .val (.int (1 : Int32))] [(.int (B (¬ ((p0 &&& (1 : Int32)) = (0 : Int32))))), (.ref b4)])) (fun _ ks_ => XS.iload X60.here hx rfl (hb hby at_205) rfl  ks_) ?_
    refine go (u' := T60.setTop (mkF m 209 #[.val (.int p0), .val (.int p1), .val (.int p2), .val (.int p3), .val (.int p4), .val (.int p5), .val (.int (B (¬ ((p0 &&& (1 : Int32)) = (0 : Int32))))), .val (.int ca), .val (.int cb), .val (.int cc), .val (.int (p4 + p5)), .val (.ref b4), .val (.ref b12), .val (.int (1 : Int32))] [(.int cc), (.int (B (¬ ((p0 &&& (1 : Int32)) = (0 : Int32))))), (.ref b4)])) (fun _ ks_ => XS.iload X60.here hx rfl (hb hby at_207) rfl  ks_) ?_
    refine go (u' := T60.setTop (mkF m 211 #[.val (.int p0), .val (.int p1), .val (.int p2), .val (.int p3), .val (.int p4), .val (.int p5), .val (.int (B (¬ ((p0 &&& (1 : Int32)) = (0 : Int32))))), .val (.int ca), .val (.int cb), .val (.int cc), .val (.int (p4 + p5)), .val (.ref b4), .val (.ref b12), .val (.int (1 : Int32))] [(.int (p4 + p5)), (.int cc), (.int (B (¬ ((p0 &&& (1 : Int32)) = (0 : Int32))))), (.ref b4)])) (fun _ ks_ => XS.iload X60.here hx rfl (hb hby at_209) rfl  ks_) ?_
    obtain ⟨_, _, ⟨T68, L68, k68, n68⟩, -, X68, ⟨Lc68, hQ68, l68, y68, z68⟩, st68⟩ := Jvm.LawKit.callS X60 hx (y := (⟨"com/example/locattr/locattr/PlaceCounterPassPinLaw", "step", "([IZII)V"⟩ : MethodName)) hown (mvT hZ (ww hw 27 rfl)) (mvT hZ (ww hw 28 rfl)) (mvT hZ (ww hw 2 rfl)) (mvT hZ (ww hw 29 rfl)) (by decide) (backOf (W := 0) (rm5 l Z a0 hw [] b4 (B (¬ ((p0 &&& (1 : Int32)) = (0 : Int32)))) cc (p4 + p5) (sp_a0 (B (¬ ((p0 &&& (1 : Int32)) = (0 : Int32)))) cb (sp_a0 (B (¬ ((p0 &&& (1 : Int32)) = (0 : Int32)))) ca (1 : Int32) (0 : Int32)) (sp_a2 ca)) (sp_a1 (B (¬ ((p0 &&& (1 : Int32)) = (0 : Int32)))) cb p5 (sp_a1 (B (¬ ((p0 &&& (1 : Int32)) = (0 : Int32)))) ca p4 (1 : Int32) (0 : Int32)) (sp_a2 ca)) (sp_a2 cb) T60.heap n0 Z60 g_b4 Fa67) hZ (ww hw 29 rfl) (ww hw 2 rfl) (by decide) (by decide)) (g := (mkF m 211 #[.val (.int p0), .val (.int p1), .val (.int p2), .val (.int p3), .val (.int p4), .val (.int p5), .val (.int (B (¬ ((p0 &&& (1 : Int32)) = (0 : Int32))))), .val (.int ca), .val (.int cb), .val (.int cc), .val (.int (p4 + p5)), .val (.ref b4), .val (.ref b12), .val (.int (1 : Int32))] [(.int (p4 + p5)), (.int cc), (.int (B (¬ ((p0 &&& (1 : Int32)) = (0 : Int32))))), (.ref b4)])) rfl (by rw [hml]; rfl) (argsL := [(.ref b4), (.int (B (¬ ((p0 &&& (1 : Int32)) = (0 : Int32))))), (.int cc), (.int (p4 + p5))]) (rest := []) (lenOf pd__40__91_IZII_41_V rfl) rfl (by show 2 * 0 + _ ≤ _; exact Nat.le_of_eq rfl) (hb hby at_211) (fun _ _ => ⟨rfl, (rfl : T60.heap = _), (by decide : 2 + 0 ≤ _), (by decide : 7 + 0 ≤ _)⟩)
    dsimp only [Pt.U, Pt.locs, Pt.cells, Pt.slots] at X68 l68 y68 z68 st68 hQ68
    subst l68 y68 z68
    obtain ⟨rfl, N68q, Kq68, Fa69⟩ := hQ68
    have N68 := Fr.app N60 N68q
    have K68 : Keep h0 T68.heap [] := K60.trans Kq68 (allS (P := fun x => x ∈ [] ∨ h0.size ≤ x) (Or.inr sz_b4) all0)
    have Z68 : n0 ≤ T68.heap.size := Nat.le_trans Z60 Kq68.1
    have Fa70 : Exa Z T68.heap b12 "com/example/locattr/locattr/PlaceCounter" := Fa61.keep Kq68
    have Fa71 : Fld Z T68.heap b12 "com/example/locattr/locattr/PlaceCounter" "line" "I" (.int (ps_line cc (ps_line cb (ps_line ca (1 : Int32) (B (¬ ((p0 &&& (1 : Int32)) = (0 : Int32)))) (0 : Int32)) (B (¬ ((p0 &&& (1 : Int32)) = (0 : Int32)))) (ps_afterReturn ca)) (B (¬ ((p0 &&& (1 : Int32)) = (0 : Int32)))) (ps_afterReturn cb))) := Fa62.keep Kq68 (ninS (Ne.symm ne_b4_b12) nin0)
    have Fa72 : Fld Z T68.heap b12 "com/example/locattr/locattr/PlaceCounter" "column" "I" (.int (ps_column cc (p4 + p5) (ps_column cb p5 (ps_column ca p4 (1 : Int32) (B (¬ ((p0 &&& (1 : Int32)) = (0 : Int32)))) (0 : Int32)) (B (¬ ((p0 &&& (1 : Int32)) = (0 : Int32)))) (ps_afterReturn ca)) (B (¬ ((p0 &&& (1 : Int32)) = (0 : Int32)))) (ps_afterReturn cb))) := Fa63.keep Kq68 (ninS (Ne.symm ne_b4_b12) nin0)
    have Fa73 : Fld Z T68.heap b12 "com/example/locattr/locattr/PlaceCounter" "xml11" "Z" (.int (B (¬ ((p0 &&& (1 : Int32)) = (0 : Int32))))) := Fa64.keep Kq68 (ninS (Ne.symm ne_b4_b12) nin0)
    have Fa74 : Fld Z T68.heap b12 "com/example/locattr/locattr/PlaceCounter" "afterReturn" "Z" (.int (ps_afterReturn cc)) := Fa65.keep Kq68 (ninS (Ne.symm ne_b4_b12) nin0)
    refine go (u' := T68.setTop (mkF m 214 #[.val (.int p0), .val (.int p1), .val (.int p2), .val (.int p3), .val (.int p4), .val (.int p5), .val (.int (B (¬ ((p0 &&& (1 : Int32)) = (0 : Int32))))), .val (.int ca), .val (.int cb), .val (.int cc), .val (.int (p4 + p5)), .val (.ref b4), .val (.ref b12), .val (.int (1 : Int32))] [])) st68 ?_
    refine go (u' := T68.setTop (mkF m 216 #[.val (.int p0), .val (.int p1), .val (.int p2), .val (.int p3), .val (.int p4), .val (.int p5), .val (.int (B (¬ ((p0 &&& (1 : Int32)) = (0 : Int32))))), .val (.int ca), .val (.int cb), .val (.int cc), .val (.int (p4 + p5)), .val (.ref b4), .val (.ref b12), .val (.int (1 : Int32))] [(.int (1 : Int32))])) (fun _ ks_ => XS.iload X68.here hx rfl (hb hby at_214) rfl  ks_) ?_
    refine go (u' := T68.setTop (mkF m 219 #[.val (.int p0), .val (.int p1), .val (.int p2), .val (.int p3), .val (.int p4), .val (.int p5), .val (.int (B (¬ ((p0 &&& (1 : Int32)) = (0 : Int32))))), .val (.int ca), .val (.int cb), .val (.int cc), .val (.int (p4 + p5)), .val (.ref b4), .val (.ref b12), .val (.int (1 : Int32))] [])) (fun _ ks_ => XS.ifNo X68.here hx rfl (hb hby at_216) rfl ((if0 _ _).trans (feq (show ¬ ((1 : Int32) = (0 : Int32)) from (by decide))).1) ks_) ?_
    refine go (u' := T68.setTop (mkF m 221 #[.val (.int p0), .val (.int p1), .val (.int p2), .val (.int p3), .val (.int p4), .val (.int p5), .val (.int (B (¬ ((p0 &&& (1 : Int32)) = (0 : Int32))))), .val (.int ca), .val (.int cb), .val (.int cc), .val (.int (p4 + p5)), .val (.ref b4), .val (.ref b12), .val (.int (1 : Int32))] [(.ref b12)])) (fun _ ks_ => XS.aload X68.here hx rfl (hb hby at_219) rfl rfl ks_) ?_
    obtain ⟨cq75, kq75, q75a, q75b, q75c⟩ := isOf hZ (rfl : T68.heap = _) Fa70
    obtain ⟨_, _, ⟨T75, L75, k75, n75⟩, -, X75, ⟨Lc75, hQ75, l75, y75, z75⟩, st75⟩ := X68.virtualBack hx (y := (⟨"com/example/locattr/locattr/PlaceCounter", "line", "()I"⟩ : MethodName)) (z := (⟨"com/example/locattr/locattr/PlaceCounter", "line", "()I"⟩ : MethodName)) hown (mvT hZ (ww hw 30 rfl)) (mvT hZ (ww hw 31 rfl)) (notFace_of_selects (args := #[]) (mvT hZ (ww hw 33 rfl))) (mvT hZ (ww hw 33 rfl)) (mvT hZ (ww hw 32 rfl)) (by decide) (backOf (W := 0) (rm6 l Z a0 hw [] b12 (ps_line cc (ps_line cb (ps_line ca (1 : Int32) (B (¬ ((p0 &&& (1 : Int32)) = (0 : Int32)))) (0 : Int32)) (B (¬ ((p0 &&& (1 : Int32)) = (0 : Int32)))) (ps_afterReturn ca)) (B (¬ ((p0 &&& (1 : Int32)) = (0 : Int32)))) (ps_afterReturn cb)) T68.heap n0 Z68 Fa71) hZ (ww hw 34 rfl) (ww hw 7 rfl) (by decide) (by decide)) q75a q75c (g := (mkF m 221 #[.val (.int p0), .val (.int p1), .val (.int p2), .val (.int p3), .val (.int p4), .val (.int p5), .val (.int (B (¬ ((p0 &&& (1 : Int32)) = (0 : Int32))))), .val (.int ca), .val (.int cb), .val (.int cc), .val (.int (p4 + p5)), .val (.ref b4), .val (.ref b12), .val (.int (1 : Int32))] [(.ref b12)])) rfl (by rw [hml]; rfl) (Steps.refl _) (argsL := []) (rest := []) (lenOf pd__40__41_I rfl) rfl (by show 2 * 0 + _ ≤ _; exact Nat.le_of_eq rfl) (hb hby at_221) (fun _ _ => ⟨rfl, (rfl : T68.heap = _), (by decide : 2 + 0 ≤ _), (by decide : 7 + 0 ≤ _)⟩)
    dsimp only [Pt.U, Pt.locs, Pt.cells, Pt.slots] at X75 l75 y75 z75 st75 hQ75
    subst l75 y75 z75
    obtain ⟨rfl, N75q, eq75⟩ := hQ75
    have N75 := Fr.app N68 N75q
    refine goT (u' := T75.setTop (mkF m 224 #[.val (.int p0), .val (.int p1), .val (.int p2), .val (.int p3), .val (.int p4), .val (.int p5), .val (.int (B (¬ ((p0 &&& (1 : Int32)) = (0 : Int32))))), .val (.int ca), .val (.int cb), .val (.int cc), .val (.int (p4 + p5)), .val (.ref b4), .val (.ref b12), .val (.int (1 : Int32))] [(.int (ps_line cc (ps_line cb (ps_line ca (1 : Int32) (B (¬ ((p0 &&& (1 : Int32)) = (0 : Int32)))) (0 : Int32)) (B (¬ ((p0 &&& (1 : Int32)) = (0 : Int32)))) (ps_afterReturn ca)) (B (¬ ((p0 &&& (1 : Int32)) = (0 : Int32)))) (ps_afterReturn cb)))])) st75 ?_
    refine go (u' := T75.setTop (mkF m 226 #[.val (.int p0), .val (.int p1), .val (.int p2), .val (.int p3), .val (.int p4), .val (.int p5), .val (.int (B (¬ ((p0 &&& (1 : Int32)) = (0 : Int32))))), .val (.int ca), .val (.int cb), .val (.int cc), .val (.int (p4 + p5)), .val (.ref b4), .val (.ref b12), .val (.int (1 : Int32))] [(.ref b4), (.int (ps_line cc (ps_line cb (ps_line ca (1 : Int32) (B (¬ ((p0 &&& (1 : Int32)) = (0 : Int32)))) (0 : Int32)) (B (¬ ((p0 &&& (1 : Int32)) = (0 : Int32)))) (ps_afterReturn ca)) (B (¬ ((p0 &&& (1 : Int32)) = (0 : Int32)))) (ps_afterReturn cb)))])) (fun _ ks_ => XS.aload X75.here hx rfl (hb hby at_224) rfl rfl ks_) ?_
    refine go (u' := T75.setTop (mkF m 227 #[.val (.int p0), .val (.int p1), .val (.int p2), .val (.int p3), .val (.int p4), .val (.int p5), .val (.int (B (¬ ((p0 &&& (1 : Int32)) = (0 : Int32))))), .val (.int ca), .val (.int cb), .val (.int cc), .val (.int (p4 + p5)), .val (.ref b4), .val (.ref b12), .val (.int (1 : Int32))] [(.int (0 : Int32)), (.ref b4), (.int (ps_line cc (ps_line cb (ps_line ca (1 : Int32) (B (¬ ((p0 &&& (1 : Int32)) = (0 : Int32)))) (0 : Int32)) (B (¬ ((p0 &&& (1 : Int32)) = (0 : Int32)))) (ps_afterReturn ca)) (B (¬ ((p0 &&& (1 : Int32)) = (0 : Int32)))) (ps_afterReturn cb)))])) (fun _ ks_ => XS.iconst X75.here hx rfl (hb hby at_226) ks_) ?_
    refine go (u' := T75.setTop (mkF m 228 #[.val (.int p0), .val (.int p1), .val (.int p2), .val (.int p3), .val (.int p4), .val (.int p5), .val (.int (B (¬ ((p0 &&& (1 : Int32)) = (0 : Int32))))), .val (.int ca), .val (.int cb), .val (.int cc), .val (.int (p4 + p5)), .val (.ref b4), .val (.ref b12), .val (.int (1 : Int32))] [(.int (sp_a0 (B (¬ ((p0 &&& (1 : Int32)) = (0 : Int32)))) cc (sp_a0 (B (¬ ((p0 &&& (1 : Int32)) = (0 : Int32)))) cb (sp_a0 (B (¬ ((p0 &&& (1 : Int32)) = (0 : Int32)))) ca (1 : Int32) (0 : Int32)) (sp_a2 ca)) (sp_a2 cb))), (.int (ps_line cc (ps_line cb (ps_line ca (1 : Int32) (B (¬ ((p0 &&& (1 : Int32)) = (0 : Int32)))) (0 : Int32)) (B (¬ ((p0 &&& (1 : Int32)) = (0 : Int32)))) (ps_afterReturn ca)) (B (¬ ((p0 &&& (1 : Int32)) = (0 : Int32)))) (ps_afterReturn cb)))])) (own_iaload X75 hx hZ eq75 Fa69 (j := (0 : Int32)) (v := (sp_a0 (B (¬ ((p0 &&& (1 : Int32)) = (0 : Int32)))) cc (sp_a0 (B (¬ ((p0 &&& (1 : Int32)) = (0 : Int32)))) cb (sp_a0 (B (¬ ((p0 &&& (1 : Int32)) = (0 : Int32)))) ca (1 : Int32) (0 : Int32)) (sp_a2 ca)) (sp_a2 cb))) (by decide) (by decide) rfl (f := (mkF m 227 #[.val (.int p0), .val (.int p1), .val (.int p2), .val (.int p3), .val (.int p4), .val (.int p5), .val (.int (B (¬ ((p0 &&& (1 : Int32)) = (0 : Int32))))), .val (.int ca), .val (.int cb), .val (.int cc), .val (.int (p4 + p5)), .val (.ref b4), .val (.ref b12), .val (.int (1 : Int32))] [(.int (0 : Int32)), (.ref b4), (.int (ps_line cc (ps_line cb (ps_line ca (1 : Int32) (B (¬ ((p0 &&& (1 : Int32)) = (0 : Int32)))) (0 : Int32)) (B (¬ ((p0 &&& (1 : Int32)) = (0 : Int32)))) (ps_afterReturn ca)) (B (¬ ((p0 &&& (1 : Int32)) = (0 : Int32)))) (ps_afterReturn cb)))])) rfl rfl (hb hby at_227)) ?_
    refine go (u' := T75.setTop (mkF m 231 #[.val (.int p0), .val (.int p1), .val (.int p2), .val (.int p3), .val (.int p4), .val (.int p5), .val (.int (B (¬ ((p0 &&& (1 : Int32)) = (0 : Int32))))), .val (.int ca), .val (.int cb), .val (.int cc), .val (.int (p4 + p5)), .val (.ref b4), .val (.ref b12), .val (.int (1 : Int32))] [])) (fun _ ks_ => XS.icmpNo X75.here hx rfl (hb hby at_228) rfl (teq (show (ps_line cc (ps_line cb (ps_line ca (1 : Int32) (B (¬ ((p0 &&& (1 : Int32)) = (0 : Int32)))) (0 : Int32)) (B (¬ ((p0 &&& (1 : Int32)) = (0 : Int32)))) (ps_afterReturn ca)) (B (¬ ((p0 &&& (1 : Int32)) = (0 : Int32)))) (ps_afterReturn cb)) = (sp_a0 (B (¬ ((p0 &&& (1 : Int32)) = (0 : Int32)))) cc (sp_a0 (B (¬ ((p0 &&& (1 : Int32)) = (0 : Int32)))) cb (sp_a0 (B (¬ ((p0 &&& (1 : Int32)) = (0 : Int32)))) ca (1 : Int32) (0 : Int32)) (sp_a2 ca)) (sp_a2 cb)) from (by simp only [own_eq0, own_eq1, own_eq2]))).2 ks_) ?_
    refine go (u' := T75.setTop (mkF m 233 #[.val (.int p0), .val (.int p1), .val (.int p2), .val (.int p3), .val (.int p4), .val (.int p5), .val (.int (B (¬ ((p0 &&& (1 : Int32)) = (0 : Int32))))), .val (.int ca), .val (.int cb), .val (.int cc), .val (.int (p4 + p5)), .val (.ref b4), .val (.ref b12), .val (.int (1 : Int32))] [(.ref b12)])) (fun _ ks_ => XS.aload X75.here hx rfl (hb hby at_231) rfl rfl ks_) ?_
    obtain ⟨cq76, kq76, q76a, q76b, q76c⟩ := isOf hZ eq75 Fa70
    obtain ⟨_, _, ⟨T76, L76, k76, n76⟩, -, X76, ⟨Lc76, hQ76, l76, y76, z76⟩, st76⟩ := X75.virtualBack hx (y := (⟨"com/example/locattr/locattr/PlaceCounter", "column", "()I"⟩ : MethodName)) (z := (⟨"com/example/locattr/locattr/PlaceCounter", "column", "()I"⟩ : MethodName)) hown (mvT hZ (ww hw 35 rfl)) (mvT hZ (ww hw 36 rfl)) (notFace_of_selects (args := #[]) (mvT hZ (ww hw 38 rfl))) (mvT hZ (ww hw 38 rfl)) (mvT hZ (ww hw 37 rfl)) (by decide) (backOf (W := 0) (rm7 l Z a0 hw [] b12 (ps_column cc (p4 + p5) (ps_column cb p5 (ps_column ca p4 (1 : Int32) (B (¬ ((p0 &&& (1 : Int32)) = (0 : Int32)))) (0 : Int32)) (B (¬ ((p0 &&& (1 : Int32)) = (0 : Int32)))) (ps_afterReturn ca)) (B (¬ ((p0 &&& (1 : Int32)) = (0 : Int32)))) (ps_afterReturn cb)) T68.heap n0 Z68 Fa72) hZ (ww hw 39 rfl) (ww hw 7 rfl) (by decide) (by decide)) q76a q76c (g := (mkF m 233 #[.val (.int p0), .val (.int p1), .val (.int p2), .val (.int p3), .val (.int p4), .val (.int p5), .val (.int (B (¬ ((p0 &&& (1 : Int32)) = (0 : Int32))))), .val (.int ca), .val (.int cb), .val (.int cc), .val (.int (p4 + p5)), .val (.ref b4), .val (.ref b12), .val (.int (1 : Int32))] [(.ref b12)])) rfl (by rw [hml]; rfl) (Steps.refl _) (argsL := []) (rest := []) (lenOf pd__40__41_I rfl) rfl (by show 2 * 0 + _ ≤ _; exact Nat.le_of_eq rfl) (hb hby at_233) (fun _ _ => ⟨rfl, eq75, (by decide : 2 + 0 ≤ _), (by decide : 7 + 0 ≤ _)⟩)
    dsimp only [Pt.U, Pt.locs, Pt.cells, Pt.slots] at X76 l76 y76 z76 st76 hQ76
    subst l76 y76 z76
    obtain ⟨rfl, N76q, eq76⟩ := hQ76
    have N76 := Fr.app N75 N76q
    refine goT (u' := T76.setTop (mkF m 236 #[.val (.int p0), .val (.int p1), .val (.int p2), .val (.int p3), .val (.int p4), .val (.int p5), .val (.int (B (¬ ((p0 &&& (1 : Int32)) = (0 : Int32))))), .val (.int ca), .val (.int cb), .val (.int cc), .val (.int (p4 + p5)), .val (.ref b4), .val (.ref b12), .val (.int (1 : Int32))] [(.int (ps_column cc (p4 + p5) (ps_column cb p5 (ps_column ca p4 (1 : Int32) (B (¬ ((p0 &&& (1 : Int32)) = (0 : Int32)))) (0 : Int32)) (B (¬ ((p0 &&& (1 : Int32)) = (0 : Int32)))) (ps_afterReturn ca)) (B (¬ ((p0 &&& (1 : Int32)) = (0 : Int32)))) (ps_afterReturn cb)))])) st76 ?_
    refine go (u' := T76.setTop (mkF m 238 #[.val (.int p0), .val (.int p1), .val (.int p2), .val (.int p3), .val (.int p4), .val (.int p5), .val (.int (B (¬ ((p0 &&& (1 : Int32)) = (0 : Int32))))), .val (.int ca), .val (.int cb), .val (.int cc), .val (.int (p4 + p5)), .val (.ref b4), .val (.ref b12), .val (.int (1 : Int32))] [(.ref b4), (.int (ps_column cc (p4 + p5) (ps_column cb p5 (ps_column ca p4 (1 : Int32) (B (¬ ((p0 &&& (1 : Int32)) = (0 : Int32)))) (0 : Int32)) (B (¬ ((p0 &&& (1 : Int32)) = (0 : Int32)))) (ps_afterReturn ca)) (B (¬ ((p0 &&& (1 : Int32)) = (0 : Int32)))) (ps_afterReturn cb)))])) (fun _ ks_ => XS.aload X76.here hx rfl (hb hby at_236) rfl rfl ks_) ?_
    refine go (u' := T76.setTop (mkF m 239 #[.val (.int p0), .val (.int p1), .val (.int p2), .val (.int p3), .val (.int p4), .val (.int p5), .val (.int (B (¬ ((p0 &&& (1 : Int32)) = (0 : Int32))))), .val (.int ca), .val (.int cb), .val (.int cc), .val (.int (p4 + p5)), .val (.ref b4), .val (.ref b12), .val (.int (1 : Int32))] [(.int (1 : Int32)), (.ref b4), (.int (ps_column cc (p4 + p5) (ps_column cb p5 (ps_column ca p4 (1 : Int32) (B (¬ ((p0 &&& (1 : Int32)) = (0 : Int32)))) (0 : Int32)) (B (¬ ((p0 &&& (1 : Int32)) = (0 : Int32)))) (ps_afterReturn ca)) (B (¬ ((p0 &&& (1 : Int32)) = (0 : Int32)))) (ps_afterReturn cb)))])) (fun _ ks_ => XS.iconst X76.here hx rfl (hb hby at_238) ks_) ?_
    refine go (u' := T76.setTop (mkF m 240 #[.val (.int p0), .val (.int p1), .val (.int p2), .val (.int p3), .val (.int p4), .val (.int p5), .val (.int (B (¬ ((p0 &&& (1 : Int32)) = (0 : Int32))))), .val (.int ca), .val (.int cb), .val (.int cc), .val (.int (p4 + p5)), .val (.ref b4), .val (.ref b12), .val (.int (1 : Int32))] [(.int (sp_a1 (B (¬ ((p0 &&& (1 : Int32)) = (0 : Int32)))) cc (p4 + p5) (sp_a1 (B (¬ ((p0 &&& (1 : Int32)) = (0 : Int32)))) cb p5 (sp_a1 (B (¬ ((p0 &&& (1 : Int32)) = (0 : Int32)))) ca p4 (1 : Int32) (0 : Int32)) (sp_a2 ca)) (sp_a2 cb))), (.int (ps_column cc (p4 + p5) (ps_column cb p5 (ps_column ca p4 (1 : Int32) (B (¬ ((p0 &&& (1 : Int32)) = (0 : Int32)))) (0 : Int32)) (B (¬ ((p0 &&& (1 : Int32)) = (0 : Int32)))) (ps_afterReturn ca)) (B (¬ ((p0 &&& (1 : Int32)) = (0 : Int32)))) (ps_afterReturn cb)))])) (own_iaload X76 hx hZ eq76 Fa69 (j := (1 : Int32)) (v := (sp_a1 (B (¬ ((p0 &&& (1 : Int32)) = (0 : Int32)))) cc (p4 + p5) (sp_a1 (B (¬ ((p0 &&& (1 : Int32)) = (0 : Int32)))) cb p5 (sp_a1 (B (¬ ((p0 &&& (1 : Int32)) = (0 : Int32)))) ca p4 (1 : Int32) (0 : Int32)) (sp_a2 ca)) (sp_a2 cb))) (by decide) (by decide) rfl (f := (mkF m 239 #[.val (.int p0), .val (.int p1), .val (.int p2), .val (.int p3), .val (.int p4), .val (.int p5), .val (.int (B (¬ ((p0 &&& (1 : Int32)) = (0 : Int32))))), .val (.int ca), .val (.int cb), .val (.int cc), .val (.int (p4 + p5)), .val (.ref b4), .val (.ref b12), .val (.int (1 : Int32))] [(.int (1 : Int32)), (.ref b4), (.int (ps_column cc (p4 + p5) (ps_column cb p5 (ps_column ca p4 (1 : Int32) (B (¬ ((p0 &&& (1 : Int32)) = (0 : Int32)))) (0 : Int32)) (B (¬ ((p0 &&& (1 : Int32)) = (0 : Int32)))) (ps_afterReturn ca)) (B (¬ ((p0 &&& (1 : Int32)) = (0 : Int32)))) (ps_afterReturn cb)))])) rfl rfl (hb hby at_239)) ?_
    refine go (u' := T76.setTop (mkF m 243 #[.val (.int p0), .val (.int p1), .val (.int p2), .val (.int p3), .val (.int p4), .val (.int p5), .val (.int (B (¬ ((p0 &&& (1 : Int32)) = (0 : Int32))))), .val (.int ca), .val (.int cb), .val (.int cc), .val (.int (p4 + p5)), .val (.ref b4), .val (.ref b12), .val (.int (1 : Int32))] [])) (fun _ ks_ => XS.icmpNo X76.here hx rfl (hb hby at_240) rfl (teq (show (ps_column cc (p4 + p5) (ps_column cb p5 (ps_column ca p4 (1 : Int32) (B (¬ ((p0 &&& (1 : Int32)) = (0 : Int32)))) (0 : Int32)) (B (¬ ((p0 &&& (1 : Int32)) = (0 : Int32)))) (ps_afterReturn ca)) (B (¬ ((p0 &&& (1 : Int32)) = (0 : Int32)))) (ps_afterReturn cb)) = (sp_a1 (B (¬ ((p0 &&& (1 : Int32)) = (0 : Int32)))) cc (p4 + p5) (sp_a1 (B (¬ ((p0 &&& (1 : Int32)) = (0 : Int32)))) cb p5 (sp_a1 (B (¬ ((p0 &&& (1 : Int32)) = (0 : Int32)))) ca p4 (1 : Int32) (0 : Int32)) (sp_a2 ca)) (sp_a2 cb)) from (by simp only [own_eq0, own_eq1, own_eq2]))).2 ks_) ?_
    refine go (u' := T76.setTop (mkF m 244 #[.val (.int p0), .val (.int p1), .val (.int p2), .val (.int p3), .val (.int p4), .val (.int p5), .val (.int (B (¬ ((p0 &&& (1 : Int32)) = (0 : Int32))))), .val (.int ca), .val (.int cb), .val (.int cc), .val (.int (p4 + p5)), .val (.ref b4), .val (.ref b12), .val (.int (1 : Int32))] [(.int (1 : Int32))])) (fun _ ks_ => XS.iconst X76.here hx rfl (hb hby at_243) ks_) ?_
    refine go (u' := T76.setTop (mkF m 248 #[.val (.int p0), .val (.int p1), .val (.int p2), .val (.int p3), .val (.int p4), .val (.int p5), .val (.int (B (¬ ((p0 &&& (1 : Int32)) = (0 : Int32))))), .val (.int ca), .val (.int cb), .val (.int cc), .val (.int (p4 + p5)), .val (.ref b4), .val (.ref b12), .val (.int (1 : Int32))] [(.int (1 : Int32))])) (fun _ ks_ => XS.goto X76.here hx rfl (pc0 := 244) (pc' := 248) rfl (hb hby at_244) (by decide) (by decide) ks_) ?_
    refine go (u' := T76.setTop (mkF m 250 #[.val (.int p0), .val (.int p1), .val (.int p2), .val (.int p3), .val (.int p4), .val (.int p5), .val (.int (B (¬ ((p0 &&& (1 : Int32)) = (0 : Int32))))), .val (.int ca), .val (.int cb), .val (.int cc), .val (.int (p4 + p5)), .val (.ref b4), .val (.ref b12), .val (.int (1 : Int32))] [])) (fun _ ks_ => XS.istore X76.here hx rfl (hb hby at_248) rfl  (l' := #[.val (.int p0), .val (.int p1), .val (.int p2), .val (.int p3), .val (.int p4), .val (.int p5), .val (.int (B (¬ ((p0 &&& (1 : Int32)) = (0 : Int32))))), .val (.int ca), .val (.int cb), .val (.int cc), .val (.int (p4 + p5)), .val (.ref b4), .val (.ref b12), .val (.int (1 : Int32))]) rfl ks_) ?_
    refine go (u' := T76.setTop (mkF m 252 #[.val (.int p0), .val (.int p1), .val (.int p2), .val (.int p3), .val (.int p4), .val (.int p5), .val (.int (B (¬ ((p0 &&& (1 : Int32)) = (0 : Int32))))), .val (.int ca), .val (.int cb), .val (.int cc), .val (.int (p4 + p5)), .val (.ref b4), .val (.ref b12), .val (.int (1 : Int32))] [(.int (1 : Int32))])) (fun _ ks_ => XS.iload X76.here hx rfl (hb hby at_250) rfl  ks_) ?_
    rw [hG]
    refine gN X76 hx hlk (t := .boolean) hret (by simp) rfl (hb hby at_252) ?_ (Nat.le_of_ble_eq_true rfl) (Nat.le_of_ble_eq_true rfl)
    show Q_rm0 Z p0 p1 p2 p3 p4 p5 h0 n0 (some (.int (1 : Int32))) T76.heap _
    rw [eq76]
    exact ⟨rfl, N76⟩
  by_cases c3_1 : (p0 &&& (1 : Int32)) = (0 : Int32)
  ·
    refine go (u' := s₁.setTop (mkF m 10 #[.val (.int p0), .val (.int p1), .val (.int p2), .val (.int p3), .val (.int p4), .val (.int p5), .unset, .unset, .unset, .unset, .unset, .unset, .unset, .unset] [])) (fun _ ks_ => XS.ifYes X0.here hx rfl (pc0 := 3) (pc' := 10) rfl (hb hby at_3) rfl ((if0 _ _).trans (teq c3_1).1) (by decide) (by decide) ks_) ?_
    refine go (u' := s₁.setTop (mkF m 11 #[.val (.int p0), .val (.int p1), .val (.int p2), .val (.int p3), .val (.int p4), .val (.int p5), .unset, .unset, .unset, .unset, .unset, .unset, .unset, .unset] [(.int (0 : Int32))])) (fun _ ks_ => XS.iconst X0.here hx rfl (hb hby at_10) ks_) ?_
    exact J11_1 _ (B0 (fun q => q c3_1))
  ·
    refine go (u' := s₁.setTop (mkF m 6 #[.val (.int p0), .val (.int p1), .val (.int p2), .val (.int p3), .val (.int p4), .val (.int p5), .unset, .unset, .unset, .unset, .unset, .unset, .unset, .unset] [])) (fun _ ks_ => XS.ifNo X0.here hx rfl (hb hby at_3) rfl ((if0 _ _).trans (feq c3_1).1) ks_) ?_
    refine go (u' := s₁.setTop (mkF m 7 #[.val (.int p0), .val (.int p1), .val (.int p2), .val (.int p3), .val (.int p4), .val (.int p5), .unset, .unset, .unset, .unset, .unset, .unset, .unset, .unset] [(.int (1 : Int32))])) (fun _ ks_ => XS.iconst X0.here hx rfl (hb hby at_6) ks_) ?_
    refine go (u' := s₁.setTop (mkF m 11 #[.val (.int p0), .val (.int p1), .val (.int p2), .val (.int p3), .val (.int p4), .val (.int p5), .unset, .unset, .unset, .unset, .unset, .unset, .unset, .unset] [(.int (1 : Int32))])) (fun _ ks_ => XS.goto X0.here hx rfl (pc0 := 7) (pc' := 11) rfl (hb hby at_7) (by decide) (by decide) ks_) ?_
    exact J11_1 _ (B1 c3_1)
set_option maxRecDepth 65536 in
set_option maxHeartbeats 40000000 in
theorem comes_1 {Post : Tables → Env → Array Value → State → Outcome → State → Prop} (hpost : ∀ tb e args s v u, (limb_1_1.after args s (.returned v) u = true ∧ limb_1_2.after args s (.returned v) u = true ∧ True) → FrameEnd s (.returned v) u (Jvm.fieldLocs frame_1_writes args s ++ Jvm.arrayLocs frame_1_arrays args s ++ Jvm.staticLocs frame_1_statics s) 16 128 → Post tb e args s (.returned v) u) :
    ArmFor flags0 classFile x code maxLocals ret World_1 tables_1 room_1 Calls_1 rest_1 Pre_1 Post := by
  intro l hfl _ _ p e ha hc hk s m args below hf hA hF happ hP
  obtain ⟨hcalls, hrest, hpre⟩ := hP
  obtain ⟨-, -, -, hnamed, -, -, -, hat⟩ := (Spec.applies_iff hf).mp happ
  obtain ⟨hg, hn⟩ := and_e (Cond.before_iff.mp (show (Jvm.Cond.and given_1 narrow_1).before args s = true from hpre))
  obtain ⟨hcount, r0⟩ := and_e hg
  obtain ⟨a0, r1⟩ := and_e r0
  obtain ⟨a1, r2⟩ := and_e r1
  obtain ⟨a2, r3⟩ := and_e r2
  obtain ⟨a3, r4⟩ := and_e r3
  obtain ⟨a4, r5⟩ := and_e r4
  obtain ⟨w0, w1, w2, w3, w4, w5, rfl⟩ : ∃ w0 w1 w2 w3 w4 w5 : Value, args = #[w0, w1, w2, w3, w4, w5] := by
    have hs : args.size = 6 := by simpa [Cond.value, given_1] using hcount
    obtain ⟨L⟩ := args
    match L, hs with
    | [w0, w1, w2, w3, w4, w5], _ => exact ⟨w0, w1, w2, w3, w4, w5, rfl⟩
  have hw := fun d (hd : d ∈ tables_1) => atoms_spec (ws := Jvm.Cond.code x code maxLocals ret :: tables_1) hat d (List.mem_cons_of_mem _ hd)
  have hfit : Fit s := fun {y c} hc i hi => by
    obtain ⟨ha, rfl⟩ := Array.getElem?_eq_some_iff.mp hc
    have q := List.all_eq_true.mp ((Array.all_eq_true_iff_forall_mem.mp hF) _ (Array.getElem_mem ha)) i (List.mem_range.mpr hi)
    simpa [Array.getElem?_eq_getElem hi] using q
  obtain ⟨x0, e0⟩ := is_v a0
  obtain rfl : w0 = (.int x0) := Option.some.inj e0
  obtain ⟨x1, e1⟩ := is_v a1
  obtain rfl : w1 = (.int x1) := Option.some.inj e1
  obtain ⟨x2, e2⟩ := is_v a2
  obtain rfl : w2 = (.int x2) := Option.some.inj e2
  obtain ⟨x3, e3⟩ := is_v a3
  obtain rfl : w3 = (.int x3) := Option.some.inj e3
  obtain ⟨x4, e4⟩ := is_v a4
  obtain rfl : w4 = (.int x4) := Option.some.inj e4
  obtain ⟨x5, e5⟩ := is_v r5
  obtain rfl : w5 = (.int x5) := Option.some.inj e5
  obtain ⟨n, o, h1, h2, h3, _, L, rfl, ⟨rfl, N⟩, hq⟩ := rm0 l s _ hw tables_1 x0 x1 x2 x3 x4 x5 s.heap s.heap.size (Nat.le_refl _)  p e ha hc hk s m _ below hf ((Spec.applies_iff_loose hf).mp happ).1 ⟨rfl, State.Warmed39.refl s, rfl⟩ trivial
  refine ⟨n, _, h1, h2, h3, hpost _ _ _ _ _ _ ⟨Cond.after_iff.mpr rfl, Cond.after_iff.mpr (eq_i res_at (Term.int_eval (1)) rfl), trivial⟩ ⟨hq.1, hq.2.1, (hq.2.2.sift fun y hy => Or.inr (N y hy)).mono (by decide) (by decide)⟩⟩
theorem main_1_1 : Claimed_1_1 := comes_1 fun _ _ _ _ _ _ h hF => ⟨h.1, hF⟩
theorem main_1_2 : Claimed_1_2 := comes_1 fun _ _ _ _ _ _ h hF => ⟨h.2.1, hF⟩
end Jvm.Pilot.@@N@@
namespace Jvm.Pilot.@@N@@
open Jvm Jvm.ClassFile Sem Op Lib Jvm.Free Jvm.Stand Jvm.Pilot.@@N@@.Jvm.D
/-! MADE BY PROGRAM (witnessworld.py) out of the Statement's table words and the real class files: 9 classes; the members and pool entries that the words name. The judged class is class 1, her method 3. -/
namespace start1
open Jvm.ClassFile
def u (s : String) : CpInfo := .utf8 (stringToUtf16 s)
/-- a pool by its gaps: so many unusable entries, then the entry; so many at the end -/
def gap : Nat → List CpInfo → List CpInfo
  | 0, r => r
  | n + 1, r => .unusable :: gap n r
def poolList (es : List (Nat × CpInfo)) (last : Nat) : List CpInfo := es.foldr (fun e r => gap e.1 (e.2 :: r)) (gap last [])
def pool (es : List (Nat × CpInfo)) (last : Nat) : Array CpInfo := ⟨poolList es last⟩
def fileOf (pool : Array CpInfo) (this : Nat) (attrs : Array Attribute := #[]) (ms : Array MethodInfo := #[]) (fl : Nat := 33) (sup : Nat := 0) (ifs : Array Nat := #[]) (fds : Array FieldInfo := #[]) : ClassFile where
  minorVersion := 0
  majorVersion := 65
  constantPool := pool
  accessFlags := fl
  thisClass := this
  superClass := sup
  interfaces := ifs
  fields := fds
  methods := ms
  attributes := attrs
def plain (name : String) (sup : Option ClassId) : Class where
  name := name
  kind := .ordinary
  loader := none
  accessFlags := 33
  super := sup
  interfaces := #[]
  cf := none
  fields := #[]
  methods := #[]
  instanceTypes := #[]
  staticTypes := #[]
  resolved := #[]
  callSites := []
  init := .initialized
  statics := none
  mirror := none

def pool0 : Array CpInfo := pool [(5, u "<init>"), (0, u "()V"), (1, .class_ 10), (1, u "java/lang/Object")] 113

def k0c0 : Code := { maxStack := 0, maxLocals := 1, code := object_method_1_code, exceptionTable := #[], attributes := #[] }
def k0m0 : Method := { name := "<init>", desc := "()V", sig := { parameters := [], returnType := none }, accessFlags := 1, code := some k0c0 }
/-- java/lang/Object -/
def k0 : Class := { plain "java/lang/Object" none with
  accessFlags := 33
  interfaces := #[]
  cf := some (fileOf pool0 8 #[] #[{ accessFlags := 1, nameIndex := 5, descriptorIndex := 6, attributes := #[] }] 33 0 #[] #[])
  fields := #[]
  methods := #[k0m0]
  instanceTypes := #[]
  staticTypes := #[]
  resolved := Array.replicate 124 none
  statics := none }

def pool1 : Array CpInfo := pool [(2, .class_ 4), (1, u "java/lang/Object"), (0, u "<init>"), (0, u "()V"), (0, .methodref 8 9), (0, .class_ 10), (0, .nameAndType 11 12), (0, u "com/example/locattr/locattr/PlaceCounterPassPinLaw"), (0, u "pick"), (0, u "(II)I"), (0, .class_ 14), (0, u "com/example/locattr/locattr/PlaceCounter"), (0, .methodref 13 16), (0, .nameAndType 5 17), (0, u "(Z)V"), (0, .methodref 13 19), (0, .nameAndType 20 21), (0, u "pass"), (0, u "(II)V"), (0, .methodref 8 23), (0, .nameAndType 24 25), (0, u "step"), (0, u "([IZII)V"), (0, .methodref 13 27), (0, .nameAndType 28 29), (0, u "line"), (0, u "()I"), (0, .methodref 13 31), (0, .nameAndType 32 29), (0, u "column"), (5, u "law"), (0, u "(IIIIII)Z")] 2

def k1m0 : Method := { name := "<init>", desc := "()V", sig := { parameters := [], returnType := none }, accessFlags := 1, code := none }
def k1c1 : Code := { maxStack := 2, maxLocals := 3, code := method_2_code, exceptionTable := #[], attributes := #[] }
def k1m1 : Method := { name := "pick", desc := "(II)I", sig := { parameters := [.int, .int], returnType := some .int }, accessFlags := 10, code := some k1c1 }
def k1c2 : Code := { maxStack := 4, maxLocals := 7, code := method_3_code, exceptionTable := #[], attributes := #[] }
def k1m2 : Method := { name := "step", desc := "([IZII)V", sig := { parameters := [(.array .int), .boolean, .int, .int], returnType := none }, accessFlags := 10, code := some k1c2 }
def k1c3 : Code := { maxStack := 4, maxLocals := 14, code := code, exceptionTable := #[], attributes := #[] }
def k1m3 : Method := { name := "law", desc := "(IIIIII)Z", sig := { parameters := [.int, .int, .int, .int, .int, .int], returnType := some .boolean }, accessFlags := 9, code := some k1c3 }
/-- com/example/locattr/locattr/PlaceCounterPassPinLaw -/
def k1 : Class := { plain "com/example/locattr/locattr/PlaceCounterPassPinLaw" (some 0) with
  accessFlags := 49
  interfaces := #[]
  cf := some (fileOf pool1 8 #[] #[{ accessFlags := 1, nameIndex := 5, descriptorIndex := 6, attributes := #[] }, { accessFlags := 10, nameIndex := 11, descriptorIndex := 12, attributes := #[] }, { accessFlags := 10, nameIndex := 24, descriptorIndex := 25, attributes := #[] }, { accessFlags := 9, nameIndex := 38, descriptorIndex := 39, attributes := #[] }] 49 2 #[] #[])
  fields := #[]
  methods := #[k1m0, k1m1, k1m2, k1m3]
  instanceTypes := #[]
  staticTypes := #[]
  resolved := Array.replicate 42 none
  statics := none }

def pool2 : Array CpInfo := pool [(1, .methodref 2 3), (0, .class_ 4), (0, .nameAndType 5 6), (0, u "java/lang/Object"), (0, u "<init>"), (0, u "()V"), (0, .fieldref 8 9), (0, .class_ 10), (0, .nameAndType 11 12), (0, u "com/example/locattr/locattr/PlaceCounter"), (0, u "line"), (0, u "I"), (0, .fieldref 8 14), (0, .nameAndType 15 12), (0, u "column"), (0, .fieldref 8 17), (0, .nameAndType 18 19), (0, u "xml11"), (0, u "Z"), (0, .fieldref 8 21), (0, .nameAndType 22 19), (0, u "afterReturn"), (0, u "(Z)V"), (2, u "pass"), (0, u "(II)V"), (1, u "()I")] 2

def k2c0 : Code := { maxStack := 2, maxLocals := 2, code := prog_89_method_1_code, exceptionTable := #[], attributes := #[] }
def k2m0 : Method := { name := "<init>", desc := "(Z)V", sig := { parameters := [.boolean], returnType := none }, accessFlags := 0, code := some k2c0 }
def k2c1 : Code := { maxStack := 3, maxLocals := 4, code := prog_89_method_2_code, exceptionTable := #[], attributes := #[] }
def k2m1 : Method := { name := "pass", desc := "(II)V", sig := { parameters := [.int, .int], returnType := none }, accessFlags := 0, code := some k2c1 }
def k2c2 : Code := { maxStack := 1, maxLocals := 1, code := prog_89_method_3_code, exceptionTable := #[], attributes := #[] }
def k2m2 : Method := { name := "line", desc := "()I", sig := { parameters := [], returnType := some .int }, accessFlags := 0, code := some k2c2 }
def k2c3 : Code := { maxStack := 1, maxLocals := 1, code := prog_89_method_4_code, exceptionTable := #[], attributes := #[] }
def k2m3 : Method := { name := "column", desc := "()I", sig := { parameters := [], returnType := some .int }, accessFlags := 0, code := some k2c3 }
/-- com/example/locattr/locattr/PlaceCounter -/
def k2 : Class := { plain "com/example/locattr/locattr/PlaceCounter" (some 0) with
  accessFlags := 48
  interfaces := #[]
  cf := some (fileOf pool2 8 #[] #[{ accessFlags := 0, nameIndex := 5, descriptorIndex := 23, attributes := #[] }, { accessFlags := 0, nameIndex := 26, descriptorIndex := 27, attributes := #[] }, { accessFlags := 0, nameIndex := 11, descriptorIndex := 29, attributes := #[] }, { accessFlags := 0, nameIndex := 15, descriptorIndex := 29, attributes := #[] }] 48 2 #[] #[{ accessFlags := 18, nameIndex := 18, descriptorIndex := 19, attributes := #[] }, { accessFlags := 2, nameIndex := 11, descriptorIndex := 12, attributes := #[] }, { accessFlags := 2, nameIndex := 15, descriptorIndex := 12, attributes := #[] }, { accessFlags := 2, nameIndex := 22, descriptorIndex := 19, attributes := #[] }])
  fields := #[{ name := "xml11", type := .boolean, accessFlags := 18, slot := 0, constantValue := 0 }, { name := "line", type := .int, accessFlags := 2, slot := 1, constantValue := 0 }, { name := "column", type := .int, accessFlags := 2, slot := 2, constantValue := 0 }, { name := "afterReturn", type := .boolean, accessFlags := 2, slot := 3, constantValue := 0 }]
  methods := #[k2m0, k2m1, k2m2, k2m3]
  instanceTypes := #[.boolean, .int, .int, .boolean]
  staticTypes := #[]
  resolved := Array.replicate 32 none
  statics := none }

def pool3 : Array CpInfo := pool [(1, u "java/lang/Cloneable"), (0, .class_ 1), (0, u "java/lang/Object"), (0, .class_ 3)] 3

/-- java/lang/Cloneable -/
def k3 : Class := { plain "java/lang/Cloneable" (some 0) with
  accessFlags := 1537
  interfaces := #[]
  cf := some (fileOf pool3 2 #[] #[] 1537 4 #[] #[])
  fields := #[]
  methods := #[]
  instanceTypes := #[]
  staticTypes := #[]
  resolved := Array.replicate 8 none
  statics := none }

def pool4 : Array CpInfo := pool [(1, u "java/io/Serializable"), (0, .class_ 1), (0, u "java/lang/Object"), (0, .class_ 3)] 3

/-- java/io/Serializable -/
def k4 : Class := { plain "java/io/Serializable" (some 0) with
  accessFlags := 1537
  interfaces := #[]
  cf := some (fileOf pool4 2 #[] #[] 1537 4 #[] #[])
  fields := #[]
  methods := #[]
  instanceTypes := #[]
  staticTypes := #[]
  resolved := Array.replicate 8 none
  statics := none }

/-- the primitive byte -/
def k5 : Class := { plain "byte" none with kind := .primitive 'B', accessFlags := 0x411 }
/-- [B -/
def k6 : Class := { plain "[B" (some 0) with kind := .array 5 .byte, interfaces := #[3, 4], accessFlags := 1041 }

/-- the primitive int -/
def k7 : Class := { plain "int" none with kind := .primitive 'I', accessFlags := 0x411 }
/-- [I -/
def k8 : Class := { plain "[I" (some 0) with kind := .array 7 .int, interfaces := #[3, 4], accessFlags := 1041 }

def heap : Heap := #[]
def classes : Array Class := #[k0, k1, k2, k3, k4, k5, k6, k7, k8]
def interned : List (Array UInt16 × Addr) := []
def slotsUsed : Nat := 0
def theMethod : MethodId := ⟨1, 3⟩
def args0 : Array Value := #[.int 1, .int 5, .int 3, .int 2, .int 1, .int 4]
def aboutOver (below : List Frame) : State where
  vm := { classes := classes, interned := interned.toArray }
  heap := heap
  slotsUsed := slotsUsed
  threads := #[{ frames := .invoking theMethod args0 :: below }]
def below0 : List Frame := [.native { method := ⟨0, 0⟩, args := #[] }]
def about1 : State := aboutOver below0
def p0 : Program := .bare "" "" ""
def e0 : Env := launch0.env 0 0 0
theorem w_frames : about1.frames = Frame.invoking theMethod args0 :: below0 := rfl
set_option maxRecDepth 65536 in
theorem w_args : argsFit about1.vm theMethod args0 = true := by decide +kernel
set_option maxRecDepth 65536 in
theorem w_heap : heapFits about1 = true := by decide +kernel
set_option maxRecDepth 65536 in
theorem w_runnable : about1.curStatus? = some .runnable := by decide +kernel
set_option maxRecDepth 65536 in
theorem w_alone : about1.alone = true := by decide +kernel
set_option maxRecDepth 65536 in
theorem w_named : about1.methodNamed? x = some theMethod := by decide +kernel
set_option maxRecDepth 65536 in
theorem w_hears : about1.hears theMethod below0 = true := by decide +kernel
set_option maxRecDepth 65536 in
theorem w_ripe : about1.ripe theMethod args0 below0 = true := by decide +kernel
theorem w_running : about1.status = .running := rfl
set_option maxRecDepth 65536 in
theorem w_room : about1.hasRoom e0.platform room_1 = true :=
  launch0.hasRoom_least _ room_1 (by decide +kernel) (by decide +kernel) (by decide +kernel) (by decide +kernel) (by decide +kernel) (by decide +kernel)
theorem allAtoms_all (ts : List Jvm.Cond) (a : Array Jvm.Value) (st : Jvm.State) : (allAtoms ts).before a st = ts.all (fun c => c.before a st) := by
  induction ts with
  | nil => rfl
  | cons c t ih =>
    show (Jvm.Cond.and c (allAtoms t)).before a st = _
    rw [Jvm.Cond.before_and, ih, List.all_cons]
def words1 : List Jvm.Cond := Jvm.Cond.code x code maxLocals ret :: tables_1
/-- a 'code' word, met by the world's own term for the bytes: nothing is compared byte by byte -/
theorem code_word {y : MethodName} {bytes : ByteArray} {mx : Nat} {rt : Option FieldType} {a : Array Value} {s : State} {m : MethodId} {meth : Method} {c : Code} (h1 : s.methodNamed? y = some m) (h2 : s.vm.method? m = some meth) (h3 : meth.code = some c) (h4 : c.code = bytes)
    (h5 : (c.maxLocals == mx && c.exceptionTable.isEmpty && decide (c.maxStack ≤ mostOperands) && decide (meth.sig.returnType = rt) && !meth.locks && decide (parseMethodDescriptor y.desc = some meth.sig)) = true) : (Jvm.Cond.code y bytes mx rt).before a s = true := by
  simp only [Bool.and_eq_true, beq_iff_eq, Bool.not_eq_true', decide_eq_true_eq] at h5
  obtain ⟨⟨⟨⟨⟨g1, g2⟩, g3⟩, g4⟩, g5⟩, g6⟩ := h5
  simp [Cond.before, Cond.holds, Cond.value, h1, h2, h3, h4, g1, g2, g3, g4, g5, g6]
def isCode : Jvm.Cond → Bool
  | .code _ _ _ _ => true
  | _ => false
theorem all_split {L : List Jvm.Cond} {P : Jvm.Cond → Bool} (h1 : L.all (fun c => isCode c || P c) = true) (h2 : ∀ c ∈ L.filter isCode, P c = true) : L.all P = true := by
  refine List.all_eq_true.mpr fun c hc => ?_
  have h := List.all_eq_true.mp h1 c hc
  rcases Bool.eq_false_or_eq_true (isCode c) with hi | hi
  · exact h2 c (List.mem_filter.mpr ⟨hc, hi⟩)
  · simpa [hi] using h
set_option maxRecDepth 65536 in
theorem w_c0 : (Jvm.Cond.code x code maxLocals ret).before args0 about1 = true := code_word (m := ⟨1, 3⟩) (meth := k1m3) (c := k1c3) (by decide +kernel) rfl rfl rfl (by decide +kernel)
set_option maxRecDepth 65536 in
theorem w_c1 : (Jvm.Cond.code ({ cls := "com/example/locattr/locattr/PlaceCounterPassPinLaw", name := "pick", desc := "(II)I" } : Jvm.MethodName) method_2_code (3 : Nat) (Option.some Jvm.ClassFile.FieldType.int)).before args0 about1 = true := code_word (m := ⟨1, 1⟩) (meth := k1m1) (c := k1c1) (by decide +kernel) rfl rfl rfl (by decide +kernel)
set_option maxRecDepth 65536 in
theorem w_c2 : (Jvm.Cond.code ({ cls := "com/example/locattr/locattr/PlaceCounter", name := "<init>", desc := "(Z)V" } : Jvm.MethodName) prog_89_method_1_code (2 : Nat) (Option.none : Option Jvm.ClassFile.FieldType)).before args0 about1 = true := code_word (m := ⟨2, 0⟩) (meth := k2m0) (c := k2c0) (by decide +kernel) rfl rfl rfl (by decide +kernel)
set_option maxRecDepth 65536 in
theorem w_c3 : (Jvm.Cond.code ({ cls := "java/lang/Object", name := "<init>", desc := "()V" } : Jvm.MethodName) object_method_1_code (1 : Nat) (Option.none : Option Jvm.ClassFile.FieldType)).before args0 about1 = true := code_word (m := ⟨0, 0⟩) (meth := k0m0) (c := k0c0) (by decide +kernel) rfl rfl rfl (by decide +kernel)
set_option maxRecDepth 65536 in
theorem w_c4 : (Jvm.Cond.code ({ cls := "com/example/locattr/locattr/PlaceCounter", name := "pass", desc := "(II)V" } : Jvm.MethodName) prog_89_method_2_code (4 : Nat) (Option.none : Option Jvm.ClassFile.FieldType)).before args0 about1 = true := code_word (m := ⟨2, 1⟩) (meth := k2m1) (c := k2c1) (by decide +kernel) rfl rfl rfl (by decide +kernel)
set_option maxRecDepth 65536 in
theorem w_c5 : (Jvm.Cond.code ({ cls := "com/example/locattr/locattr/PlaceCounterPassPinLaw", name := "step", desc := "([IZII)V" } : Jvm.MethodName) method_3_code (7 : Nat) (Option.none : Option Jvm.ClassFile.FieldType)).before args0 about1 = true := code_word (m := ⟨1, 2⟩) (meth := k1m2) (c := k1c2) (by decide +kernel) rfl rfl rfl (by decide +kernel)
set_option maxRecDepth 65536 in
theorem w_c6 : (Jvm.Cond.code ({ cls := "com/example/locattr/locattr/PlaceCounter", name := "line", desc := "()I" } : Jvm.MethodName) prog_89_method_3_code (1 : Nat) (Option.some Jvm.ClassFile.FieldType.int)).before args0 about1 = true := code_word (m := ⟨2, 2⟩) (meth := k2m2) (c := k2c2) (by decide +kernel) rfl rfl rfl (by decide +kernel)
set_option maxRecDepth 65536 in
theorem w_c7 : (Jvm.Cond.code ({ cls := "com/example/locattr/locattr/PlaceCounter", name := "column", desc := "()I" } : Jvm.MethodName) prog_89_method_4_code (1 : Nat) (Option.some Jvm.ClassFile.FieldType.int)).before args0 about1 = true := code_word (m := ⟨2, 3⟩) (meth := k2m3) (c := k2c3) (by decide +kernel) rfl rfl rfl (by decide +kernel)
def codes1 : List Jvm.Cond := [Jvm.Cond.code x code maxLocals ret, Jvm.Cond.code ({ cls := "com/example/locattr/locattr/PlaceCounterPassPinLaw", name := "pick", desc := "(II)I" } : Jvm.MethodName) method_2_code (3 : Nat) (Option.some Jvm.ClassFile.FieldType.int), Jvm.Cond.code ({ cls := "com/example/locattr/locattr/PlaceCounter", name := "<init>", desc := "(Z)V" } : Jvm.MethodName) prog_89_method_1_code (2 : Nat) (Option.none : Option Jvm.ClassFile.FieldType), Jvm.Cond.code ({ cls := "java/lang/Object", name := "<init>", desc := "()V" } : Jvm.MethodName) object_method_1_code (1 : Nat) (Option.none : Option Jvm.ClassFile.FieldType), Jvm.Cond.code ({ cls := "com/example/locattr/locattr/PlaceCounter", name := "pass", desc := "(II)V" } : Jvm.MethodName) prog_89_method_2_code (4 : Nat) (Option.none : Option Jvm.ClassFile.FieldType), Jvm.Cond.code ({ cls := "com/example/locattr/locattr/PlaceCounterPassPinLaw", name := "step", desc := "([IZII)V" } : Jvm.MethodName) method_3_code (7 : Nat) (Option.none : Option Jvm.ClassFile.FieldType), Jvm.Cond.code ({ cls := "com/example/locattr/locattr/PlaceCounter", name := "line", desc := "()I" } : Jvm.MethodName) prog_89_method_3_code (1 : Nat) (Option.some Jvm.ClassFile.FieldType.int), Jvm.Cond.code ({ cls := "com/example/locattr/locattr/PlaceCounter", name := "column", desc := "()I" } : Jvm.MethodName) prog_89_method_4_code (1 : Nat) (Option.some Jvm.ClassFile.FieldType.int)]
set_option maxRecDepth 65536 in
theorem codes_eq : words1.filter isCode = codes1 := rfl
theorem w_codes : ∀ c ∈ words1.filter isCode, c.before args0 about1 = true := by
  rw [codes_eq]
  intro c hc
  simp only [codes1, List.mem_cons, List.not_mem_nil, or_false] at hc
  rcases hc with rfl | rfl | rfl | rfl | rfl | rfl | rfl | rfl
  · exact w_c0
  · exact w_c1
  · exact w_c2
  · exact w_c3
  · exact w_c4
  · exact w_c5
  · exact w_c6
  · exact w_c7
set_option maxRecDepth 65536 in
theorem w_t1 : (words1.take 24).all (fun c => isCode c || c.before args0 about1) = true := by decide +kernel
set_option maxRecDepth 65536 in
theorem w_t2 : (words1.drop 24).all (fun c => isCode c || c.before args0 about1) = true := by decide +kernel
theorem w_tables : (allAtoms (Jvm.Cond.code x code maxLocals ret :: tables_1)).before args0 about1 = true := by
  rw [allAtoms_all]
  show words1.all (fun c => c.before args0 about1) = true
  refine all_split ?_ w_codes
  rw [← List.take_append_drop 24 words1, List.all_append, w_t1, w_t2]
  rfl
set_option maxRecDepth 65536 in
theorem w_case : (Jvm.Cond.and given_1 narrow_1).before args0 about1 = true := by decide +kernel
theorem w_applies : (headSpec (Jvm.Cond.code x code maxLocals ret :: tables_1) room_1).applies x e0.platform about1 = true :=
  (Spec.applies_iff w_frames).mpr ⟨w_running, w_runnable, w_alone, w_named, w_hears, w_ripe, w_room, w_tables⟩
theorem atStart : AtStart classFile x code maxLocals ret World_1 tables_1 room_1 Calls_1 rest_1 Pre_1 launch0 p0 e0 about1 theMethod args0 below0 :=
  ⟨lists_1, trivial, launch0.admits_env _ _ _, launch0.least_env, fairChoices_fair.cas, fairChoices_fair.clock, w_frames, w_args, w_heap, w_applies, trivial, trivial, w_case⟩
end start1
theorem witness_1 : WitnessClaimed_1 := ⟨start1.p0, start1.e0, start1.about1, start1.theMethod, start1.args0, start1.below0, start1.atStart⟩
end Jvm.Pilot.@@N@@
