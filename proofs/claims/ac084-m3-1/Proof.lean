import JvmDerived
import JvmDerived.Pilot.@@N@@Statement
import JvmDerived.Pilot.@@N@@Code
set_option linter.unusedVariables false
set_option linter.unusedSimpArgs false
namespace Jvm.Pilot.@@N@@
open Jvm Jvm.ClassFile Sem Op Lib Jvm.Free Jvm.Stand Jvm.LawKit Jvm.RoadKit Bundle Jvm.Pilot.@@N@@.Jvm.D
section OwnKit
variable {p : Program} {l : Launch} {e : Env} {R : Room} {s : State} {m : MethodId} {args : Array Value} {below : List Frame} {meth : Method} {c : Code} {T : State} {locs : List Loc} {cells slots : Nat}
/-- from the state u the run comes to an end of the invocation at which G holds -/
def Go (tb : Tables) (e : Env) (below : List Frame) (G : Outcome → State → Prop) (u : State) : Prop := ∃ s₂ o, Steps tb e below u s₂ ∧ s₂.status = .running ∧ Ended s₂ below o ∧ G o s₂
def End (Q : Option Value → Heap → List Loc → Prop) (s : State) (C S : Nat) (o : Outcome) (u : State) : Prop := ∃ v L, o = .returned v ∧ Q v u.heap L ∧ FrameEnd s o u L C S
theorem go {tb : Tables} {G : Outcome → State → Prop} {u u' : State} (st : ∀ t, Steps tb e below u' t → Steps tb e below u t) (k : Go tb e below G u') : Go tb e below G u := by
  obtain ⟨s₂, o, h1, h2⟩ := k
  exact ⟨s₂, o, st _ h1, h2⟩
theorem goT {tb : Tables} {G : Outcome → State → Prop} {u u' : State} (st : Steps tb e below u u') (k : Go tb e below G u') : Go tb e below G u := go (fun _ h => st.trans h) k
theorem own_fin (X : Stand p l e R s m args below meth c T locs cells slots) (hlk : meth.locks = false) {v : Option Value} (hv : meth.sig.returnType = none → v = none) {Q : Option Value → Heap → List Loc → Prop} {C S : Nat} (hq : Q v T.heap locs) (hc : cells ≤ C) (hs : slots ≤ S) {u : State}
    (st : ∀ fs, (∀ (f : JFrame) (acts : List Action), f.method = m → f.locked = none → f.entered = [] → (doReturn e (T.setTop f) acts v).1 = T.setFrames fs) → Steps p.tables e below u (T.setFrames fs)) : Go p.tables e below (End Q s C S) u := by
  obtain ⟨fs, hr, hrun, hended, hW, hsame⟩ := X.leave (v := v) hv hlk
  exact ⟨_, _, st fs hr, hrun, hended, _, _, rfl, hq, ⟨_, rfl⟩, hW, hsame.mono hc hs⟩
theorem own_retI (X : Stand p l e R s m args below meth c T locs cells slots) (hx : p.tables.exec = Jvm.exec) {pc : Nat} {Ls : Array Slot} {z : Int32} {rest : List Value} (hret : meth.sig.returnType = some .int) (hd : decode c.code pc = .ok (.ireturn, 1)) {fs : List Frame}
    (hl : ∀ (f : JFrame) (acts : List Action), f.method = m → f.locked = none → f.entered = [] → (doReturn e (T.setTop f) acts (some (.int z))).1 = T.setFrames fs) : Steps p.tables e below (T.setTop (mkF m pc Ls (.int z :: rest))) (T.setFrames fs) := by
  have hm' : T.vm.method? m = some meth := X.method'
  have hn : narrow .int (.int z) = .int z := rfl
  show Steps p.tables e below (T.setTop { method := m, pc := pc, locals := Ls, stack := _ :: rest, locked := none }) _
  jvm_step X.here [X.here.top, hx, hd, hm', hret, hn]
  first | (intro acts; rw [hl _ acts rfl rfl rfl]) | rw [hl _ _ rfl rfl rfl]
  exact Steps.refl _
theorem own_retA (X : Stand p l e R s m args below meth c T locs cells slots) (hx : p.tables.exec = Jvm.exec) {pc : Nat} {Ls : Array Slot} {z : Value} {t : FieldType} {rest : List Value} (hret : meth.sig.returnType = some t) (ht : t.isReference = true) (hz : z.isRef = true) (hd : decode c.code pc = .ok (.areturn, 1)) {fs : List Frame}
    (hl : ∀ (f : JFrame) (acts : List Action), f.method = m → f.locked = none → f.entered = [] → (doReturn e (T.setTop f) acts (some z)).1 = T.setFrames fs) : Steps p.tables e below (T.setTop (mkF m pc Ls (z :: rest))) (T.setFrames fs) := by
  have hm' : T.vm.method? m = some meth := X.method'
  show Steps p.tables e below (T.setTop { method := m, pc := pc, locals := Ls, stack := _ :: rest, locked := none }) _
  jvm_step X.here [X.here.top, hx, hd, hm', hret, ht, hz]
  first | (intro acts; rw [hl _ acts rfl rfl rfl]) | rw [hl _ _ rfl rfl rfl]
  exact Steps.refl _
theorem gI (X : Stand p l e R s m args below meth c T locs cells slots) (hx : p.tables.exec = Jvm.exec) (hlk : meth.locks = false) {pc : Nat} {Ls : Array Slot} {z : Int32} {rest : List Value} (hret : meth.sig.returnType = some .int) (hd : decode c.code pc = .ok (.ireturn, 1)) {Q : Option Value → Heap → List Loc → Prop} {C S : Nat} (hq : Q (some (.int z)) T.heap locs) (hc : cells ≤ C) (hs : slots ≤ S) :
    Go p.tables e below (End Q s C S) (T.setTop (mkF m pc Ls (.int z :: rest))) := own_fin X hlk (fun h => by rw [hret] at h; cases h) hq hc hs fun fs hr => own_retI X hx hret hd hr
theorem gN (X : Stand p l e R s m args below meth c T locs cells slots) (hx : p.tables.exec = Jvm.exec) (hlk : meth.locks = false) {pc : Nat} {Ls : Array Slot} {z : Int32} {t : FieldType} {rest : List Value} (hret : meth.sig.returnType = some t) (ht : t = .boolean ∨ t = .byte ∨ t = .char ∨ t = .short) (hn : nar t z = z) (hd : decode c.code pc = .ok (.ireturn, 1)) {Q : Option Value → Heap → List Loc → Prop} {C S : Nat} (hq : Q (some (.int z)) T.heap locs) (hc : cells ≤ C) (hs : slots ≤ S) :
    Go p.tables e below (End Q s C S) (T.setTop (mkF m pc Ls (.int z :: rest))) := own_fin X hlk (fun h => by rw [hret] at h; cases h) hq hc hs fun fs hr => retN X hx hret ht hd (by rw [hn]; exact hr)
theorem gJ (X : Stand p l e R s m args below meth c T locs cells slots) (hx : p.tables.exec = Jvm.exec) (hlk : meth.locks = false) {pc : Nat} {Ls : Array Slot} {z : Int64} (hret : meth.sig.returnType = some .long) (hd : decode c.code pc = .ok (.lreturn, 1)) {Q : Option Value → Heap → List Loc → Prop} {C S : Nat} (hq : Q (some (.long z)) T.heap locs) (hc : cells ≤ C) (hs : slots ≤ S) :
    Go p.tables e below (End Q s C S) (T.setTop (mkF m pc Ls [.long z])) := own_fin X hlk (fun h => by rw [hret] at h; cases h) hq hc hs fun fs hr => X.lreturnOut hx hret hd hr
theorem g0 (X : Stand p l e R s m args below meth c T locs cells slots) (hx : p.tables.exec = Jvm.exec) (hlk : meth.locks = false) {pc : Nat} {Ls : Array Slot} (hret : meth.sig.returnType = none) (hd : decode c.code pc = .ok (.return_, 1)) {Q : Option Value → Heap → List Loc → Prop} {C S : Nat} (hq : Q none T.heap locs) (hc : cells ≤ C) (hs : slots ≤ S) :
    Go p.tables e below (End Q s C S) (T.setTop (mkF m pc Ls [])) := own_fin X hlk (fun _ => rfl) hq hc hs fun fs hr => X.returnOut hx hret hd hr
theorem gA (X : Stand p l e R s m args below meth c T locs cells slots) (hx : p.tables.exec = Jvm.exec) (hlk : meth.locks = false) {pc : Nat} {Ls : Array Slot} {z : Value} {t : FieldType} {rest : List Value} (hret : meth.sig.returnType = some t) (ht : t.isReference = true) (hz : z.isRef = true) (hd : decode c.code pc = .ok (.areturn, 1)) {Q : Option Value → Heap → List Loc → Prop} {C S : Nat} (hq : Q (some z) T.heap locs) (hc : cells ≤ C) (hs : slots ≤ S) :
    Go p.tables e below (End Q s C S) (T.setTop (mkF m pc Ls (z :: rest))) := own_fin X hlk (fun h => by rw [hret] at h; cases h) hq hc hs fun fs hr => own_retA X hx hret ht hz hd hr
end OwnKit
/-- a body's contract out of its walk -/
theorem body {l : Launch} {y : MethodName} {bytes : ByteArray} {maxL : Nat} {ret : Option FieldType} {ws : List Jvm.Cond} {rm : Room} {as' : Array Value} {Z : State} {h0 : Heap} {Q : Option Value → Heap → List Loc → Prop} (pn : plainFor y = true)
    (k : ∀ (p : Program) (e : Env) (s : State) (m : MethodId) (below : List Frame) (meth : Method) (c : Code) (s₁ : State), p.tables.exec = Jvm.exec → c.code = bytes → c.maxLocals = maxL → s.vm.findClass y.cls = some m.cls → meth.name = y.name → meth.sig.returnType = ret → meth.locks = false → Z.Warmed39 s.vm → s₁.heap = h0 →
      Stand p l e rm s m as' below meth c s₁ [] 0 0 → Go p.tables e below (End Q s rm.cells rm.slots) (s₁.setTop (entryFrame m as' maxL))) :
    MetFree l y (head1 (Jvm.Cond.code y bytes maxL ret :: ws) rm) (fun a U => a = as' ∧ Z.Warmed39 U.vm ∧ U.heap = h0) (fun _ _ _ _ _ => True) (fun _ U o U' => ∃ v L, o = .returned v ∧ Q v U'.heap L ∧ FrameEnd U o U' L rm.cells rm.slots) := by
  refine MetFree.of_bodySF pn hisR ?_
  intro p e s m args below meth c s₁ Bd hml hP _
  obtain ⟨rfl, hZ, hh⟩ := hP
  obtain ⟨s₂, o, h1, h2, h3, h4⟩ := k p e s m below meth c s₁ Bd.exec Bd.bytes hml (findClass_of_methodNamed Bd.named) (name_of_methodNamed Bd.named Bd.method).1 Bd.returns Bd.notSynchronized hZ (by rw [← hh, Bd.state]; rfl) (Stand.of_body Bd)
  exact ⟨s₂, o, h1, h2, h3, h4⟩
/-- a boolean as an int -/
def B (P : Prop) [Decidable P] : Int32 := if P then 1 else 0
theorem Bt {P : Prop} [Decidable P] (h : P) : B P = 1 := if_pos h
theorem Bf {P : Prop} [Decidable P] (h : ¬ P) : B P = 0 := if_neg h
theorem B1 {P : Prop} [Decidable P] (h : P) : (1 : Int32) = B P := (if_pos h).symm
theorem B0 {P : Prop} [Decidable P] (h : ¬ P) : (0 : Int32) = B P := (if_neg h).symm
theorem B_iff {P Q : Prop} [Decidable P] [Decidable Q] (h : P ↔ Q) : B P = B Q := by simp only [B, h]
theorem B_nar {P : Prop} [Decidable P] : nar .boolean (B P) = B P := by by_cases h : P <;> simp only [B, h, if_true, if_false] <;> rfl
theorem bT {P : Prop} [Decidable P] (h : P) : ifCond.holds .ne (B P) = true ∧ ifCond.holds .eq (B P) = false := by rw [Bt h]; exact ⟨rfl, rfl⟩
theorem bF {P : Prop} [Decidable P] (h : ¬ P) : ifCond.holds .ne (B P) = false ∧ ifCond.holds .eq (B P) = true := by rw [Bf h]; exact ⟨rfl, rfl⟩
theorem lT {x y : Int64} (h : x < y) : ifCond.holds .lt (lcmpW x y) = true ∧ ifCond.holds .ge (lcmpW x y) = false ∧ ifCond.holds .gt (lcmpW y x) = true ∧ ifCond.holds .le (lcmpW y x) = false := by
  have h1 := tlt ((lw_lt x y).mpr h)
  have h2 := tlt ((lw_gt y x).mpr h)
  simp only [if0]; exact ⟨h1.1, h1.2.1, h2.2.2.1, h2.2.2.2⟩
theorem lF {x y : Int64} (h : ¬ x < y) : ifCond.holds .lt (lcmpW x y) = false ∧ ifCond.holds .ge (lcmpW x y) = true ∧ ifCond.holds .gt (lcmpW y x) = false ∧ ifCond.holds .le (lcmpW y x) = true := by
  have h1 := flt (fun q => h ((lw_lt x y).mp q))
  have h2 := flt (fun q => h ((lw_gt y x).mp q))
  simp only [if0]; exact ⟨h1.1, h1.2.1, h2.2.2.1, h2.2.2.2⟩
theorem lTe {x y : Int64} (h : x = y) : ifCond.holds .eq (lcmpW x y) = true ∧ ifCond.holds .ne (lcmpW x y) = false := by
  simp only [if0]; exact teq ((lw_eq x y).mpr h)
theorem lFe {x y : Int64} (h : ¬ x = y) : ifCond.holds .eq (lcmpW x y) = false ∧ ifCond.holds .ne (lcmpW x y) = true := by
  simp only [if0]; exact feq (fun q => h ((lw_eq x y).mp q))
theorem bTv {P : Prop} [Decidable P] {v : Int32} (hv : v = B P) (h : P) : ifCond.holds .ne v = true ∧ ifCond.holds .eq v = false := hv ▸ bT h
theorem bFv {P : Prop} [Decidable P] {v : Int32} (hv : v = B P) (h : ¬ P) : ifCond.holds .ne v = false ∧ ifCond.holds .eq v = true := hv ▸ bF h
theorem B_narv {P : Prop} [Decidable P] {v : Int32} (hv : v = B P) : nar .boolean v = v := hv ▸ B_nar
theorem own_fitb {v : Int32} (h : nar .boolean v = v) : fits .boolean (.int v) = true := h ▸ fits_nar_bool v
theorem ww {a0 : Array Value} {Z : State} (hw : ∀ d ∈ tables_1, d.before a0 Z = true) (i : Nat) {d : Jvm.Cond} (h : tables_1[i]? = some d) : d.before a0 Z = true := hw d (List.mem_of_getElem? h)
theorem own_Fto {Z : State} {h : Heap} {a : Addr} {C n d : String} {v w : Value} (F : Fld Z h a C n d v) (q : v = w) : Fld Z h a C n d w := q ▸ F
/-! arrays of ints (of any int-like kind) by a function of the place -/
def upd {α : Type} (f : Nat → α) (i : Nat) (v : α) : Nat → α := fun k => if k = i then v else f k
def own_l (l : List Int32) : Nat → Int32 := fun k => l.getD k 0
theorem own_upd_l (l : List Int32) (i : Nat) (x : Int32) (hi : i < l.length) : upd (own_l l) i x = own_l (l.set i x) := by
  funext k
  simp only [upd, own_l, List.getD_eq_getElem?_getD, List.getElem?_set]
  by_cases h : i = k
  · subst h; simp [hi]
  · simp [h, Ne.symm h]
def PI (Z : State) (h : Heap) (a : Addr) (ty : FieldType) (n : Nat) (g : Nat → Int32) : Prop := ∃ c : Cell, Arr Z h a c ty ∧ c.slots.size = n ∧ n < 2 ^ 31 ∧ ∀ i, i < n → c.slots[i]? = some (.int (g i))
section OwnArr
variable {Z : State} {h h' : Heap} {a b : Addr} {ty : FieldType} {n sl : Nat} {g : Nat → Int32} {v : Value} {ws : List Addr}
theorem PI.lt (F : PI Z h a ty n g) : a < h.size := by obtain ⟨c, A, -⟩ := F; exact A.lt
theorem PI.ext (F : PI Z h a ty n g) (E : Ext h h') : PI Z h' a ty n g := by obtain ⟨c, A, r⟩ := F; exact ⟨c, A.ext E, r⟩
theorem PI.other (F : PI Z h b ty n g) (W : Wr h h' a sl v) (q : b ≠ a) : PI Z h' b ty n g := by obtain ⟨c, A, r⟩ := F; exact ⟨c, A.other W q, r⟩
theorem PI.keep (F : PI Z h a ty n g) (K : Keep h h' ws) (q : a ∉ ws) : PI Z h' a ty n g := by obtain ⟨c, A, r⟩ := F; exact ⟨c, ⟨K.2.1 a c A.1 q, A.2⟩, r⟩
theorem PI.congr {g' : Nat → Int32} (F : PI Z h a ty n g) (q : ∀ i, i < n → g i = g' i) : PI Z h a ty n g' := by
  obtain ⟨c, A, r1, r2, r3⟩ := F
  exact ⟨c, A, r1, r2, fun i hi => by rw [← q i hi]; exact r3 i hi⟩
theorem PI.bound (F : PI Z h a ty n g) : n < 2 ^ 31 := by obtain ⟨c, -, -, q, -⟩ := F; exact q
theorem PI.new {k : ClassId} {z : Int32} (A : Arr Z h a (newA k ty z) ty) (q : ¬ z < 0) (hd : defaultValue ty = .int 0) : PI Z h a ty z.toNatClampNeg (fun _ => 0) :=
  ⟨_, A, sz_new _ _ _, (back32 q).2, fun i hi => by simp [newA, hd, hi]⟩
theorem PI.newL {k : ClassId} {z : Int32} {m : Nat} (A : Arr Z h a (newA k ty z) ty) (q : ¬ z < 0) (hd : defaultValue ty = .int 0) (hz : z.toNatClampNeg = m) : PI Z h a ty m (own_l (List.replicate m 0)) := by
  subst hz
  refine (PI.new A q hd).congr fun i hi => ?_
  simp [own_l, hi]
theorem PI.set {x j : Int32} (F : PI Z h a ty n g) (hn : j.toNatClampNeg < n) (W : Wr h h' a j.toNatClampNeg (.int x)) : PI Z h' a ty n (upd g j.toNatClampNeg x) := by
  obtain ⟨c, A, r1, r2, r3⟩ := F
  refine ⟨_, A.same W, by rw [sz_set]; exact r1, r2, fun i hi => ?_⟩
  by_cases q : i = j.toNatClampNeg
  · subst q; simp [upd, Cell.setSlot, r1, hn]
  · simp only [upd, if_neg q]
    rw [← r3 i hi]
    simp [Cell.setSlot, Array.getElem?_setIfInBounds, Ne.symm q]
theorem PI.setL {l l' : List Int32} {x j : Int32} {i : Nat} (F : PI Z h a ty n (own_l l)) (hn : j.toNatClampNeg < n) (W : Wr h h' a j.toNatClampNeg (.int x)) (hj : j.toNatClampNeg = i) (hi : i < l.length) (hl : l.set i x = l') : PI Z h' a ty n (own_l l') := by
  subst hl hj
  rw [← own_upd_l l _ x hi]
  exact F.set hn W
theorem own_inb {c : Cell} {j : Int32} (hs : c.slots.size = n) (hj : ¬ j < 0) (hn : j.toNatClampNeg < n) : ¬ (j < 0 ∨ c.slots.size ≤ j.toNatClampNeg) := fun q => q.elim hj fun r => by omega
end OwnArr
section OwnArr2
variable {p : Program} {l : Launch} {e : Env} {R : Room} {s : State} {m : MethodId} {args : Array Value} {below : List Frame} {meth : Method} {c : Code} {T : State} {locs : List Loc} {cells slots : Nat} {Z : State} {h : Heap} {a : Addr} {n : Nat} {g : Nat → Int32}
theorem own_iaload (X : Stand p l e R s m args below meth c T locs cells slots) (hx : p.tables.exec = Jvm.exec) (hZ : Z.Warmed39 s.vm) (eT : T.heap = h) (F : PI Z h a .int n g) {j v : Int32} (hj : ¬ j < 0) (hn : j.toNatClampNeg < n) (hv : g j.toNatClampNeg = v) {f : JFrame} (hg : f.method = m) {rest : List Value} (hs : f.stack = .int j :: .ref a :: rest) (hd : decode c.code f.pc = .ok (.iaload, 1)) (t : State)
    (k : Steps p.tables e below (T.setTop { f with pc := f.pc + 1, stack := .int v :: rest }) t) : Steps p.tables e below (T.setTop f) t := by
  obtain ⟨cl, A, r1, r2, r3⟩ := F
  exact X.iaload hx (j := j) (v := .int v) (by rw [eT]; exact A.1) (State.isArrayOf_alike hZ.alike A.2.1) A.2.2 (own_inb r1 hj hn) (by rw [r3 _ hn, hv]) hg hs hd t k
theorem own_baloadZ (X : Stand p l e R s m args below meth c T locs cells slots) (hx : p.tables.exec = Jvm.exec) (hZ : Z.Warmed39 s.vm) (eT : T.heap = h) (F : PI Z h a .boolean n g) {j v : Int32} (hj : ¬ j < 0) (hn : j.toNatClampNeg < n) (hv : g j.toNatClampNeg = v) {f : JFrame} (hg : f.method = m) {rest : List Value} (hs : f.stack = .int j :: .ref a :: rest) (hd : decode c.code f.pc = .ok (.baload, 1)) (t : State)
    (k : Steps p.tables e below (T.setTop { f with pc := f.pc + 1, stack := .int v :: rest }) t) : Steps p.tables e below (T.setTop f) t := by
  obtain ⟨cl, A, r1, r2, r3⟩ := F
  exact X.baloadBooleans hx (j := j) (v := .int v) (by rw [eT]; exact A.1) (State.isArrayOf_alike hZ.alike A.2.1) A.2.2 (own_inb r1 hj hn) (by rw [r3 _ hn, hv]) hg hs hd t k
theorem own_alen {ty : FieldType} (X : Stand p l e R s m args below meth c T locs cells slots) (hx : p.tables.exec = Jvm.exec) (hZ : Z.Warmed39 s.vm) (eT : T.heap = h) (F : PI Z h a ty n g) {z : Int32} (hz : n.toInt32 = z) {f : JFrame} (hg : f.method = m) {rest : List Value} (hs : f.stack = .ref a :: rest) (hd : decode c.code f.pc = .ok (.arraylength, 1)) (t : State)
    (k : Steps p.tables e below (T.setTop { f with pc := f.pc + 1, stack := .int z :: rest }) t) : Steps p.tables e below (T.setTop f) t := by
  obtain ⟨cl, A, r1, r2, r3⟩ := F
  exact X.arraylength hx (by rw [eT]; exact A.1) (State.isArrayOf_alike hZ.alike A.2.1) hg hs hd t (by rw [r1, hz]; exact k)
theorem own_iastore (X : Stand p l e R s m args below meth c T locs cells slots) (hx : p.tables.exec = Jvm.exec) (hZ : Z.Warmed39 s.vm) (eT : T.heap = h) (F : PI Z h a .int n g) {j x : Int32} (hj : ¬ j < 0) (hn : j.toNatClampNeg < n) {f : JFrame} (hg : f.method = m) {rest : List Value} (hs : f.stack = .int x :: .int j :: .ref a :: rest) (hd : decode c.code f.pc = .ok (.iastore, 1)) :
    ∃ T' h', Stand p l e R s m args below meth c T' (locs ++ [⟨a, j.toNatClampNeg⟩]) cells slots ∧ T'.heap = h' ∧ Wr h h' a j.toNatClampNeg (.int x) ∧ ∀ target, Steps p.tables e below (T'.setTop { f with pc := f.pc + 1, stack := rest }) target → Steps p.tables e below (T.setTop f) target := by
  obtain ⟨cl, A, r1, r2, r3⟩ := F
  exact stI X hx hZ eT A (own_inb r1 hj hn) hg hs hd
theorem own_bastoreZ (X : Stand p l e R s m args below meth c T locs cells slots) (hx : p.tables.exec = Jvm.exec) (hZ : Z.Warmed39 s.vm) (eT : T.heap = h) (F : PI Z h a .boolean n g) {j x : Int32} (hnx : nar .boolean x = x) (hj : ¬ j < 0) (hn : j.toNatClampNeg < n) {f : JFrame} (hg : f.method = m) {rest : List Value} (hs : f.stack = .int x :: .int j :: .ref a :: rest) (hd : decode c.code f.pc = .ok (.bastore, 1)) :
    ∃ T' h', Stand p l e R s m args below meth c T' (locs ++ [⟨a, j.toNatClampNeg⟩]) cells slots ∧ T'.heap = h' ∧ Wr h h' a j.toNatClampNeg (.int x) ∧ ∀ target, Steps p.tables e below (T'.setTop { f with pc := f.pc + 1, stack := rest }) target → Steps p.tables e below (T.setTop f) target := by
  obtain ⟨cl, A, r1, r2, r3⟩ := F
  obtain ⟨T', h', q1, q2, q3, q4⟩ := stZ X hx hZ eT A (x := x) (own_inb r1 hj hn) hg hs hd
  rw [hnx] at q3
  exact ⟨T', h', q1, q2, q3, q4⟩
end OwnArr2
theorem own_Lto {Z : State} {h : Heap} {a : Addr} {ty : FieldType} {n : Nat} {l l' : List Int32} (F : PI Z h a ty n (own_l l)) (q : l = l') : PI Z h a ty n (own_l l') := q ▸ F
theorem own_Gto {Z : State} {h : Heap} {a : Addr} {ty : FieldType} {n : Nat} {g g' : Nat → Int32} (F : PI Z h a ty n g) (q : g = g') : PI Z h a ty n g' := q ▸ F
/-! arraycopy of ints, dup_x2 -/
theorem own_n32 {n : Nat} (h : n < 2 ^ 31) : ¬ n.toInt32 < 0 ∧ n.toInt32.toNatClampNeg = n := by
  have h1 : n.toInt32.toInt = n := by show (Int32.ofNat n).toInt = n; exact Int32.toInt_ofNat_of_lt (by omega)
  have h2 : ¬ n.toInt32 < 0 := by rw [Int32.lt_iff_toInt_lt, h1]; have : (0 : Int32).toInt = 0 := rfl; omega
  have := nat_of h2
  exact ⟨h2, by omega⟩
theorem PI.arv {Z : State} {h : Heap} {a : Addr} {n : Nat} {g : Nat → Int32} (F : PI Z h a .int n g) : ∃ k, Arv Z h a k .int n.toInt32 ((List.range n).map fun i => Value.int (g i)) (.int 0) := by
  obtain ⟨c, A, r1, r2, r3⟩ := F
  have q := own_n32 r2
  refine ⟨_, c, A, rfl, by rw [q.2]; exact r1, q.1, fun i hi => ?_, fun i hi => ?_⟩
  · rw [r3 i (by omega)]; simp [show i < n by omega]
  · simp [show i < n by omega, fits]
theorem own_ofArv {Z : State} {h : Heap} {a : Addr} {k : ClassId} {z : Int32} {vs : List Value} {d : Value} {n : Nat} {g : Nat → Int32} (A : Arv Z h a k .int z vs d) (hn : z.toNatClampNeg = n) (q : ∀ i, i < n → vs.getD i d = .int (g i)) : PI Z h a .int n g := by
  obtain ⟨c, A, r1, r2, r3, H, G⟩ := A
  subst hn
  exact ⟨c, A, r2, (back32 r3).2, fun i hi => by rw [H i (by omega), q i hi]⟩
section OwnCp
variable {p : Program} {l : Launch} {e : Env} {R : Room} {s : State} {m : MethodId} {args : Array Value} {below : List Frame} {meth : Method} {c : Code} {T : State} {locs : List Loc} {cells slots : Nat} {Z : State} {h : Heap} {a b : Addr} {n n' : Nat} {g g' : Nat → Int32}
theorem own_cp (X : Stand p l e R s m args below meth c T locs cells slots) (hx : p.tables.exec = Jvm.exec) (hZ : Z.Warmed39 s.vm) {a0 : Array Value} {own : String} {index : Nat} (hown : s.vm.findClass own = some m.cls)
    (w1 : (Cond.methodLink own index Jvm.Stand.acN).before a0 Z = true) (w2 : (Cond.native Jvm.Stand.acN).before a0 Z = true) (w3 : (Cond.static Jvm.Stand.acN).before a0 Z = true) (w4 : (Cond.initialized "java/lang/System").before a0 Z = true) (eT : T.heap = h)
    (A : PI Z h a .int n g) (B : PI Z h b .int n' g') {nn : Int32} (h3 : ¬ nn < 0) (h4 : nn.toNatClampNeg ≤ n) (h5 : nn.toNatClampNeg = n') {n0 : Nat} (N : Fr n0 locs) (ge : n0 ≤ b)
    {f : JFrame} (hg : f.method = m) (hsize : f.locals.size = c.maxLocals) {rest : List Value} (hs : f.stack = .int nn :: .int 0 :: .ref b :: .int 0 :: .ref a :: rest) (hd : decode c.code f.pc = .ok (.invokestatic index, 3))
    (hf : 1 ≤ R.frames) {W : Nat} (hW : 2 * f.monitorRoom + (rest.map fun v => v.category).sum ≤ W) (hlo : W + (nativeFrameWords "java/lang/System" "arraycopy" 5 + 11) ≤ R.locals) :
    ∃ T' h' L, Stand p l e R s m args below meth c T' L cells slots ∧ T'.heap = h' ∧ Fr n0 L ∧ Keep h h' [b] ∧ PI Z h' b .int n' g ∧
      ∀ target, Steps p.tables e below (T'.setTop { f with pc := f.pc + 3, stack := rest }) target → Steps p.tables e below (T.setTop f) target := by
  have q1 := own_n32 A.bound
  have q2 := own_n32 B.bound
  obtain ⟨k1, A1⟩ := A.arv
  obtain ⟨k2, B1⟩ := B.arv
  have z0 : (0 : Int32).toNatClampNeg = 0 := rfl
  obtain ⟨T', h', L, r1, r2, r3, r4, r5, r6⟩ := cpA X hx hZ hown w1 w2 w3 w4 eT A1 B1 (Or.inl ⟨rfl, rfl⟩) (sp := 0) (dp := 0) (nn := nn) (by decide) (by decide) h3 (by rw [q1.2, z0]; omega) (by rw [q2.2, z0]; omega) rfl (by simp [z0]; omega) N ge hg hsize hs hd hf hW hlo
  refine ⟨T', h', L, r1, r2, r3, r4, own_ofArv r5 q2.2 fun i hi => ?_, r6⟩
  simp only [z0, List.take_zero, List.nil_append, Nat.zero_add]
  have e1 : i < nn.toNatClampNeg := by omega
  simp [List.getElem?_append, e1, show i < n by omega]
end OwnCp
theorem own_dupx2 {tb : Tables} [Ours tb] {e : Env} {below : List Frame} {T target : State} {m : MethodId} {c : Code} {g : JFrame} (h : At T m c below) (hx : tb.exec = Jvm.exec) (hg : g.method = m) {x y : Int32} {z : Addr} {rest : List Value} (hd : decode c.code g.pc = .ok (.dup_x2, 1)) (hs : g.stack = .int x :: .int y :: .ref z :: rest)
    (hr : Steps tb e below (T.setTop { g with pc := g.pc + 1, stack := .int x :: .int y :: .ref z :: .int x :: rest }) target) : Steps tb e below (T.setTop g) target := by
  subst hg
  jvm_step h [h.top, hx, hd, hs, Value.category]
  exact hr
theorem own_nn {j : Int32} (h : 0 ≤ j.toInt) : ¬ j < 0 := by rw [Int32.lt_iff_toInt_lt]; have : (0 : Int32).toInt = 0 := rfl; omega
theorem own_cl {j : Int32} (h : 0 ≤ j.toInt) : (j.toNatClampNeg : Int) = j.toInt := (nat_of (own_nn h)).symm
theorem own_lt {j : Int32} {N : Nat} (h : 0 ≤ j.toInt) (h2 : j.toInt < N) : j.toNatClampNeg < N := by have := own_cl h; omega
theorem own_t32 {N : Nat} (h : N < 2 ^ 31) : N.toInt32.toInt = N := by
  show (Int32.ofNat N).toInt = N
  exact Int32.toInt_ofNat_of_lt (by omega)
theorem own_iv {k r : Nat} {i : Int32} {N : Nat} (hk : k < 2 ^ 31) (hi : 0 ≤ i.toInt ∧ i.toInt + (r + 1 : Nat) = k) : ¬ i < 0 ∧ i.toNatClampNeg < k ∧ i < k.toInt32 ∧ (0 ≤ (i + 1).toInt ∧ (i + 1).toInt + r = k) ∧ i.toNatClampNeg = k - (r + 1) := by
  have h1 := own_cl hi.1
  have h2 := own_t32 hk
  have a1 := c_iadd i 1
  have a2 := rng32 (i + 1)
  have a3 : (1 : Int32).toInt = 1 := rfl
  rw [a3] at a1
  refine ⟨own_nn hi.1, by omega, ?_, by omega, by omega⟩
  rw [Int32.lt_iff_toInt_lt, h2]; omega
theorem own_iz {k : Nat} {i : Int32} (hk : k < 2 ^ 31) (hi : 0 ≤ i.toInt ∧ i.toInt + (0 : Nat) = k) : ¬ i < k.toInt32 := by
  have h2 := own_t32 hk
  rw [Int32.lt_iff_toInt_lt, h2]; omega
/-! arrays of references by a function of the place; the slots' arrays -/
/-- the class C has the Class object m -/
def Mr (Z : State) (C : String) (m : Addr) : Prop := ∃ (c : ClassId) (k : Class), Z.vm.findClass C = some c ∧ Z.vm.classes[c]? = some k ∧ k.mirror = some m
def OKs (Z : State) (h : Heap) (K : String) (v : Value) : Prop := v = .null ∨ ∃ y, v = .ref y ∧ Ins Z h y K true
def PR (Z : State) (h : Heap) (a : Addr) (ty : FieldType) (K : String) (n : Nat) (g : Nat → Value) : Prop :=
  ∃ c : Cell, Arr Z h a c ty ∧ (∃ (k : Class) (comp : ClassId), Z.vm.classes[c.cls]? = some k ∧ k.kind = .array comp ty ∧ Z.vm.findClass K = some comp) ∧ c.slots.size = n ∧ n < 2 ^ 31 ∧ ∀ i, i < n → c.slots[i]? = some (g i)
section OwnRef
variable {Z : State} {h h' : Heap} {a b : Addr} {ty : FieldType} {K C : String} {n sl : Nat} {g : Nat → Value} {v : Value} {ws : List Addr}
theorem own_Inskeep (F : Ins Z h a C true) (K : Keep h h' ws) : Ins Z h' a C true := by
  obtain ⟨cell, cT, h1, h2, h3⟩ := F
  obtain ⟨c', q, r1, r2, -⟩ := K.2.2 a cell h1
  exact ⟨c', cT, q, h2, by rw [r1, r2]; exact h3⟩
theorem OKs.ext (F : OKs Z h K v) (E : Ext h h') : OKs Z h' K v := F.imp id fun ⟨y, q, i⟩ => ⟨y, q, i.ext E⟩
theorem OKs.keep (F : OKs Z h C v) (K : Keep h h' ws) : OKs Z h' C v := F.imp id fun ⟨y, q, i⟩ => ⟨y, q, own_Inskeep i K⟩
theorem OKs.wr {w : Value} (F : OKs Z h C v) (W : Wr h h' a sl w) : OKs Z h' C v := F.keep (Keep.of_wr W)
theorem PR.lt (F : PR Z h a ty K n g) : a < h.size := by obtain ⟨c, A, -⟩ := F; exact A.lt
theorem PR.ext (F : PR Z h a ty K n g) (E : Ext h h') : PR Z h' a ty K n g := by obtain ⟨c, A, r⟩ := F; exact ⟨c, A.ext E, r⟩
theorem PR.other (F : PR Z h b ty K n g) (W : Wr h h' a sl v) (q : b ≠ a) : PR Z h' b ty K n g := by obtain ⟨c, A, r⟩ := F; exact ⟨c, A.other W q, r⟩
theorem PR.keep (F : PR Z h a ty C n g) (K : Keep h h' ws) (q : a ∉ ws) : PR Z h' a ty C n g := by obtain ⟨c, A, r⟩ := F; exact ⟨c, ⟨K.2.1 a c A.1 q, A.2⟩, r⟩
theorem PR.bound (F : PR Z h a ty K n g) : n < 2 ^ 31 := by obtain ⟨c, -, -, -, q, -⟩ := F; exact q
theorem PR.congr {g' : Nat → Value} (F : PR Z h a ty K n g) (q : ∀ i, i < n → g i = g' i) : PR Z h a ty K n g' := by
  obtain ⟨c, A, r0, r1, r2, r3⟩ := F
  exact ⟨c, A, r0, r1, r2, fun i hi => by rw [← q i hi]; exact r3 i hi⟩
theorem PR.set {i : Nat} (F : PR Z h a ty K n g) (hn : i < n) (W : Wr h h' a i v) : PR Z h' a ty K n (upd g i v) := by
  obtain ⟨c, A, r0, r1, r2, r3⟩ := F
  refine ⟨_, A.same W, r0, by rw [sz_set]; exact r1, r2, fun x hx => ?_⟩
  by_cases q : x = i
  · subst q; simp [upd, Cell.setSlot, r1, hn]
  · simp only [upd, if_neg q]
    rw [← r3 x hx]
    simp [Cell.setSlot, Array.getElem?_setIfInBounds, Ne.symm q]
theorem PR.sto (F : PR Z h a ty K n g) (S : OKs Z h K v) : Sto Z h a v := by
  obtain ⟨cl, A, ⟨k, comp, o1, o2, o3⟩, -⟩ := F
  rcases S with rfl | ⟨y, rfl, cv, cT, i1, i2, i3⟩
  · exact Or.inl rfl
  · cases o3.symm.trans i2
    simp only [Bool.and_eq_true, Bool.not_eq_true'] at i3
    obtain ⟨kc, q⟩ := Vm.classAt_of_findClass o3
    obtain ⟨kv, q2⟩ := Vm.classAt_of_assignable i3.2 ⟨kc, q⟩
    exact Or.inr ⟨cl, cv, k, kv, kc, _, _, y, A.1, o1, o2, q, rfl, i1, i3.1, q2, i3.2⟩
theorem PR.new {k : ClassId} {z : Int32} {C : String} (A : Arr Z h a (newA k (.object C) z) (.object C)) (O : Ovr Z k C) (q : ¬ z < 0) : PR Z h a (.object C) C z.toNatClampNeg (fun _ => .null) := by
  obtain ⟨k', comp, o1, o2, o3⟩ := O
  exact ⟨_, A, ⟨k', comp, o1, o2, o3⟩, sz_new _ _ _, (back32 q).2, fun i hi => by simp [newA, defaultValue, hi]⟩
theorem own_inbR {c : Cell} {j : Int32} (hs : c.slots.size = n) (hj : ¬ j < 0) (hn : j.toNatClampNeg < n) : ¬ (j < 0 ∨ c.slots.size ≤ j.toNatClampNeg) := fun q => q.elim hj fun r => by omega
end OwnRef
section OwnRef2
variable {p : Program} {l : Launch} {e : Env} {R : Room} {s : State} {m : MethodId} {args : Array Value} {below : List Frame} {meth : Method} {c : Code} {T : State} {locs : List Loc} {cells slots : Nat} {Z : State} {h : Heap} {a : Addr} {n : Nat} {g : Nat → Value} {ty : FieldType} {K : String}
theorem own_aaload (X : Stand p l e R s m args below meth c T locs cells slots) (hx : p.tables.exec = Jvm.exec) (hZ : Z.Warmed39 s.vm) (eT : T.heap = h) (F : PR Z h a ty K n g) (hty : ty.isReference = true) {j : Int32} {v : Value} (hj : ¬ j < 0) (hn : j.toNatClampNeg < n) (hv : g j.toNatClampNeg = v) {f : JFrame} (hg : f.method = m) {rest : List Value} (hs : f.stack = .int j :: .ref a :: rest) (hd : decode c.code f.pc = .ok (.aaload, 1)) (t : State)
    (k : Steps p.tables e below (T.setTop { f with pc := f.pc + 1, stack := v :: rest }) t) : Steps p.tables e below (T.setTop f) t := by
  obtain ⟨cl, A, -, r1, r2, r3⟩ := F
  exact X.aaload hx (j := j) (v := v) (by rw [eT]; exact A.1) (State.isArrayOf_alike hZ.alike A.2.1) hty A.2.2 (own_inbR r1 hj hn) (by rw [r3 _ hn, hv]) hg hs hd t k
theorem own_alenR (X : Stand p l e R s m args below meth c T locs cells slots) (hx : p.tables.exec = Jvm.exec) (hZ : Z.Warmed39 s.vm) (eT : T.heap = h) (F : PR Z h a ty K n g) {z : Int32} (hz : n.toInt32 = z) {f : JFrame} (hg : f.method = m) {rest : List Value} (hs : f.stack = .ref a :: rest) (hd : decode c.code f.pc = .ok (.arraylength, 1)) (t : State)
    (k : Steps p.tables e below (T.setTop { f with pc := f.pc + 1, stack := .int z :: rest }) t) : Steps p.tables e below (T.setTop f) t := by
  obtain ⟨cl, A, -, r1, r2, r3⟩ := F
  exact X.arraylength hx (by rw [eT]; exact A.1) (State.isArrayOf_alike hZ.alike A.2.1) hg hs hd t (by rw [r1, hz]; exact k)
theorem own_aastore (X : Stand p l e R s m args below meth c T locs cells slots) (hx : p.tables.exec = Jvm.exec) (hZ : Z.Warmed39 s.vm) (eT : T.heap = h) (F : PR Z h a ty K n g) (hty : ty.isReference = true) {j : Int32} {v : Value} (hj : ¬ j < 0) (hn : j.toNatClampNeg < n) (S : OKs Z h K v) {f : JFrame} (hg : f.method = m) {rest : List Value} (hs : f.stack = v :: .int j :: .ref a :: rest) (hd : decode c.code f.pc = .ok (.aastore, 1)) :
    ∃ T' h', Stand p l e R s m args below meth c T' (locs ++ [⟨a, j.toNatClampNeg⟩]) cells slots ∧ T'.heap = h' ∧ Wr h h' a j.toNatClampNeg v ∧ ∀ target, Steps p.tables e below (T'.setTop { f with pc := f.pc + 1, stack := rest }) target → Steps p.tables e below (T.setTop f) target := by
  have q := F.sto S
  obtain ⟨cl, A, -, r1, r2, r3⟩ := F
  exact Jvm.RoadKit.stR X hx hZ eT A (own_inbR r1 hj hn) hty q hg hs hd
/-- the class constant of a class whose mirror stands -/
theorem own_ldcM (X : Stand p l e R s m args below meth c T locs cells slots) (hx : p.tables.exec = Jvm.exec) (hZ : Z.Warmed39 s.vm) {a0 : Array Value} {own C : String} {index : Nat} (hown : s.vm.findClass own = some m.cls) (w : (Cond.classLink own index C).before a0 Z = true) (eT : T.heap = h) {mr : Addr} (M : Mr Z C mr)
    {f : JFrame} (hg : f.method = m) (hd : decode c.code f.pc = .ok (.ldc index, 2)) : ∃ T', Stand p l e R s m args below meth c T' locs cells slots ∧ T'.heap = h ∧ ∀ target, Steps p.tables e below (T'.setTop { f with pc := f.pc + 2, stack := .ref mr :: f.stack }) target → Steps p.tables e below (T.setTop f) target := by
  obtain ⟨cc, kc, m1, m2, m3⟩ := M
  obtain ⟨k', q, ek⟩ := hZ.alike.2.2 _ _ m2
  obtain ⟨vm', X', st⟩ := X.ldcMirror hx hown (mvT hZ w) (a := mr) (by simp only [Term.eval, Option.bind_eq_bind, Option.bind_eq_some_iff, Option.pure_def, Option.some.injEq]; exact ⟨cc, by rw [hZ.alike.findClass]; exact m1, k', q, mr, by rw [ek]; exact m3, rfl⟩) hg hd
  exact ⟨_, X', eT, st⟩
theorem own_gcls (X : Stand p l e R s m args below meth c T locs cells slots) (hx : p.tables.exec = Jvm.exec) (hZ : Z.Warmed39 s.vm) {a0 : Array Value} {own C : String} {index : Nat} (hown : s.vm.findClass own = some m.cls)
    (w1 : (Cond.methodLink own index ⟨"java/lang/Object", "getClass", "()Ljava/lang/Class;"⟩).before a0 Z = true) (w2 : (Cond.declares ⟨"java/lang/Object", "getClass", "()Ljava/lang/Class;"⟩).before a0 Z = true) (w4 : (Cond.selects C ⟨"java/lang/Object", "getClass", "()Ljava/lang/Class;"⟩ ⟨"java/lang/Object", "getClass", "()Ljava/lang/Class;"⟩).before a0 Z = true)
    (w5 : (Cond.instanceMethod ⟨"java/lang/Object", "getClass", "()Ljava/lang/Class;"⟩).before a0 Z = true) (w6 : (Cond.native ⟨"java/lang/Object", "getClass", "()Ljava/lang/Class;"⟩).before a0 Z = true) (eT : T.heap = h) (E : Exa Z h a C) {mr : Addr} (M : Mr Z C mr)
    {f : JFrame} (hg : f.method = m) (hsize : f.locals.size = c.maxLocals) {rest : List Value} (hs : f.stack = .ref a :: rest) (hd : decode c.code f.pc = .ok (.invokevirtual index, 3)) (hf : 1 ≤ R.frames) {W : Nat} (hW : 2 * f.monitorRoom + (rest.map fun v => v.category).sum ≤ W) (hl : W + (nativeFrameWords "java/lang/Object" "getClass" 1 + 11) ≤ R.locals) :
    ∃ T', Stand p l e R s m args below meth c T' locs cells slots ∧ T'.heap = h ∧ ∀ target, Steps p.tables e below (T'.setTop { f with pc := f.pc + 3, stack := .ref mr :: rest }) target → Steps p.tables e below (T.setTop f) target := by
  obtain ⟨cB, kB, i1, i2, i3⟩ := isOf hZ eT E
  obtain ⟨cc, kc, m1, m2, m3⟩ := M
  rw [hZ.alike.findClass] at i1
  cases i1.symm.trans m1
  obtain ⟨k', q, ek⟩ := hZ.alike.2.2 _ _ m2
  obtain ⟨vm', X', st⟩ := X.getClassOf hx hown (mvT hZ w1) (mvT hZ w2) (notFace_of_selects (args := #[]) (mvT hZ w4)) (mvT hZ w4) (mvT hZ w5) (mvT hZ w6) (by rw [hZ.alike.findClass]; exact m1) i3 q (by rw [ek]; exact m3) hg hsize hs hd hf (by omega)
  exact ⟨_, X', eT, st⟩
end OwnRef2
/-! the table of slots -/
def adr (o na pa xa ca : Addr) (af : Nat → Addr) : Nat → Addr
  | 0 => o
  | 1 => na
  | 2 => pa
  | 3 => xa
  | 4 => ca
  | q + 5 => af q
def Wl (o na pa xa ca : Addr) (af : Nat → Addr) (f : Nat) : List Addr := (List.range (6 + 2 * f)).map (adr o na pa xa ca af)
abbrev SlA (Z : State) (h : Heap) (n0 : Nat) (o na pa xa ca : Addr) (af : Nat → Addr) (f nn : Nat) (ln : Nat → Nat) (nd : Nat → Value) (gs : Nat → Nat → Int32) : Prop :=
  (PR Z h na (.object "java/lang/Object") "java/lang/Object" nn nd) ∧
  (Exa Z h na "[Ljava/lang/Object;") ∧
  (∀ i, i < nn → OKs Z h "java/lang/Object" (nd i)) ∧
  (PR Z h pa (.array .int) "[I" f (fun i => .ref (af (1 + 2 * i)))) ∧
  (PR Z h xa (.array .int) "[I" f (fun i => .ref (af (2 + 2 * i)))) ∧
  (PR Z h ca (.array .int) "[I" 1 (fun _ => .ref (af 0))) ∧
  (∀ q, q < 1 + 2 * f → PI Z h (af q) .int (ln q) (gs q)) ∧
  (∀ i j, i < 6 + 2 * f → j < 6 + 2 * f → i ≠ j → adr o na pa xa ca af i ≠ adr o na pa xa ca af j) ∧
  (∀ i, i < 6 + 2 * f → n0 ≤ adr o na pa xa ca af i) ∧
  (0 < f ∧ f ≤ 4) ∧
  (o < h.size)
section OwnSl
variable {Z : State} {h h' : Heap} {n0 : Nat} {o na pa xa ca : Addr} {af : Nat → Addr} {f nn : Nat} {ln : Nat → Nat} {nd : Nat → Value} {gs : Nat → Nat → Int32} {v : Value} {sl : Nat} {ws : List Addr}
theorem SlA.nodes (S : SlA Z h n0 o na pa xa ca af f nn ln nd gs) : PR Z h na (.object "java/lang/Object") "java/lang/Object" nn nd := S.1
theorem SlA.exa (S : SlA Z h n0 o na pa xa ca af f nn ln nd gs) : Exa Z h na "[Ljava/lang/Object;" := S.2.1
theorem SlA.val (S : SlA Z h n0 o na pa xa ca af f nn ln nd gs) : ∀ i, i < nn → OKs Z h "java/lang/Object" (nd i) := S.2.2.1
theorem SlA.prev (S : SlA Z h n0 o na pa xa ca af f nn ln nd gs) : PR Z h pa (.array .int) "[I" f (fun i => .ref (af (1 + 2 * i))) := S.2.2.2.1
theorem SlA.next (S : SlA Z h n0 o na pa xa ca af f nn ln nd gs) : PR Z h xa (.array .int) "[I" f (fun i => .ref (af (2 + 2 * i))) := S.2.2.2.2.1
theorem SlA.cols (S : SlA Z h n0 o na pa xa ca af f nn ln nd gs) : PR Z h ca (.array .int) "[I" 1 (fun _ => .ref (af 0)) := S.2.2.2.2.2.1
theorem SlA.ints (S : SlA Z h n0 o na pa xa ca af f nn ln nd gs) : ∀ q, q < 1 + 2 * f → PI Z h (af q) .int (ln q) (gs q) := S.2.2.2.2.2.2.1
theorem SlA.inj (S : SlA Z h n0 o na pa xa ca af f nn ln nd gs) : ∀ i j, i < 6 + 2 * f → j < 6 + 2 * f → i ≠ j → adr o na pa xa ca af i ≠ adr o na pa xa ca af j := S.2.2.2.2.2.2.2.1
theorem SlA.lo (S : SlA Z h n0 o na pa xa ca af f nn ln nd gs) : ∀ i, i < 6 + 2 * f → n0 ≤ adr o na pa xa ca af i := S.2.2.2.2.2.2.2.2.1
theorem SlA.hf (S : SlA Z h n0 o na pa xa ca af f nn ln nd gs) : 0 < f ∧ f ≤ 4 := S.2.2.2.2.2.2.2.2.2.1
theorem SlA.olt (S : SlA Z h n0 o na pa xa ca af f nn ln nd gs) : o < h.size := S.2.2.2.2.2.2.2.2.2.2
theorem SlA.adlt (S : SlA Z h n0 o na pa xa ca af f nn ln nd gs) : ∀ i, i < 6 + 2 * f → adr o na pa xa ca af i < h.size
  | 0, _ => S.olt
  | 1, _ => S.nodes.lt
  | 2, _ => S.prev.lt
  | 3, _ => S.next.lt
  | 4, _ => S.cols.lt
  | q + 5, hq => (S.ints q (by omega)).lt
theorem SlA.ext (S : SlA Z h n0 o na pa xa ca af f nn ln nd gs) (E : Ext h h') : SlA Z h' n0 o na pa xa ca af f nn ln nd gs :=
  ⟨S.nodes.ext E, S.exa.ext E, fun i hi => (S.val i hi).ext E, S.prev.ext E, S.next.ext E, S.cols.ext E, fun q hq => (S.ints q hq).ext E, S.inj, S.lo, S.hf, Nat.lt_of_lt_of_le S.olt E.1⟩
theorem SlA.keepW (S : SlA Z h n0 o na pa xa ca af f nn ln nd gs) (K : Keep h h' ws) (d : ∀ i, i < 6 + 2 * f → adr o na pa xa ca af i ∉ ws) : SlA Z h' n0 o na pa xa ca af f nn ln nd gs :=
  ⟨S.nodes.keep K (d 1 (by omega)), S.exa.keep K, fun i hi => (S.val i hi).keep K, S.prev.keep K (d 2 (by omega)), S.next.keep K (d 3 (by omega)), S.cols.keep K (d 4 (by omega)), fun q hq => (S.ints q hq).keep K (d (q + 5) (by omega)), S.inj, S.lo, S.hf, Nat.lt_of_lt_of_le S.olt K.1⟩
theorem SlA.keep0 (S : SlA Z h n0 o na pa xa ca af f nn ln nd gs) (K : Keep h h' []) : SlA Z h' n0 o na pa xa ca af f nn ln nd gs := S.keepW K fun _ _ q => nomatch q
theorem SlA.ne (S : SlA Z h n0 o na pa xa ca af f nn ln nd gs) (i j : Nat) (hi : i < 6 + 2 * f) (hj : j < 6 + 2 * f) (hij : i ≠ j) : adr o na pa xa ca af i ≠ adr o na pa xa ca af j := S.inj i j hi hj hij
theorem SlA.wrO (S : SlA Z h n0 o na pa xa ca af f nn ln nd gs) (W : Wr h h' o sl v) : SlA Z h' n0 o na pa xa ca af f nn ln nd gs := by
  have d : ∀ i, i < 6 + 2 * f → i ≠ 0 → adr o na pa xa ca af i ≠ o := fun i hi q => S.inj i 0 hi (by omega) q
  have K := Keep.of_wr W
  exact ⟨S.nodes.other W (d 1 (by omega) (by decide)), S.exa.keep K, fun i hi => (S.val i hi).wr W, S.prev.other W (d 2 (by omega) (by decide)), S.next.other W (d 3 (by omega) (by decide)), S.cols.other W (d 4 (by omega) (by decide)), fun q hq => (S.ints q hq).other W (d (q + 5) (by omega) (by omega)), S.inj, S.lo, S.hf, Nat.lt_of_lt_of_le S.olt K.1⟩
theorem SlA.wrI {q : Nat} {j x : Int32} (S : SlA Z h n0 o na pa xa ca af f nn ln nd gs) (hq : q < 1 + 2 * f) (hj : j.toNatClampNeg < ln q) (W : Wr h h' (af q) j.toNatClampNeg (.int x)) : SlA Z h' n0 o na pa xa ca af f nn ln nd (upd gs q (upd (gs q) j.toNatClampNeg x)) := by
  have d : ∀ i, i < 6 + 2 * f → i ≠ q + 5 → adr o na pa xa ca af i ≠ af q := fun i hi r => S.inj i (q + 5) hi (by omega) r
  have K := Keep.of_wr W
  refine ⟨S.nodes.other W (d 1 (by omega) (by omega)), S.exa.keep K, fun i hi => (S.val i hi).wr W, S.prev.other W (d 2 (by omega) (by omega)), S.next.other W (d 3 (by omega) (by omega)), S.cols.other W (d 4 (by omega) (by omega)), fun r hr => ?_, S.inj, S.lo, S.hf, Nat.lt_of_lt_of_le S.olt K.1⟩
  by_cases e : r = q
  · subst e; simp only [upd, if_true]; exact (S.ints r hr).set hj W
  · simp only [upd, if_neg e]; exact (S.ints r hr).other W (d (r + 5) (by omega) (by omega))
theorem SlA.wrN {j : Nat} (S : SlA Z h n0 o na pa xa ca af f nn ln nd gs) (hj : j < nn) (V : OKs Z h "java/lang/Object" v) (W : Wr h h' na j v) : SlA Z h' n0 o na pa xa ca af f nn ln (upd nd j v) gs := by
  have d : ∀ i, i < 6 + 2 * f → i ≠ 1 → adr o na pa xa ca af i ≠ na := fun i hi r => S.inj i 1 hi (by omega) r
  have K := Keep.of_wr W
  refine ⟨S.nodes.set hj W, S.exa.keep K, fun i hi => ?_, S.prev.other W (d 2 (by omega) (by omega)), S.next.other W (d 3 (by omega) (by omega)), S.cols.other W (d 4 (by omega) (by omega)), fun r hr => (S.ints r hr).other W (d (r + 5) (by omega) (by omega)), S.inj, S.lo, S.hf, Nat.lt_of_lt_of_le S.olt K.1⟩
  by_cases e : i = j
  · simp only [upd, if_pos e]; exact V.wr W
  · simp only [upd, if_neg e]; exact (S.val i hi).wr W
theorem own_adru {q : Nat} {r : Addr} (i : Nat) : adr o na pa xa ca (upd af q r) i = if i = q + 5 then r else adr o na pa xa ca af i := by
  match i with
  | 0 | 1 | 2 | 3 | 4 => simp only [adr]; rw [if_neg (by omega)]
  | i + 5 =>
    simp only [adr, upd]
    by_cases e : i = q
    · rw [if_pos e, if_pos (by omega)]
    · rw [if_neg e, if_neg (by omega)]
/-- a fresh int array in the place of another -/
theorem own_inju {q : Nat} {r : Addr} (inj : ∀ i j, i < 6 + 2 * f → j < 6 + 2 * f → i ≠ j → adr o na pa xa ca af i ≠ adr o na pa xa ca af j) (fr : ∀ i, i < 6 + 2 * f → r ≠ adr o na pa xa ca af i) : ∀ i j, i < 6 + 2 * f → j < 6 + 2 * f → i ≠ j → adr o na pa xa ca (upd af q r) i ≠ adr o na pa xa ca (upd af q r) j := by
  intro i j hi hj hij
  rw [own_adru, own_adru]
  by_cases e : i = q + 5
  · rw [if_pos e, if_neg (by omega)]; exact fr j hj
  · rw [if_neg e]
    by_cases e2 : j = q + 5
    · rw [if_pos e2]; exact (fr i hi).symm
    · rw [if_neg e2]; exact inj i j hi hj hij
theorem own_lou {q : Nat} {r : Addr} (lo : ∀ i, i < 6 + 2 * f → n0 ≤ adr o na pa xa ca af i) (hr : n0 ≤ r) : ∀ i, i < 6 + 2 * f → n0 ≤ adr o na pa xa ca (upd af q r) i := by
  intro i hi
  rw [own_adru]
  by_cases e : i = q + 5
  · rw [if_pos e]; exact hr
  · rw [if_neg e]; exact lo i hi
theorem own_fresh (S : SlA Z h n0 o na pa xa ca af f nn ln nd gs) {r : Addr} (hr : h.size ≤ r) : ∀ i, i < 6 + 2 * f → r ≠ adr o na pa xa ca af i := fun i hi e => absurd (e ▸ hr) (Nat.not_le.mpr (S.adlt i hi))
/-- the store of a fresh int array: W is the store into pa, xa or ca at the place t -/
theorem SlA.wrR {q n' t : Nat} {g' : Nat → Int32} {r B : Addr} (S : SlA Z h n0 o na pa xa ca af f nn ln nd gs) (hq : q < 1 + 2 * f) (fr : ∀ i, i < 6 + 2 * f → r ≠ adr o na pa xa ca af i) (hr : n0 ≤ r) (P : PI Z h r .int n' g') (W : Wr h h' B t (.ref r))
    (hB : (B = pa ∧ t < f ∧ q = 1 + 2 * t) ∨ (B = xa ∧ t < f ∧ q = 2 + 2 * t) ∨ (B = ca ∧ t < 1 ∧ q = 0)) : SlA Z h' n0 o na pa xa ca (upd af q r) f nn (upd ln q n') nd (upd gs q g') := by
  have K := Keep.of_wr W
  have hi : ∀ s, s < 1 + 2 * f → af s ≠ B := fun s hs => by
    rcases hB with ⟨rfl, -⟩ | ⟨rfl, -⟩ | ⟨rfl, -⟩
    · exact S.inj (s + 5) 2 (by omega) (by omega) (by omega)
    · exact S.inj (s + 5) 3 (by omega) (by omega) (by omega)
    · exact S.inj (s + 5) 4 (by omega) (by omega) (by omega)
  have rB : r ≠ B := by
    rcases hB with ⟨rfl, -⟩ | ⟨rfl, -⟩ | ⟨rfl, -⟩
    · exact fr 2 (by omega)
    · exact fr 3 (by omega)
    · exact fr 4 (by omega)
  have nB : na ≠ B := by
    rcases hB with ⟨rfl, -⟩ | ⟨rfl, -⟩ | ⟨rfl, -⟩
    · exact S.inj 1 2 (by omega) (by omega) (by omega)
    · exact S.inj 1 3 (by omega) (by omega) (by omega)
    · exact S.inj 1 4 (by omega) (by omega) (by omega)
  refine ⟨S.nodes.other W nB, S.exa.keep K, fun i hi => (S.val i hi).wr W, ?_, ?_, ?_, fun s hs => ?_, own_inju S.inj fr, own_lou S.lo hr, S.hf, Nat.lt_of_lt_of_le S.olt K.1⟩
  · rcases hB with ⟨rfl, ht, rfl⟩ | ⟨rfl, ht, rfl⟩ | ⟨rfl, ht, rfl⟩
    · refine (S.prev.set ht W).congr fun i hi => ?_
      by_cases e : i = t
      · subst e; simp [upd]
      · simp only [upd, if_neg e]; rw [if_neg (by omega)]
    · refine (S.prev.other W (S.inj 2 3 (by omega) (by omega) (by omega))).congr fun i hi => ?_
      simp only [upd]; rw [if_neg (by omega)]
    · refine (S.prev.other W (S.inj 2 4 (by omega) (by omega) (by omega))).congr fun i hi => ?_
      simp only [upd]; rw [if_neg (by omega)]
  · rcases hB with ⟨rfl, ht, rfl⟩ | ⟨rfl, ht, rfl⟩ | ⟨rfl, ht, rfl⟩
    · refine (S.next.other W (S.inj 3 2 (by omega) (by omega) (by omega))).congr fun i hi => ?_
      simp only [upd]; rw [if_neg (by omega)]
    · refine (S.next.set ht W).congr fun i hi => ?_
      by_cases e : i = t
      · subst e; simp [upd]
      · simp only [upd, if_neg e]; rw [if_neg (by omega)]
    · refine (S.next.other W (S.inj 3 4 (by omega) (by omega) (by omega))).congr fun i hi => ?_
      simp only [upd]; rw [if_neg (by omega)]
  · rcases hB with ⟨rfl, ht, rfl⟩ | ⟨rfl, ht, rfl⟩ | ⟨rfl, ht, rfl⟩
    · refine (S.cols.other W (S.inj 4 2 (by omega) (by omega) (by omega))).congr fun i hi => ?_
      simp only [upd]; rw [if_neg (by omega)]
    · refine (S.cols.other W (S.inj 4 3 (by omega) (by omega) (by omega))).congr fun i hi => ?_
      simp only [upd]; rw [if_neg (by omega)]
    · refine (S.cols.set ht W).congr fun i hi => ?_
      have : i = 0 := by omega
      have : t = 0 := by omega
      subst i t; simp [upd]
  · by_cases e : s = q
    · subst e; simp only [upd, if_true]; exact P.other W rB
    · simp only [upd, if_neg e]; exact (S.ints s hs).other W (hi s hs)
/-- fresh nodes -/
theorem SlA.newN {n' : Nat} {nd' : Nat → Value} {r : Addr} (S : SlA Z h n0 o na pa xa ca af f nn ln nd gs) (fr : ∀ i, i < 6 + 2 * f → r ≠ adr o na pa xa ca af i) (hr : n0 ≤ r) (P : PR Z h r (.object "java/lang/Object") "java/lang/Object" n' nd') (E : Exa Z h r "[Ljava/lang/Object;") (V : ∀ i, i < n' → OKs Z h "java/lang/Object" (nd' i)) : SlA Z h n0 o r pa xa ca af f n' ln nd' gs := by
  have ad : ∀ i, adr o r pa xa ca af i = if i = 1 then r else adr o na pa xa ca af i := fun i => by
    match i with
    | 0 | 1 | 2 | 3 | 4 => rfl
    | i + 5 => simp only [adr]; rw [if_neg (by omega)]
  refine ⟨P, E, V, S.prev, S.next, S.cols, S.ints, fun i j hi hj hij => ?_, fun i hi => ?_, S.hf, S.olt⟩
  · rw [ad, ad]
    by_cases e : i = 1
    · rw [if_pos e, if_neg (by omega)]; exact fr j hj
    · rw [if_neg e]
      by_cases e2 : j = 1
      · rw [if_pos e2]; exact (fr i hi).symm
      · rw [if_neg e2]; exact S.inj i j hi hj hij
  · rw [ad]
    by_cases e : i = 1
    · rw [if_pos e]; exact hr
    · rw [if_neg e]; exact S.lo i hi
/-- every address of the second table is one of the first or new -/
def SubA (k : Nat) (o na pa xa ca : Addr) (af : Nat → Addr) (f : Nat) (na' : Addr) (af' : Nat → Addr) : Prop := ∀ i, i < 6 + 2 * f → adr o na' pa xa ca af' i ∈ Wl o na pa xa ca af f ∨ k ≤ adr o na' pa xa ca af' i
theorem SubA.refl (k : Nat) : SubA k o na pa xa ca af f na af := fun i hi => Or.inl (List.mem_map.mpr ⟨i, List.mem_range.mpr hi, rfl⟩)
theorem SubA.int {k q : Nat} {na' r : Addr} {af' : Nat → Addr} (S : SubA k o na pa xa ca af f na' af') (hr : k ≤ r) : SubA k o na pa xa ca af f na' (upd af' q r) := fun i hi => by
  rw [own_adru]
  by_cases e : i = q + 5
  · rw [if_pos e]; exact Or.inr hr
  · rw [if_neg e]; exact S i hi
theorem SubA.nod {k : Nat} {na' r : Addr} {af' : Nat → Addr} (S : SubA k o na pa xa ca af f na' af') (hr : k ≤ r) : SubA k o na pa xa ca af f r af' := fun i hi => by
  match i, hi with
  | 0, hi => exact S 0 hi
  | 1, _ => exact Or.inr hr
  | 2, hi => exact S 2 hi
  | 3, hi => exact S 3 hi
  | 4, hi => exact S 4 hi
  | i + 5, hi => exact S (i + 5) hi
theorem own_WlSub {k : Nat} {na' : Addr} {af' : Nat → Addr} (S : SubA k o na pa xa ca af f na' af') : ∀ x ∈ Wl o na' pa xa ca af' f, x ∈ Wl o na pa xa ca af f ∨ k ≤ x := fun x hx => by
  obtain ⟨i, hi, rfl⟩ := List.mem_map.mp hx
  exact S i (List.mem_range.mp hi)
theorem own_SubT {k k2 : Nat} {na' na2 : Addr} {af' af2 : Nat → Addr} (S : SubA k o na pa xa ca af f na' af') (S2 : SubA k2 o na' pa xa ca af' f na2 af2) (hk : k ≤ k2) : SubA k o na pa xa ca af f na2 af2 := fun i hi => (S2 i hi).elim (fun q => own_WlSub S _ q) fun q => Or.inr (Nat.le_trans hk q)
theorem own_nW {b : Addr} (d : ∀ i, i < 6 + 2 * f → adr o na pa xa ca af i ≠ b) : b ∉ Wl o na pa xa ca af f := fun q => by
  obtain ⟨i, hi, e⟩ := List.mem_map.mp q
  exact d i (List.mem_range.mp hi) e
theorem own_nS {k : Nat} {b na' : Addr} {af' : Nat → Addr} (d : ∀ i, i < 6 + 2 * f → adr o na pa xa ca af i ≠ b) (hb : b < k) (S : SubA k o na pa xa ca af f na' af') : ∀ i, i < 6 + 2 * f → adr o na' pa xa ca af' i ≠ b := fun i hi e => (S i hi).elim (fun q => own_nW d (e ▸ q)) fun q => absurd (e ▸ q) (Nat.not_le.mpr hb)
theorem own_q5 {q : Nat} (h : q < 1 + 2 * f) : q + 5 < 6 + 2 * f := by omega
theorem own_a5 {i : Nat} (h : i < 6) : i < 6 + 2 * f := by omega
end OwnSl
theorem PR.arv {Z : State} {h : Heap} {a : Addr} {C K : String} {n : Nat} {g : Nat → Value} (F : PR Z h a (.object C) K n g) (V : ∀ i, i < n → OKs Z h K (g i)) : ∃ k, Arv Z h a k (.object C) n.toInt32 ((List.range n).map g) .null ∧ ∃ (kc : Class) (comp : ClassId), Z.vm.classes[k]? = some kc ∧ kc.kind = .array comp (.object C) ∧ Z.vm.findClass K = some comp := by
  obtain ⟨c, A, r0, r1, r2, r3⟩ := F
  have q := own_n32 r2
  refine ⟨_, ⟨c, A, rfl, by rw [q.2]; exact r1, q.1, fun i hi => ?_, fun i hi => ?_⟩, r0⟩
  · rw [r3 i (by omega)]; simp [show i < n by omega]
  · have hi' : i < n := by omega
    simp only [List.getD_eq_getElem?_getD, List.getElem?_map, List.getElem?_range hi', Option.map_some, Option.getD_some]
    rcases V i hi' with e | ⟨y, e, -⟩ <;> rw [e] <;> rfl
theorem own_ofArvR {Z : State} {h : Heap} {a : Addr} {k : ClassId} {z : Int32} {vs : List Value} {d : Value} {C K : String} {n : Nat} {g : Nat → Value} (A : Arv Z h a k (.object C) z vs d) (O : ∃ (kc : Class) (comp : ClassId), Z.vm.classes[k]? = some kc ∧ kc.kind = .array comp (.object C) ∧ Z.vm.findClass K = some comp) (hn : z.toNatClampNeg = n) (q : ∀ i, i < n → vs.getD i d = g i) : PR Z h a (.object C) K n g := by
  obtain ⟨c, A, r1, r2, r3, H, G⟩ := A
  subst hn r1
  exact ⟨c, A, O, r2, (back32 r3).2, fun i hi => by rw [H i (by omega), q i hi]⟩
theorem own_stoL {Z : State} {h : Heap} {a : Addr} : ∀ {us : List Value}, (∀ v ∈ us, Sto Z h a v) → StoL Z h a us
  | [], _ => trivial
  | v :: r, H => ⟨H v (List.mem_cons_self ..), own_stoL fun w hw => H w (List.mem_cons_of_mem _ hw)⟩
section OwnCp2
variable {p : Program} {l : Launch} {e : Env} {R : Room} {s : State} {m : MethodId} {args : Array Value} {below : List Frame} {meth : Method} {c : Code} {T : State} {locs : List Loc} {cells slots : Nat} {Z : State} {h : Heap} {a b : Addr} {n n' : Nat} {g g' : Nat → Int32}
theorem own_cp2 (X : Stand p l e R s m args below meth c T locs cells slots) (hx : p.tables.exec = Jvm.exec) (hZ : Z.Warmed39 s.vm) {a0 : Array Value} {own : String} {index : Nat} (hown : s.vm.findClass own = some m.cls)
    (w1 : (Cond.methodLink own index Jvm.Stand.acN).before a0 Z = true) (w2 : (Cond.native Jvm.Stand.acN).before a0 Z = true) (w3 : (Cond.static Jvm.Stand.acN).before a0 Z = true) (w4 : (Cond.initialized "java/lang/System").before a0 Z = true) (eT : T.heap = h)
    (A : PI Z h a .int n g) (B : PI Z h b .int n' g') {nn : Int32} (h3 : nn = n.toInt32) (h4 : n ≤ n') {n0 : Nat} (N : Fr n0 locs) (ge : n0 ≤ b)
    {f : JFrame} (hg : f.method = m) (hsize : f.locals.size = c.maxLocals) {rest : List Value} (hs : f.stack = .int nn :: .int 0 :: .ref b :: .int 0 :: .ref a :: rest) (hd : decode c.code f.pc = .ok (.invokestatic index, 3))
    (hf : 1 ≤ R.frames) {W : Nat} (hW : 2 * f.monitorRoom + (rest.map fun v => v.category).sum ≤ W) (hlo : W + (nativeFrameWords "java/lang/System" "arraycopy" 5 + 11) ≤ R.locals) :
    ∃ T' h' L, Stand p l e R s m args below meth c T' L cells slots ∧ T'.heap = h' ∧ Fr n0 L ∧ Keep h h' [b] ∧ PI Z h' b .int n' (fun i => if i < n then g i else g' i) ∧
      ∀ target, Steps p.tables e below (T'.setTop { f with pc := f.pc + 3, stack := rest }) target → Steps p.tables e below (T.setTop f) target := by
  subst h3
  have q1 := own_n32 A.bound
  have q2 := own_n32 B.bound
  obtain ⟨k1, A1⟩ := A.arv
  obtain ⟨k2, B1⟩ := B.arv
  have z0 : (0 : Int32).toNatClampNeg = 0 := rfl
  obtain ⟨T', h', L, r1, r2, r3, r4, r5, r6⟩ := cpA X hx hZ hown w1 w2 w3 w4 eT A1 B1 (Or.inl ⟨rfl, rfl⟩) (sp := 0) (dp := 0) (nn := n.toInt32) (by decide) (by decide) q1.1 (by rw [q1.2, z0]; omega) (by rw [q2.2, q1.2, z0]; omega) rfl (by simp [z0, q1.2]; omega) N ge hg hsize hs hd hf hW hlo
  refine ⟨T', h', L, r1, r2, r3, r4, own_ofArv r5 q2.2 fun i hi => ?_, r6⟩
  simp only [z0, List.take_zero, List.nil_append, Nat.zero_add, q1.2]
  by_cases e1 : i < n
  · simp [List.getElem?_append, e1]
  · simp only [List.getD_eq_getElem?_getD, List.getElem?_append, List.length_map, List.length_range, if_neg e1, List.getElem?_drop]
    rw [show n + (i - n) = i by omega]
    simp [hi]
theorem own_cpR {gv gv' : Nat → Value} (X : Stand p l e R s m args below meth c T locs cells slots) (hx : p.tables.exec = Jvm.exec) (hZ : Z.Warmed39 s.vm) {a0 : Array Value} {own : String} {index : Nat} (hown : s.vm.findClass own = some m.cls)
    (w1 : (Cond.methodLink own index Jvm.Stand.acN).before a0 Z = true) (w2 : (Cond.native Jvm.Stand.acN).before a0 Z = true) (w3 : (Cond.static Jvm.Stand.acN).before a0 Z = true) (w4 : (Cond.initialized "java/lang/System").before a0 Z = true) (eT : T.heap = h) {C K : String}
    (A : PR Z h a (.object C) K n gv) (VA : ∀ i, i < n → OKs Z h K (gv i)) (B : PR Z h b (.object C) K n' gv') (VB : ∀ i, i < n' → OKs Z h K (gv' i)) {nn : Int32} (h3 : nn = n.toInt32) (h4 : n ≤ n') {n0 : Nat} (N : Fr n0 locs) (ge : n0 ≤ b)
    {f : JFrame} (hg : f.method = m) (hsize : f.locals.size = c.maxLocals) {rest : List Value} (hs : f.stack = .int nn :: .int 0 :: .ref b :: .int 0 :: .ref a :: rest) (hd : decode c.code f.pc = .ok (.invokestatic index, 3))
    (hf : 1 ≤ R.frames) {W : Nat} (hW : 2 * f.monitorRoom + (rest.map fun v => v.category).sum ≤ W) (hlo : W + (nativeFrameWords "java/lang/System" "arraycopy" 5 + 11) ≤ R.locals) :
    ∃ T' h' L, Stand p l e R s m args below meth c T' L cells slots ∧ T'.heap = h' ∧ Fr n0 L ∧ Keep h h' [b] ∧ PR Z h' b (.object C) K n' (fun i => if i < n then gv i else gv' i) ∧
      ∀ target, Steps p.tables e below (T'.setTop { f with pc := f.pc + 3, stack := rest }) target → Steps p.tables e below (T.setTop f) target := by
  subst h3
  have q1 := own_n32 A.bound
  have q2 := own_n32 B.bound
  obtain ⟨k1, A1, -⟩ := A.arv VA
  obtain ⟨k2, B1, O⟩ := B.arv VB
  have z0 : (0 : Int32).toNatClampNeg = 0 := rfl
  obtain ⟨T', h', L, r1, r2, r3, r4, r5, r6⟩ := cpA X hx hZ hown w1 w2 w3 w4 eT A1 B1 (Or.inr ⟨rfl, rfl, own_stoL fun v hv => B.sto (by
      obtain ⟨i, hi, rfl⟩ := List.mem_map.mp hv
      have hi' : i < n := by rw [List.mem_range, q1.2] at hi; exact hi
      simp only [z0, Nat.zero_add, List.getD_eq_getElem?_getD, List.getElem?_map, List.getElem?_range hi', Option.map_some, Option.getD_some]
      exact VA i hi')⟩) (sp := 0) (dp := 0) (nn := n.toInt32) (by decide) (by decide) q1.1 (by rw [q1.2, z0]; omega) (by rw [q2.2, q1.2, z0]; omega) rfl (by simp [z0, q1.2]; omega) N ge hg hsize hs hd hf hW hlo
  refine ⟨T', h', L, r1, r2, r3, r4, own_ofArvR r5 O q2.2 fun i hi => ?_, r6⟩
  simp only [z0, List.take_zero, List.nil_append, Nat.zero_add, q1.2]
  by_cases e1 : i < n
  · simp [List.getElem?_append, e1]
  · simp only [List.getD_eq_getElem?_getD, List.getElem?_append, List.length_map, List.length_range, if_neg e1, List.getElem?_drop]
    rw [show n + (i - n) = i by omega]
    simp [hi]
/-- int[n][0] -/
theorem own_grid (X : Stand p l e R s m args below meth c T locs cells slots) (hx : p.tables.exec = Jvm.exec) (hZ : Z.Warmed39 s.vm) {a0 : Array Value} {own : String} {index : Nat} (hown : s.vm.findClass own = some m.cls)
    (w1 : (Cond.classLink own index "[[I").before a0 Z = true) (w2 : (Cond.arrayOver (.array .int)).before a0 Z = true) (w3 : (Cond.arrayClass .int).before a0 Z = true) (eT : T.heap = h) {f : JFrame} (hg : f.method = m) (hd : decode c.code f.pc = .ok (.multianewarray index 2, 4)) {z : Int32} {rest : List Value} (hs : f.stack = .int 0 :: .int z :: rest)
    (hn : ¬ z < 0) (hN : z.toNatClampNeg ≤ 4) (hc : cells + 5 ≤ R.cells) (hl : slots + 4 ≤ R.slots) :
    ∃ (T' : State) (h' : Heap), Stand p l e R s m args below meth c T' locs (cells + 5) (slots + 4) ∧ T'.heap = h' ∧ Ext h h' ∧ PR Z h' h.size (.array .int) "[I" z.toNatClampNeg (fun i => .ref (h.size + 1 + i)) ∧
      (∀ i, i < z.toNatClampNeg → PI Z h' (h.size + 1 + i) .int 0 (fun _ => 0)) ∧
      ∀ target, Steps p.tables e below (T'.setTop { f with pc := f.pc + 4, stack := .ref h.size :: rest }) target → Steps p.tables e below (T.setTop f) target := by
  obtain ⟨T', h', cA, comp, X', e', E', A', O', -, I', st⟩ := gridM X hx hZ hown (ty := .int) (C := "[I") (ad := "[[I") rfl rfl w1 w2 w3 eT hg hd hs hn (by decide) (xs := (List.range z.toNatClampNeg).map fun j => h.size + 1 + j) rfl rfl (cap := 0) (by decide) (by decide) (by omega) rfl rfl (by omega) (by omega)
  obtain ⟨cc, AA, q1, q2, q3, H, G⟩ := A'
  obtain ⟨k0, c0, o1, o2, o3⟩ := O'
  refine ⟨T', h', X'.more (by omega) (by omega), e', E', ⟨cc, AA, ⟨k0, c0, by rw [q1]; exact o1, o2, o3⟩, q2, (back32 q3).2, fun i hi => ?_⟩, fun i hi => ?_, st⟩
  · rw [H i (by omega)]; simp [hi]
  · have := (I' i (h.size + 1 + i) (by simp [hi])).1
    exact PI.new (z := 0) this (by decide) rfl
end OwnCp2
theorem own_StaK {Z : State} {h h' : Heap} {C f d : String} {v : Value} {ws : List Addr} (F : Sta Z h C f d v) (K : Keep h h' ws) (q : ∀ x ∈ ws, ∀ cell : Cell, h[x]? = some cell → cell.vm.isStatics = false) : Sta Z h' C f d v := by
  obtain ⟨cf, i, k, fl, st, cell, h1, h2, h3, h4, h5, h6, h7⟩ := F
  exact ⟨cf, i, k, fl, st, cell, h1, h2, h3, h4, K.2.1 _ _ h5 (fun z => by rw [q _ z _ h5] at h6; cases h6), h6, h7⟩
theorem own_ne5 {i q : Nat} (h : i < 5) : i ≠ q + 5 := by omega
theorem own_q0 {f : Nat} (h : 0 < f) : 0 < 1 + 2 * f := by omega
theorem own_q1 {f : Nat} (h : 0 < f) : 1 < 1 + 2 * f := by omega
theorem own_q2 {f : Nat} (h : 0 < f) : 2 < 1 + 2 * f := by omega
theorem own_isref {Z : State} {h : Heap} {K : String} {v : Value} (F : OKs Z h K v) : v.isRef = true := by rcases F with rfl | ⟨y, rfl, -⟩ <;> rfl
theorem own_lnlt {q nn j f : Nat} {ln : Nat → Nat} (h : ∀ q, q < 1 + 2 * f → ln q = nn) (hq : q < 1 + 2 * f) (hj : j < nn) : j < ln q := by rw [h q hq]; exact hj
theorem own_f0 {f : Nat} (h : 0 < f) : (0 : Int32).toNatClampNeg < f := h
theorem own_fi {f t : Nat} {i : Int32} (hf : f ≤ 4) (hi : 0 ≤ i.toInt ∧ i.toInt + (t + 1 : Nat) = f) : ¬ i < 0 ∧ i.toNatClampNeg < f ∧ i < f.toInt32 ∧ (0 ≤ (i + 1).toInt ∧ (i + 1).toInt + (t : Nat) = f) ∧ (i + 1).toNatClampNeg = i.toNatClampNeg + 1 ∧ 1 + 2 * i.toNatClampNeg < 1 + 2 * f ∧ 2 + 2 * i.toNatClampNeg < 1 + 2 * f := by
  have q := own_iv (N := 0) (k := f) (by omega) hi
  have h1 := own_cl hi.1
  have h2 := own_cl q.2.2.2.1.1
  have := q.2.1
  exact ⟨q.1, q.2.1, q.2.2.1, q.2.2.2.1, by omega, by omega, by omega⟩
theorem own_fz {f : Nat} {i : Int32} (hf : f ≤ 4) (hi : 0 ≤ i.toInt ∧ i.toInt + (0 : Nat) = f) : ¬ i < f.toInt32 ∧ i.toNatClampNeg = f := by
  have h1 := own_cl hi.1
  have h2 := own_t32 (N := f) (by omega)
  exact ⟨by rw [Int32.lt_iff_toInt_lt, h2]; omega, by omega⟩
/-- what the loops of grow keep: the lengths, the contents -/
def Grn (f nn n' a : Nat) (gs : Nat → Nat → Int32) (ln' : Nat → Nat) (gs' : Nat → Nat → Int32) : Prop := (∀ q, q < 1 + 2 * f → ln' q = if 1 ≤ q ∧ q ≤ 2 * a then n' else nn) ∧ ∀ q x, q < 1 + 2 * f → x < nn → gs' q x = gs q x
theorem Grn.start {f nn n' : Nat} {ln : Nat → Nat} {gs : Nat → Nat → Int32} (h : ∀ q, q < 1 + 2 * f → ln q = nn) : Grn f nn n' (0 : Int32).toNatClampNeg gs ln gs := by
  refine ⟨fun q hq => ?_, fun _ _ _ _ => rfl⟩
  have : (0 : Int32).toNatClampNeg = 0 := rfl
  rw [h q hq, if_neg (by omega)]
theorem Grn.lp {f nn n' a : Nat} {gs gs' : Nat → Nat → Int32} {ln' : Nat → Nat} (G : Grn f nn n' a gs ln' gs') (h : 1 + 2 * a < 1 + 2 * f) : ln' (1 + 2 * a) = nn := by rw [G.1 _ h, if_neg (by omega)]
theorem Grn.lx {f nn n' a : Nat} {gs gs' : Nat → Nat → Int32} {ln' : Nat → Nat} (G : Grn f nn n' a gs ln' gs') (h : 2 + 2 * a < 1 + 2 * f) : ln' (2 + 2 * a) = nn := by rw [G.1 _ h, if_neg (by omega)]
theorem Grn.lc {f nn n' a : Nat} {gs gs' : Nat → Nat → Int32} {ln' : Nat → Nat} (G : Grn f nn n' a gs ln' gs') : ln' 0 = nn := by rw [G.1 _ (by omega), if_neg (by omega)]
theorem Grn.step {f nn n' a b m1 m2 : Nat} {gs gs' : Nat → Nat → Int32} {ln' : Nat → Nat} {g1 g2 : Nat → Int32} (G : Grn f nn n' a gs ln' gs') (hb : b = a + 1) (h2 : 2 + 2 * a < 1 + 2 * f) (e1 : m1 = n') (e2 : m2 = n') (q1 : ∀ x, x < nn → g1 x = gs' (1 + 2 * a) x) (q2 : ∀ x, x < nn → g2 x = gs' (2 + 2 * a) x) :
    Grn f nn n' b gs (upd (upd ln' (1 + 2 * a) m1) (2 + 2 * a) m2) (upd (upd gs' (1 + 2 * a) g1) (2 + 2 * a) g2) := by
  subst hb e1 e2
  refine ⟨fun q hq => ?_, fun q x hq hx => ?_⟩
  · simp only [upd]
    by_cases c2 : q = 2 + 2 * a
    · rw [if_pos c2, if_pos (by omega)]
    · rw [if_neg c2]
      by_cases c1 : q = 1 + 2 * a
      · rw [if_pos c1, if_pos (by omega)]
      · rw [if_neg c1, G.1 q hq]
        by_cases c3 : 1 ≤ q ∧ q ≤ 2 * a
        · rw [if_pos c3, if_pos (by omega)]
        · rw [if_neg c3, if_neg (by omega)]
  · simp only [upd]
    by_cases c2 : q = 2 + 2 * a
    · rw [if_pos c2, q2 x hx, c2]; exact G.2 _ x (by omega) hx
    · rw [if_neg c2]
      by_cases c1 : q = 1 + 2 * a
      · rw [if_pos c1, q1 x hx, c1]; exact G.2 _ x (by omega) hx
      · rw [if_neg c1]; exact G.2 q x hq hx
theorem Grn.last {f nn n' a m1 : Nat} {gs gs' : Nat → Nat → Int32} {ln' : Nat → Nat} {g1 : Nat → Int32} (G : Grn f nn n' a gs ln' gs') (ha : a = f) (e1 : m1 = n') (q1 : ∀ x, x < nn → g1 x = gs' 0 x) :
    (∀ q, q < 1 + 2 * f → upd ln' 0 m1 q = n') ∧ ∀ q x, q < 1 + 2 * f → x < nn → upd gs' 0 g1 q x = gs q x := by
  subst ha e1
  refine ⟨fun q hq => ?_, fun q x hq hx => ?_⟩
  · simp only [upd]
    by_cases c1 : q = 0
    · rw [if_pos c1]
    · rw [if_neg c1, G.1 q hq, if_pos (by omega)]
  · simp only [upd]
    by_cases c1 : q = 0
    · rw [if_pos c1, q1 x hx, c1]; exact G.2 _ x (by omega) hx
    · rw [if_neg c1]; exact G.2 q x hq hx
theorem own_rb {B u k R : Nat} (h : B + k ≤ R) : B - u + k ≤ R := by omega
theorem own_rbt {B w t k R : Nat} (h : B + k ≤ R + w) (hle : w * (t + 1) ≤ B) : B - w * (t + 1) + k ≤ R := by
  have : w ≤ w * (t + 1) := Nat.le_mul_of_pos_right w (by omega)
  omega
theorem own_e1 {f : Nat} (h : f ≤ 4) : 1 ≤ 9 - 2 * f := by omega
theorem own_e2 {f : Nat} (h : f ≤ 4) : 16 ≤ 144 - 32 * f := by omega
theorem own_e3 {t : Nat} (h : t + 1 ≤ 4) : 9 - 2 * (t + 1) + 1 + 1 ≤ 9 - 2 * t := by omega
theorem own_e4 {t : Nat} (h : t + 1 ≤ 4) : 144 - 32 * (t + 1) + 16 + 16 ≤ 144 - 32 * t := by omega
theorem own_t4 {f t : Nat} {i : Int32} (hf : f ≤ 4) (hi : 0 ≤ i.toInt ∧ i.toInt + (t + 1 : Nat) = f) : t + 1 ≤ 4 := by omega
theorem own_cpx {n m : Nat} {g : Nat → Int32} (e : m = n) : ∀ x, x < n → (fun i => if i < m then g i else 0) x = g x := fun x hx => by show (if x < m then g x else 0) = g x; rw [if_pos (by omega)]
theorem own_f1 {f : Nat} {i : Int32} (h : i.toNatClampNeg < f) : i.toNatClampNeg < f := h
/-- the loop of add: the slot's links are cleared in the families below a -/
def Afl (a sN : Nat) (gs gs' : Nat → Nat → Int32) : Prop := gs' 0 = gs 0 ∧ (a = 0 → gs' 2 = gs 2) ∧ (0 < a → gs' 2 = upd (gs 2) sN (-1))
theorem Afl.start {sN : Nat} {gs : Nat → Nat → Int32} : Afl (0 : Int32).toNatClampNeg sN gs gs := ⟨rfl, fun _ => rfl, fun h => absurd h (by decide)⟩
theorem Afl.step {a b sN : Nat} {gs gs' : Nat → Nat → Int32} {g1 : Nat → Int32} (A : Afl a sN gs gs') (hb : b = a + 1) : Afl b sN gs (upd (upd gs' (1 + 2 * a) g1) (2 + 2 * a) (upd (upd gs' (1 + 2 * a) g1 (2 + 2 * a)) sN (-1))) := by
  subst hb
  have e0 : ∀ v : Nat → Int32, upd (upd gs' (1 + 2 * a) g1) (2 + 2 * a) v 0 = gs' 0 := fun v => by simp only [upd]; rw [if_neg (by omega), if_neg (by omega)]
  refine ⟨(e0 _).trans A.1, fun h => absurd h (by omega), fun _ => ?_⟩
  by_cases c : a = 0
  · subst c
    have : upd gs' 1 g1 2 = gs' 2 := rfl
    show upd (upd gs' 1 g1 2) sN (-1) = _
    rw [this, A.2.1 rfl]
  · have : upd (upd gs' (1 + 2 * a) g1) (2 + 2 * a) (upd (upd gs' (1 + 2 * a) g1 (2 + 2 * a)) sN (-1)) 2 = gs' 2 := by simp only [upd]; rw [if_neg (by omega), if_neg (by omega)]
    rw [this]; exact A.2.2 (by omega)
/-- what add leaves at a fresh slot -/
def Added (f k : Nat) (nd : Nat → Value) (gs : Nat → Nat → Int32) (b : Addr) (n1 : Nat) (ln1 : Nat → Nat) (nd1 : Nat → Value) (gs1 : Nat → Nat → Int32) : Prop :=
  (k < n1 ∧ n1 ≤ 16) ∧ (∀ q, q < 1 + 2 * f → ln1 q = n1) ∧ nd1 k = .ref b ∧ (∀ i, i < k → nd1 i = nd i) ∧ gs1 2 k = -1 ∧ ∀ x, x < k → gs1 0 x = gs 0 x ∧ gs1 2 x = gs 2 x
theorem own_addedN {f a k nn : Nat} {nd : Nat → Value} {gs gs' : Nat → Nat → Int32} {ln : Nat → Nat} {b : Addr} (hk : k < nn) (h16 : nn ≤ 16) (hln : ∀ q, q < 1 + 2 * f → ln q = nn) (A : Afl a k gs gs') (ha : a = f) (hf : 0 < f) : Added f k nd gs b nn ln (upd nd k (.ref b)) gs' := by
  have h2 := A.2.2 (by omega)
  refine ⟨⟨hk, h16⟩, hln, if_pos rfl, fun i hi => if_neg (by omega), by rw [h2]; exact if_pos rfl, fun x hx => ⟨by rw [A.1], by rw [h2]; exact if_neg (by omega)⟩⟩
theorem own_gj {nn n1 : Nat} {tk : Int32} (h4 : nn ≤ 4) (e : tk = (nn).toInt32) (h : nn < n1) : ¬ tk < 0 ∧ tk.toNatClampNeg < n1 := by
  have q := own_n32 (n := nn) (by omega)
  subst e
  exact ⟨q.1, by rw [q.2]; exact h⟩
def GrownT (f nn : Nat) (nd : Nat → Value) (gs : Nat → Nat → Int32) (n1 : Nat) (ln1 : Nat → Nat) (nd1 : Nat → Value) (gs1 : Nat → Nat → Int32) : Prop := (nn < n1 ∧ n1 ≤ 16) ∧ (∀ q, q < 1 + 2 * f → ln1 q = n1) ∧ (∀ i, i < nn → nd1 i = nd i) ∧ ∀ q x, q < 1 + 2 * f → x < nn → gs1 q x = gs q x
theorem own_addedG {f a nn n1 : Nat} {tk : Int32} {nd nd1 : Nat → Value} {gs gs1 gs' : Nat → Nat → Int32} {ln1 : Nat → Nat} {b : Addr} (h4 : nn ≤ 4) (e : tk = (nn).toInt32) (G : GrownT f nn nd gs n1 ln1 nd1 gs1) (A : Afl a tk.toNatClampNeg gs1 gs') (ha : a = f) (hf : 0 < f) : Added f tk.toNatClampNeg nd gs b n1 ln1 (upd nd1 tk.toNatClampNeg (.ref b)) gs' := by
  have q := own_n32 (n := nn) (by omega)
  subst e
  rw [q.2] at A ⊢
  have B := own_addedN (nd := nd1) (b := b) G.1.1 G.1.2 G.2.1 A ha hf
  refine ⟨B.1, B.2.1, B.2.2.1, fun i hi => (B.2.2.2.1 i hi).trans (G.2.2.1 i hi), B.2.2.2.2.1, fun x hx => ?_⟩
  have := B.2.2.2.2.2 x hx
  exact ⟨this.1.trans (G.2.2.2 0 x (by omega) hx), this.2.trans (G.2.2.2 2 x (by omega) hx)⟩
theorem own_selP {s : State} {args : Array Value} {y z : MethodName} {C : String} (hz : y.cls = z.cls) (wz : (Cond.selects C z z).before args s = true) (iz : (Cond.instanceMethod z).before args s = true) (hpriv : s.PrivateAt y) (hinst : (Cond.instanceMethod y).before args s = true) (hy : y.cls ≠ "java/lang/invoke/MethodHandle" ∧ y.cls ≠ "java/lang/invoke/VarHandle") : (Cond.selects y.cls y y).before args s = true := by
  obtain ⟨mk, methM, hnamed, -⟩ := Cond.instanceMethod_spec iz
  obtain ⟨k, hk, hni⟩ := notFace_of_selects wz mk hnamed
  exact selects_self_of_private (by rw [hz]; exact findClass_of_methodNamed hnamed) hk hni hpriv hinst hy
/-- the inner arrays of a fresh int[n][0] -/
def Gr (Z : State) (h : Heap) (x : Addr) (N : Nat) : Prop := ∀ i, i < N → PI Z h (x + 1 + i) .int 0 (fun _ => 0)
theorem Gr.ext {Z : State} {h h' : Heap} {x : Addr} {N : Nat} (F : Gr Z h x N) (E : Ext h h') : Gr Z h' x N := fun i hi => (F i hi).ext E
theorem own_n1 (x i : Nat) : x ≤ x + 1 + i := by omega
theorem own_n2 {x N y sz : Nat} (hN : 0 < N) (h1 : x + 1 + (N - 1) < sz) (e : y = sz) : x + N < y := by omega
theorem Gr.wr {Z : State} {h h' : Heap} {x o : Addr} {N sl : Nat} {v : Value} (F : Gr Z h x N) (W : Wr h h' o sl v) (q : o < x) : Gr Z h' x N := fun i hi => (F i hi).other W (Nat.ne_of_gt (Nat.lt_of_lt_of_le q (own_n1 x i)))
theorem Gr.after {Z : State} {h : Heap} {x y : Addr} {N : Nat} (F : Gr Z h x N) (hN : 0 < N) (e : y = h.size) : x + N < y := own_n2 hN (F (N - 1) (Nat.sub_lt hN (by decide))).lt e
def afc (x1 x2 x3 : Addr) (q : Nat) : Addr := if q = 0 then x3 + 1 + 0 else if q % 2 = 1 then x1 + 1 + q / 2 else x2 + 1 + (q / 2 - 1)
theorem own_afc0 {x1 x2 x3 : Addr} : afc x1 x2 x3 0 = x3 + 1 + 0 := rfl
theorem own_afc1 {x1 x2 x3 : Addr} (i : Nat) : afc x1 x2 x3 (1 + 2 * i) = x1 + 1 + i := by
  unfold afc; rw [if_neg (by omega), if_pos (by omega), show (1 + 2 * i) / 2 = i by omega]
theorem own_afc2 {x1 x2 x3 : Addr} (i : Nat) : afc x1 x2 x3 (2 + 2 * i) = x2 + 1 + i := by
  unfold afc; rw [if_neg (by omega), if_neg (by omega), show (2 + 2 * i) / 2 - 1 = i by omega]
theorem own_afcq (q : Nat) : q = 0 ∨ (∃ i, q = 1 + 2 * i) ∨ ∃ i, q = 2 + 2 * i := by
  by_cases c : q = 0
  · exact Or.inl c
  · by_cases d : q % 2 = 1
    · exact Or.inr (Or.inl ⟨q / 2, by omega⟩)
    · exact Or.inr (Or.inr ⟨q / 2 - 1, by omega⟩)
/-- a number of its own for each address of a new table -/
def Nmb (o na x1 x2 x3 f i u : Nat) : Prop := ((i = 0 ∧ u = o) ∨ (i = 1 ∧ u = na) ∨ (i = 2 ∧ u = x1) ∨ (i = 3 ∧ u = x2) ∨ (i = 4 ∧ u = x3) ∨ (i = 5 ∧ u = x3 + 1)) ∨ (∃ k : Nat, k < f ∧ i = 6 + 2 * k ∧ u = x1 + 1 + k) ∨ ∃ k : Nat, k < f ∧ i = 7 + 2 * k ∧ u = x2 + 1 + k
theorem Nmb.inj {o na x1 x2 x3 f i j u v : Nat} (a : Nmb o na x1 x2 x3 f i u) (b : Nmb o na x1 x2 x3 f j v) (r0 : o < na) (r1 : na < x1) (r2 : x1 + f < x2) (r3 : x2 + f < x3) (hij : i ≠ j) : u ≠ v := by
  unfold Nmb at a b
  rcases a with a | ⟨k, a⟩ | ⟨k, a⟩ <;> rcases b with b | ⟨k', b⟩ | ⟨k', b⟩ <;> omega
theorem Nmb.lo {o na x1 x2 x3 f i u n0 : Nat} (a : Nmb o na x1 x2 x3 f i u) (r0 : o < na) (r1 : na < x1) (r2 : x1 + f < x2) (r3 : x2 + f < x3) (hn : n0 ≤ o) : n0 ≤ u := by
  unfold Nmb at a
  rcases a with a | ⟨k, a⟩ | ⟨k, a⟩ <;> omega
theorem own_adrn {o na x1 x2 x3 : Addr} {f : Nat} (i : Nat) (hi : i < 6 + 2 * f) : Nmb o na x1 x2 x3 f i (adr o na x1 x2 x3 (afc x1 x2 x3) i) := by
  match i, hi with
  | 0, _ => exact Or.inl (Or.inl ⟨rfl, rfl⟩)
  | 1, _ => exact Or.inl (Or.inr (Or.inl ⟨rfl, rfl⟩))
  | 2, _ => exact Or.inl (Or.inr (Or.inr (Or.inl ⟨rfl, rfl⟩)))
  | 3, _ => exact Or.inl (Or.inr (Or.inr (Or.inr (Or.inl ⟨rfl, rfl⟩))))
  | 4, _ => exact Or.inl (Or.inr (Or.inr (Or.inr (Or.inr (Or.inl ⟨rfl, rfl⟩)))))
  | q + 5, hq =>
    rcases own_afcq q with rfl | ⟨k, rfl⟩ | ⟨k, rfl⟩
    · exact Or.inl (Or.inr (Or.inr (Or.inr (Or.inr (Or.inr ⟨rfl, rfl⟩)))))
    · exact Or.inr (Or.inl ⟨k, by omega, by omega, own_afc1 k⟩)
    · exact Or.inr (Or.inr ⟨k, by omega, by omega, own_afc2 k⟩)
theorem own_mkSl {Z : State} {h : Heap} {n0 : Nat} {o na x1 x2 x3 : Addr} {f : Nat} (hf : 0 < f ∧ f ≤ 4) (O : o < h.size) (P : PR Z h na (.object "java/lang/Object") "java/lang/Object" 0 (fun _ => .null)) (E : Exa Z h na "[Ljava/lang/Object;")
    (P1 : PR Z h x1 (.array .int) "[I" f (fun i => .ref (x1 + 1 + i))) (P2 : PR Z h x2 (.array .int) "[I" f (fun i => .ref (x2 + 1 + i))) (P3 : PR Z h x3 (.array .int) "[I" 1 (fun i => .ref (x3 + 1 + i))) (G1 : Gr Z h x1 f) (G2 : Gr Z h x2 f) (G3 : Gr Z h x3 1)
    (q0 : o < na) (q1 : na < x1) (q2 : x1 + f < x2) (q3 : x2 + f < x3) (hn : n0 ≤ o) : SlA Z h n0 o na x1 x2 x3 (afc x1 x2 x3) f 0 (fun _ => 0) (fun _ => .null) (fun _ _ => 0) := by
  refine ⟨P, E, fun i hi => absurd hi (by omega), P1.congr fun i hi => by rw [own_afc1], P2.congr fun i hi => by rw [own_afc2], P3.congr fun i hi => by rw [show i = 0 by omega, own_afc0], fun q hq => ?_, fun i j hi hj hij => ?_, fun i hi => ?_, hf, O⟩
  · rcases own_afcq q with rfl | ⟨k, rfl⟩ | ⟨k, rfl⟩
    · exact G3 0 (by omega)
    · rw [own_afc1]; exact G1 k (by omega)
    · rw [own_afc2]; exact G2 k (by omega)
  · exact (own_adrn i hi).inj (own_adrn j hj) q0 q1 q2 q3 hij
  · exact (own_adrn i hi).lo q0 q1 q2 q3 hn
theorem pn_java_lang_Math_max_3 : plainFor (⟨"java/lang/Math", "max", "(JJ)J"⟩ : MethodName) = true := by first | exact plainFor_of_name (by first | (simp [plainName, overriddenIn]; done) | decide +kernel) | decide +kernel
def Q_rm3 (Z : State) (q0 : Int64) (q1 : Int64) (h0 : Heap) (n0 : Nat) (v : Option Value) (h : Heap) (L : List Loc) : Prop := v = some (.long (if q0 < q1 then q1 else q0)) ∧ Fr n0 L ∧ h = h0
set_option maxRecDepth 65536 in
set_option maxHeartbeats 4000000 in
theorem ef_rm3 (m : MethodId) (q0 : Int64) (q1 : Int64) : entryFrame m #[(.long q0), (.long q1)] 4 = mkF m 0 #[.val (.long q0), .second, .val (.long q1), .second] [] := by first | (simp [entryFrame, mkF, argsToLocals, Value.category, maxLocals]; done) | rfl
theorem d3_0 : decode jdk_29_method_66_code 0 = .ok (.lload_n 0, 1) := by decide +kernel
theorem d3_1 : decode jdk_29_method_66_code 1 = .ok (.lload_n 2, 1) := by decide +kernel
theorem d3_2 : decode jdk_29_method_66_code 2 = .ok (.lcmp, 1) := by decide +kernel
theorem d3_3 : decode jdk_29_method_66_code 3 = .ok (.ifCond .lt 7, 3) := by decide +kernel
theorem d3_6 : decode jdk_29_method_66_code 6 = .ok (.lload_n 0, 1) := by decide +kernel
theorem d3_7 : decode jdk_29_method_66_code 7 = .ok (.goto 4, 3) := by decide +kernel
theorem d3_10 : decode jdk_29_method_66_code 10 = .ok (.lload_n 2, 1) := by decide +kernel
theorem d3_11 : decode jdk_29_method_66_code 11 = .ok (.lreturn, 1) := by decide +kernel
set_option maxRecDepth 65536 in
set_option maxHeartbeats 40000000 in
theorem rm3 (l : Launch) (Z : State) (a0 : Array Value) (hw : ∀ d ∈ tables_1, d.before a0 Z = true) (ws : List Jvm.Cond) (q0 : Int64) (q1 : Int64) (h0 : Heap) (n0 : Nat) (Z0 : n0 ≤ h0.size)  :
    MetFree l (⟨"java/lang/Math", "max", "(JJ)J"⟩ : MethodName) (head1 (Jvm.Cond.code (⟨"java/lang/Math", "max", "(JJ)J"⟩ : MethodName) jdk_29_method_66_code 4 (some .long) :: ws) ({ frames := 0, cells := 0, slots := 0, locals := 0 } : Room)) (fun a U => a = #[(.long q0), (.long q1)] ∧ Z.Warmed39 U.vm ∧ U.heap = h0) (fun _ _ _ _ _ => True) (fun _ U o U' => ∃ v L, o = .returned v ∧ Q_rm3 Z q0 q1 h0 n0 v U'.heap L ∧ FrameEnd U o U' L ({ frames := 0, cells := 0, slots := 0, locals := 0 } : Room).cells ({ frames := 0, cells := 0, slots := 0, locals := 0 } : Room).slots) := by
  refine body pn_java_lang_Math_max_3 ?_
  intro p e s m below meth c s₁ hx hby hml hown hnm hret hlk hZ e0 X0
  replace hml : c.maxLocals = 4 := hml
  replace hown : s.vm.findClass "java/lang/Math" = some m.cls := hown
  replace hnm : meth.name = "max" := hnm
  replace hret : meth.sig.returnType = (some .long) := hret
  have N0 := Fr.nil n0
  rw [ef_rm3]
  obtain ⟨G, hG⟩ : ∃ G, G = End (Q_rm3 Z q0 q1 h0 n0) s ({ frames := 0, cells := 0, slots := 0, locals := 0 } : Room).cells ({ frames := 0, cells := 0, slots := 0, locals := 0 } : Room).slots := ⟨_, rfl⟩
  rw [← hG]
  refine go (u' := s₁.setTop (mkF m 1 #[.val (.long q0), .second, .val (.long q1), .second] [(.long q0)])) (fun _ ks_ => XS.lloadN X0.here hx rfl (hb hby d3_0) rfl  ks_) ?_
  refine go (u' := s₁.setTop (mkF m 2 #[.val (.long q0), .second, .val (.long q1), .second] [(.long q1), (.long q0)])) (fun _ ks_ => XS.lloadN X0.here hx rfl (hb hby d3_1) rfl  ks_) ?_
  refine go (u' := s₁.setTop (mkF m 3 #[.val (.long q0), .second, .val (.long q1), .second] [(.int (lcmpW q0 q1))])) (fun _ ks_ => XS.lcmp X0.here hx rfl (hb hby d3_2) rfl ks_) ?_
  by_cases c3_1 : q0 < q1
  ·
    refine go (u' := s₁.setTop (mkF m 10 #[.val (.long q0), .second, .val (.long q1), .second] [])) (fun _ ks_ => XS.ifYes X0.here hx rfl (pc0 := 3) (pc' := 10) rfl (hb hby d3_3) rfl (lT c3_1).1 (by decide) (by decide) ks_) ?_
    refine go (u' := s₁.setTop (mkF m 11 #[.val (.long q0), .second, .val (.long q1), .second] [(.long q1)])) (fun _ ks_ => XS.lloadN X0.here hx rfl (hb hby d3_10) rfl  ks_) ?_
    rw [hG]
    refine gJ X0 hx hlk hret (hb hby d3_11) ?_ (Nat.le_of_ble_eq_true rfl) (Nat.le_of_ble_eq_true rfl)
    show Q_rm3 Z q0 q1 h0 n0 (some (.long q1)) s₁.heap _
    rw [e0]
    exact ⟨congrArg (fun z => some (Value.long z)) ((if_pos c3_1)).symm, N0, rfl⟩
  ·
    refine go (u' := s₁.setTop (mkF m 6 #[.val (.long q0), .second, .val (.long q1), .second] [])) (fun _ ks_ => XS.ifNo X0.here hx rfl (hb hby d3_3) rfl (lF c3_1).1 ks_) ?_
    refine go (u' := s₁.setTop (mkF m 7 #[.val (.long q0), .second, .val (.long q1), .second] [(.long q0)])) (fun _ ks_ => XS.lloadN X0.here hx rfl (hb hby d3_6) rfl  ks_) ?_
    refine go (u' := s₁.setTop (mkF m 11 #[.val (.long q0), .second, .val (.long q1), .second] [(.long q0)])) (fun _ ks_ => XS.goto X0.here hx rfl (pc0 := 7) (pc' := 11) rfl (hb hby d3_7) (by decide) (by decide) ks_) ?_
    rw [hG]
    refine gJ X0 hx hlk hret (hb hby d3_11) ?_ (Nat.le_of_ble_eq_true rfl) (Nat.le_of_ble_eq_true rfl)
    show Q_rm3 Z q0 q1 h0 n0 (some (.long q0)) s₁.heap _
    rw [e0]
    exact ⟨congrArg (fun z => some (Value.long z)) ((if_neg c3_1)).symm, N0, rfl⟩
theorem pn_java_lang_Math_min_4 : plainFor (⟨"java/lang/Math", "min", "(JJ)J"⟩ : MethodName) = true := by first | exact plainFor_of_name (by first | (simp [plainName, overriddenIn]; done) | decide +kernel) | decide +kernel
def Q_rm4 (Z : State) (q0 : Int64) (q1 : Int64) (h0 : Heap) (n0 : Nat) (v : Option Value) (h : Heap) (L : List Loc) : Prop := v = some (.long (if q1 < q0 then q1 else q0)) ∧ Fr n0 L ∧ h = h0
set_option maxRecDepth 65536 in
set_option maxHeartbeats 4000000 in
theorem ef_rm4 (m : MethodId) (q0 : Int64) (q1 : Int64) : entryFrame m #[(.long q0), (.long q1)] 4 = mkF m 0 #[.val (.long q0), .second, .val (.long q1), .second] [] := by first | (simp [entryFrame, mkF, argsToLocals, Value.category, maxLocals]; done) | rfl
theorem d4_0 : decode jdk_29_method_70_code 0 = .ok (.lload_n 0, 1) := by decide +kernel
theorem d4_1 : decode jdk_29_method_70_code 1 = .ok (.lload_n 2, 1) := by decide +kernel
theorem d4_2 : decode jdk_29_method_70_code 2 = .ok (.lcmp, 1) := by decide +kernel
theorem d4_3 : decode jdk_29_method_70_code 3 = .ok (.ifCond .gt 7, 3) := by decide +kernel
theorem d4_6 : decode jdk_29_method_70_code 6 = .ok (.lload_n 0, 1) := by decide +kernel
theorem d4_7 : decode jdk_29_method_70_code 7 = .ok (.goto 4, 3) := by decide +kernel
theorem d4_10 : decode jdk_29_method_70_code 10 = .ok (.lload_n 2, 1) := by decide +kernel
theorem d4_11 : decode jdk_29_method_70_code 11 = .ok (.lreturn, 1) := by decide +kernel
set_option maxRecDepth 65536 in
set_option maxHeartbeats 40000000 in
theorem rm4 (l : Launch) (Z : State) (a0 : Array Value) (hw : ∀ d ∈ tables_1, d.before a0 Z = true) (ws : List Jvm.Cond) (q0 : Int64) (q1 : Int64) (h0 : Heap) (n0 : Nat) (Z0 : n0 ≤ h0.size)  :
    MetFree l (⟨"java/lang/Math", "min", "(JJ)J"⟩ : MethodName) (head1 (Jvm.Cond.code (⟨"java/lang/Math", "min", "(JJ)J"⟩ : MethodName) jdk_29_method_70_code 4 (some .long) :: ws) ({ frames := 0, cells := 0, slots := 0, locals := 0 } : Room)) (fun a U => a = #[(.long q0), (.long q1)] ∧ Z.Warmed39 U.vm ∧ U.heap = h0) (fun _ _ _ _ _ => True) (fun _ U o U' => ∃ v L, o = .returned v ∧ Q_rm4 Z q0 q1 h0 n0 v U'.heap L ∧ FrameEnd U o U' L ({ frames := 0, cells := 0, slots := 0, locals := 0 } : Room).cells ({ frames := 0, cells := 0, slots := 0, locals := 0 } : Room).slots) := by
  refine body pn_java_lang_Math_min_4 ?_
  intro p e s m below meth c s₁ hx hby hml hown hnm hret hlk hZ e0 X0
  replace hml : c.maxLocals = 4 := hml
  replace hown : s.vm.findClass "java/lang/Math" = some m.cls := hown
  replace hnm : meth.name = "min" := hnm
  replace hret : meth.sig.returnType = (some .long) := hret
  have N0 := Fr.nil n0
  rw [ef_rm4]
  obtain ⟨G, hG⟩ : ∃ G, G = End (Q_rm4 Z q0 q1 h0 n0) s ({ frames := 0, cells := 0, slots := 0, locals := 0 } : Room).cells ({ frames := 0, cells := 0, slots := 0, locals := 0 } : Room).slots := ⟨_, rfl⟩
  rw [← hG]
  refine go (u' := s₁.setTop (mkF m 1 #[.val (.long q0), .second, .val (.long q1), .second] [(.long q0)])) (fun _ ks_ => XS.lloadN X0.here hx rfl (hb hby d4_0) rfl  ks_) ?_
  refine go (u' := s₁.setTop (mkF m 2 #[.val (.long q0), .second, .val (.long q1), .second] [(.long q1), (.long q0)])) (fun _ ks_ => XS.lloadN X0.here hx rfl (hb hby d4_1) rfl  ks_) ?_
  refine go (u' := s₁.setTop (mkF m 3 #[.val (.long q0), .second, .val (.long q1), .second] [(.int (lcmpW q0 q1))])) (fun _ ks_ => XS.lcmp X0.here hx rfl (hb hby d4_2) rfl ks_) ?_
  by_cases c3_1 : q1 < q0
  ·
    refine go (u' := s₁.setTop (mkF m 10 #[.val (.long q0), .second, .val (.long q1), .second] [])) (fun _ ks_ => XS.ifYes X0.here hx rfl (pc0 := 3) (pc' := 10) rfl (hb hby d4_3) rfl (lT c3_1).2.2.1 (by decide) (by decide) ks_) ?_
    refine go (u' := s₁.setTop (mkF m 11 #[.val (.long q0), .second, .val (.long q1), .second] [(.long q1)])) (fun _ ks_ => XS.lloadN X0.here hx rfl (hb hby d4_10) rfl  ks_) ?_
    rw [hG]
    refine gJ X0 hx hlk hret (hb hby d4_11) ?_ (Nat.le_of_ble_eq_true rfl) (Nat.le_of_ble_eq_true rfl)
    show Q_rm4 Z q0 q1 h0 n0 (some (.long q1)) s₁.heap _
    rw [e0]
    exact ⟨congrArg (fun z => some (Value.long z)) ((if_pos c3_1)).symm, N0, rfl⟩
  ·
    refine go (u' := s₁.setTop (mkF m 6 #[.val (.long q0), .second, .val (.long q1), .second] [])) (fun _ ks_ => XS.ifNo X0.here hx rfl (hb hby d4_3) rfl (lF c3_1).2.2.1 ks_) ?_
    refine go (u' := s₁.setTop (mkF m 7 #[.val (.long q0), .second, .val (.long q1), .second] [(.long q0)])) (fun _ ks_ => XS.lloadN X0.here hx rfl (hb hby d4_6) rfl  ks_) ?_
    refine go (u' := s₁.setTop (mkF m 11 #[.val (.long q0), .second, .val (.long q1), .second] [(.long q0)])) (fun _ ks_ => XS.goto X0.here hx rfl (pc0 := 7) (pc' := 11) rfl (hb hby d4_7) (by decide) (by decide) ks_) ?_
    rw [hG]
    refine gJ X0 hx hlk hret (hb hby d4_11) ?_ (Nat.le_of_ble_eq_true rfl) (Nat.le_of_ble_eq_true rfl)
    show Q_rm4 Z q0 q1 h0 n0 (some (.long q0)) s₁.heap _
    rw [e0]
    exact ⟨congrArg (fun z => some (Value.long z)) ((if_neg c3_1)).symm, N0, rfl⟩
theorem pn_java_lang_Math_min_12 : plainFor (⟨"java/lang/Math", "min", "(II)I"⟩ : MethodName) = true := by first | exact plainFor_of_name (by first | (simp [plainName, overriddenIn]; done) | decide +kernel) | decide +kernel
def Q_rm12 (Z : State) (p0 : Int32) (p1 : Int32) (h0 : Heap) (n0 : Nat) (v : Option Value) (h : Heap) (L : List Loc) : Prop := v = some (.int (if p1 < p0 then p1 else p0)) ∧ Fr n0 L ∧ h = h0
set_option maxRecDepth 65536 in
set_option maxHeartbeats 4000000 in
theorem ef_rm12 (m : MethodId) (p0 : Int32) (p1 : Int32) : entryFrame m #[(.int p0), (.int p1)] 2 = mkF m 0 #[.val (.int p0), .val (.int p1)] [] := by first | (simp [entryFrame, mkF, argsToLocals, Value.category, maxLocals]; done) | rfl
theorem d12_0 : decode jdk_29_method_69_code 0 = .ok (.iload_n 0, 1) := by decide +kernel
theorem d12_1 : decode jdk_29_method_69_code 1 = .ok (.iload_n 1, 1) := by decide +kernel
theorem d12_2 : decode jdk_29_method_69_code 2 = .ok (.if_icmp .gt 7, 3) := by decide +kernel
theorem d12_5 : decode jdk_29_method_69_code 5 = .ok (.iload_n 0, 1) := by decide +kernel
theorem d12_6 : decode jdk_29_method_69_code 6 = .ok (.goto 4, 3) := by decide +kernel
theorem d12_9 : decode jdk_29_method_69_code 9 = .ok (.iload_n 1, 1) := by decide +kernel
theorem d12_10 : decode jdk_29_method_69_code 10 = .ok (.ireturn, 1) := by decide +kernel
set_option maxRecDepth 65536 in
set_option maxHeartbeats 40000000 in
theorem rm12 (l : Launch) (Z : State) (a0 : Array Value) (hw : ∀ d ∈ tables_1, d.before a0 Z = true) (ws : List Jvm.Cond) (p0 : Int32) (p1 : Int32) (h0 : Heap) (n0 : Nat) (Z0 : n0 ≤ h0.size)  :
    MetFree l (⟨"java/lang/Math", "min", "(II)I"⟩ : MethodName) (head1 (Jvm.Cond.code (⟨"java/lang/Math", "min", "(II)I"⟩ : MethodName) jdk_29_method_69_code 2 (some .int) :: ws) ({ frames := 0, cells := 0, slots := 0, locals := 0 } : Room)) (fun a U => a = #[(.int p0), (.int p1)] ∧ Z.Warmed39 U.vm ∧ U.heap = h0) (fun _ _ _ _ _ => True) (fun _ U o U' => ∃ v L, o = .returned v ∧ Q_rm12 Z p0 p1 h0 n0 v U'.heap L ∧ FrameEnd U o U' L ({ frames := 0, cells := 0, slots := 0, locals := 0 } : Room).cells ({ frames := 0, cells := 0, slots := 0, locals := 0 } : Room).slots) := by
  refine body pn_java_lang_Math_min_12 ?_
  intro p e s m below meth c s₁ hx hby hml hown hnm hret hlk hZ e0 X0
  replace hml : c.maxLocals = 2 := hml
  replace hown : s.vm.findClass "java/lang/Math" = some m.cls := hown
  replace hnm : meth.name = "min" := hnm
  replace hret : meth.sig.returnType = (some .int) := hret
  have N0 := Fr.nil n0
  rw [ef_rm12]
  obtain ⟨G, hG⟩ : ∃ G, G = End (Q_rm12 Z p0 p1 h0 n0) s ({ frames := 0, cells := 0, slots := 0, locals := 0 } : Room).cells ({ frames := 0, cells := 0, slots := 0, locals := 0 } : Room).slots := ⟨_, rfl⟩
  rw [← hG]
  refine go (u' := s₁.setTop (mkF m 1 #[.val (.int p0), .val (.int p1)] [(.int p0)])) (fun _ ks_ => XS.iloadN X0.here hx rfl (hb hby d12_0) rfl  ks_) ?_
  refine go (u' := s₁.setTop (mkF m 2 #[.val (.int p0), .val (.int p1)] [(.int p1), (.int p0)])) (fun _ ks_ => XS.iloadN X0.here hx rfl (hb hby d12_1) rfl  ks_) ?_
  by_cases c2_1 : p1 < p0
  ·
    refine go (u' := s₁.setTop (mkF m 9 #[.val (.int p0), .val (.int p1)] [])) (fun _ ks_ => XS.icmpYes X0.here hx rfl (pc0 := 2) (pc' := 9) rfl (hb hby d12_2) rfl (tlt c2_1).2.2.1 (by decide) (by decide) ks_) ?_
    refine go (u' := s₁.setTop (mkF m 10 #[.val (.int p0), .val (.int p1)] [(.int p1)])) (fun _ ks_ => XS.iloadN X0.here hx rfl (hb hby d12_9) rfl  ks_) ?_
    rw [hG]
    refine gI X0 hx hlk hret (hb hby d12_10) ?_ (Nat.le_of_ble_eq_true rfl) (Nat.le_of_ble_eq_true rfl)
    show Q_rm12 Z p0 p1 h0 n0 (some (.int p1)) s₁.heap _
    rw [e0]
    exact ⟨congrArg (fun z => some (Value.int z)) ((if_pos c2_1)).symm, N0, rfl⟩
  ·
    refine go (u' := s₁.setTop (mkF m 5 #[.val (.int p0), .val (.int p1)] [])) (fun _ ks_ => XS.icmpNo X0.here hx rfl (hb hby d12_2) rfl (flt c2_1).2.2.1 ks_) ?_
    refine go (u' := s₁.setTop (mkF m 6 #[.val (.int p0), .val (.int p1)] [(.int p0)])) (fun _ ks_ => XS.iloadN X0.here hx rfl (hb hby d12_5) rfl  ks_) ?_
    refine go (u' := s₁.setTop (mkF m 10 #[.val (.int p0), .val (.int p1)] [(.int p0)])) (fun _ ks_ => XS.goto X0.here hx rfl (pc0 := 6) (pc' := 10) rfl (hb hby d12_6) (by decide) (by decide) ks_) ?_
    rw [hG]
    refine gI X0 hx hlk hret (hb hby d12_10) ?_ (Nat.le_of_ble_eq_true rfl) (Nat.le_of_ble_eq_true rfl)
    show Q_rm12 Z p0 p1 h0 n0 (some (.int p0)) s₁.heap _
    rw [e0]
    exact ⟨congrArg (fun z => some (Value.int z)) ((if_neg c2_1)).symm, N0, rfl⟩
theorem pn_java_lang_Number__init__7 : plainFor (⟨"java/lang/Number", "<init>", "()V"⟩ : MethodName) = true := by first | exact plainFor_of_name (by first | (simp [plainName, overriddenIn]; done) | decide +kernel) | decide +kernel
def Q_rm7 (Z : State) (o0 : Addr) (h0 : Heap) (n0 : Nat) (v : Option Value) (h : Heap) (L : List Loc) : Prop := v = none ∧ Fr n0 L ∧ h = h0
set_option maxRecDepth 65536 in
set_option maxHeartbeats 4000000 in
theorem ef_rm7 (m : MethodId) (o0 : Addr) : entryFrame m #[(.ref o0)] 1 = mkF m 0 #[.val (.ref o0)] [] := by first | (simp [entryFrame, mkF, argsToLocals, Value.category, maxLocals]; done) | rfl
theorem d7_0 : decode jdk_18_method_1_code 0 = .ok (.aload_n 0, 1) := by decide +kernel
theorem d7_1 : decode jdk_18_method_1_code 1 = .ok (.invokespecial 1, 3) := by decide +kernel
theorem d7_4 : decode jdk_18_method_1_code 4 = .ok (.return_, 1) := by decide +kernel
set_option maxRecDepth 65536 in
set_option maxHeartbeats 40000000 in
theorem rm7 (l : Launch) (Z : State) (a0 : Array Value) (hw : ∀ d ∈ tables_1, d.before a0 Z = true) (ws : List Jvm.Cond) (o0 : Addr) (h0 : Heap) (n0 : Nat) (Z0 : n0 ≤ h0.size) (F0 : Exa Z h0 o0 "java/lang/Integer") :
    MetFree l (⟨"java/lang/Number", "<init>", "()V"⟩ : MethodName) (head1 (Jvm.Cond.code (⟨"java/lang/Number", "<init>", "()V"⟩ : MethodName) jdk_18_method_1_code 1 none :: ws) ({ frames := 1, cells := 0, slots := 0, locals := 12 } : Room)) (fun a U => a = #[(.ref o0)] ∧ Z.Warmed39 U.vm ∧ U.heap = h0) (fun _ _ _ _ _ => True) (fun _ U o U' => ∃ v L, o = .returned v ∧ Q_rm7 Z o0 h0 n0 v U'.heap L ∧ FrameEnd U o U' L ({ frames := 1, cells := 0, slots := 0, locals := 12 } : Room).cells ({ frames := 1, cells := 0, slots := 0, locals := 12 } : Room).slots) := by
  refine body pn_java_lang_Number__init__7 ?_
  intro p e s m below meth c s₁ hx hby hml hown hnm hret hlk hZ e0 X0
  replace hml : c.maxLocals = 1 := hml
  replace hown : s.vm.findClass "java/lang/Number" = some m.cls := hown
  replace hnm : meth.name = "<init>" := hnm
  replace hret : meth.sig.returnType = none := hret
  have N0 := Fr.nil n0
  rw [ef_rm7]
  obtain ⟨G, hG⟩ : ∃ G, G = End (Q_rm7 Z o0 h0 n0) s ({ frames := 1, cells := 0, slots := 0, locals := 12 } : Room).cells ({ frames := 1, cells := 0, slots := 0, locals := 12 } : Room).slots := ⟨_, rfl⟩
  rw [← hG]
  refine go (u' := s₁.setTop (mkF m 1 #[.val (.ref o0)] [(.ref o0)])) (fun _ ks_ => XS.aloadN X0.here hx rfl (hb hby d7_0) rfl rfl ks_) ?_
  obtain ⟨T1, X1, e1, st1⟩ := initO X0 hx hZ hown (ww hw 54 rfl) (ww hw 8 rfl) (ww hw 9 rfl) e0 (g := (mkF m 1 #[.val (.ref o0)] [(.ref o0)])) rfl (by rw [hml]; rfl) rfl (hb hby d7_1) (by decide) (W := 0) (by show 2 * 0 + _ ≤ _; exact Nat.le_of_eq rfl) (by decide)
  refine go (u' := T1.setTop (mkF m 4 #[.val (.ref o0)] [])) st1 ?_
  rw [hG]
  refine g0 X1 hx hlk hret (hb hby d7_4) ?_ (Nat.le_of_ble_eq_true rfl) (Nat.le_of_ble_eq_true rfl)
  show Q_rm7 Z o0 h0 n0 (none) T1.heap _
  rw [e1]
  exact ⟨rfl, N0, rfl⟩
theorem pd__40__41_V : parseMethodDescriptor "()V" = some ⟨[], none⟩ := by decide +kernel
theorem pn_java_lang_Integer__init__6 : plainFor (⟨"java/lang/Integer", "<init>", "(I)V"⟩ : MethodName) = true := by first | exact plainFor_of_name (by first | (simp [plainName, overriddenIn]; done) | decide +kernel) | decide +kernel
def Q_rm6 (Z : State) (o0 : Addr) (p1 : Int32) (h0 : Heap) (n0 : Nat) (v : Option Value) (h : Heap) (L : List Loc) : Prop := v = none ∧ Fr n0 L ∧ Keep h0 h [o0] ∧ (Exa Z h o0 "java/lang/Integer") ∧ (Fld Z h o0 "java/lang/Integer" "value" "I" (.int p1))
set_option maxRecDepth 65536 in
set_option maxHeartbeats 4000000 in
theorem ef_rm6 (m : MethodId) (o0 : Addr) (p1 : Int32) : entryFrame m #[(.ref o0), (.int p1)] 2 = mkF m 0 #[.val (.ref o0), .val (.int p1)] [] := by first | (simp [entryFrame, mkF, argsToLocals, Value.category, maxLocals]; done) | rfl
theorem d6_0 : decode jdk_33_method_23_code 0 = .ok (.aload_n 0, 1) := by decide +kernel
theorem d6_1 : decode jdk_33_method_23_code 1 = .ok (.invokespecial 202, 3) := by decide +kernel
theorem d6_4 : decode jdk_33_method_23_code 4 = .ok (.aload_n 0, 1) := by decide +kernel
theorem d6_5 : decode jdk_33_method_23_code 5 = .ok (.iload_n 1, 1) := by decide +kernel
theorem d6_6 : decode jdk_33_method_23_code 6 = .ok (.putfield 205, 3) := by decide +kernel
theorem d6_9 : decode jdk_33_method_23_code 9 = .ok (.return_, 1) := by decide +kernel
set_option maxRecDepth 65536 in
set_option maxHeartbeats 40000000 in
theorem rm6 (l : Launch) (Z : State) (a0 : Array Value) (hw : ∀ d ∈ tables_1, d.before a0 Z = true) (ws : List Jvm.Cond) (o0 : Addr) (p1 : Int32) (h0 : Heap) (n0 : Nat) (Z0 : n0 ≤ h0.size) (g_o0 : n0 ≤ o0) (F0 : Exa Z h0 o0 "java/lang/Integer") (F1 : Fld Z h0 o0 "java/lang/Integer" "value" "I" (.int (0 : Int32))) :
    MetFree l (⟨"java/lang/Integer", "<init>", "(I)V"⟩ : MethodName) (head1 (Jvm.Cond.code (⟨"java/lang/Integer", "<init>", "(I)V"⟩ : MethodName) jdk_33_method_23_code 2 none :: ws) ({ frames := 2, cells := 0, slots := 0, locals := 24 } : Room)) (fun a U => a = #[(.ref o0), (.int p1)] ∧ Z.Warmed39 U.vm ∧ U.heap = h0) (fun _ _ _ _ _ => True) (fun _ U o U' => ∃ v L, o = .returned v ∧ Q_rm6 Z o0 p1 h0 n0 v U'.heap L ∧ FrameEnd U o U' L ({ frames := 2, cells := 0, slots := 0, locals := 24 } : Room).cells ({ frames := 2, cells := 0, slots := 0, locals := 24 } : Room).slots) := by
  refine body pn_java_lang_Integer__init__6 ?_
  intro p e s m below meth c s₁ hx hby hml hown hnm hret hlk hZ e0 X0
  replace hml : c.maxLocals = 2 := hml
  replace hown : s.vm.findClass "java/lang/Integer" = some m.cls := hown
  replace hnm : meth.name = "<init>" := hnm
  replace hret : meth.sig.returnType = none := hret
  have N0 := Fr.nil n0
  rw [ef_rm6]
  obtain ⟨G, hG⟩ : ∃ G, G = End (Q_rm6 Z o0 p1 h0 n0) s ({ frames := 2, cells := 0, slots := 0, locals := 24 } : Room).cells ({ frames := 2, cells := 0, slots := 0, locals := 24 } : Room).slots := ⟨_, rfl⟩
  rw [← hG]
  refine go (u' := s₁.setTop (mkF m 1 #[.val (.ref o0), .val (.int p1)] [(.ref o0)])) (fun _ ks_ => XS.aloadN X0.here hx rfl (hb hby d6_0) rfl rfl ks_) ?_
  obtain ⟨_, _, ⟨T1, L1, k1, n1⟩, -, X1, ⟨Lc1, hQ1, l1, y1, z1⟩, st1⟩ := X0.specialBack hx (y := (⟨"java/lang/Number", "<init>", "()V"⟩ : MethodName)) rfl hown (mvT hZ (ww hw 48 rfl)) (mvT hZ (ww hw 49 rfl)) (mvT hZ (ww hw 53 rfl)) (by decide) (backOf (W := 0) (rm7 l Z a0 hw [] o0 h0 n0 Z0 F0) hZ (ww hw 53 rfl) (ww hw 52 rfl) (by decide) (by decide)) (g := (mkF m 1 #[.val (.ref o0), .val (.int p1)] [(.ref o0)])) rfl (by rw [hml]; rfl) (Steps.refl _) (a := o0) (argsL := []) (rest := []) (lenOf pd__40__41_V rfl) rfl (by show 2 * 0 + _ ≤ _; exact Nat.le_of_eq rfl) (hb hby d6_1) (fun _ _ => ⟨rfl, e0, (by decide : 0 + 0 ≤ _), (by decide : 0 + 0 ≤ _)⟩)
  dsimp only [Pt.U, Pt.locs, Pt.cells, Pt.slots] at X1 l1 y1 z1 st1 hQ1
  subst l1 y1 z1
  obtain ⟨rfl, N1q, eq1⟩ := hQ1
  have N1 := Fr.app N0 N1q
  refine goT (u' := T1.setTop (mkF m 4 #[.val (.ref o0), .val (.int p1)] [])) st1 ?_
  refine go (u' := T1.setTop (mkF m 5 #[.val (.ref o0), .val (.int p1)] [(.ref o0)])) (fun _ ks_ => XS.aloadN X1.here hx rfl (hb hby d6_4) rfl rfl ks_) ?_
  refine go (u' := T1.setTop (mkF m 6 #[.val (.ref o0), .val (.int p1)] [(.int p1), (.ref o0)])) (fun _ ks_ => XS.iloadN X1.here hx rfl (hb hby d6_5) rfl  ks_) ?_
  obtain ⟨T2, h2, X2, e2, W2, st2⟩ := putF X1 hx hZ hown (host := "") (Or.inl (ww hw 55 rfl)) Via.refl eq1 F1 F0 (Or.inr ⟨(ww hw 56 rfl), rfl, hnm⟩) (ww hw 43 rfl) (ty := .int) (by decide) rfl rfl (g := (mkF m 6 #[.val (.ref o0), .val (.int p1)] [(.int p1), (.ref o0)])) rfl rfl (hb hby d6_6)
  have N2 := Fr.snoc X2 N1 g_o0
  have K2 : Keep h0 h2 [o0] := (Keep.refl h0 [o0]).wr W2 (Or.inl (List.mem_of_getElem? (i := 0) rfl))
  have Z2 : n0 ≤ h2.size := Nat.le_trans Z0 (Keep.of_wr W2).1
  have Fa3 : Exa Z h2 o0 "java/lang/Integer" := F0.wr W2
  have Fa4 : Fld Z h2 o0 "java/lang/Integer" "value" "I" (.int p1) := F1.same W2
  refine go (u' := T2.setTop (mkF m 9 #[.val (.ref o0), .val (.int p1)] [])) st2 ?_
  rw [hG]
  refine g0 X2 hx hlk hret (hb hby d6_9) ?_ (Nat.le_of_ble_eq_true rfl) (Nat.le_of_ble_eq_true rfl)
  show Q_rm6 Z o0 p1 h0 n0 (none) T2.heap _
  rw [e2]
  exact ⟨rfl, N2, K2, Fa3, Fa4⟩
theorem pd__40_I_41_V : parseMethodDescriptor "(I)V" = some ⟨[.int], none⟩ := by decide +kernel
theorem pn_java_lang_Integer_valueOf_5 : plainFor (⟨"java/lang/Integer", "valueOf", "(I)Ljava/lang/Integer;"⟩ : MethodName) = true := by first | exact plainFor_of_name (by first | (simp [plainName, overriddenIn]; done) | decide +kernel) | decide +kernel
def Q_rm5 (Z : State) (p0 : Int32) (h0 : Heap) (n0 : Nat) (v : Option Value) (h : Heap) (L : List Loc) : Prop := ∃ r : Addr, v = some (.ref r) ∧ Fr n0 L ∧ Keep h0 h [] ∧ (Exa Z h r "java/lang/Integer") ∧ (h0.size ≤ r)
set_option maxRecDepth 65536 in
set_option maxHeartbeats 4000000 in
theorem ef_rm5 (m : MethodId) (p0 : Int32) : entryFrame m #[(.int p0)] 1 = mkF m 0 #[.val (.int p0)] [] := by first | (simp [entryFrame, mkF, argsToLocals, Value.category, maxLocals]; done) | rfl
theorem d5_0 : decode jdk_33_method_22_code 0 = .ok (.iload_n 0, 1) := by decide +kernel
theorem d5_1 : decode jdk_33_method_22_code 1 = .ok (.bipush (-128), 2) := by decide +kernel
theorem d5_3 : decode jdk_33_method_22_code 3 = .ok (.if_icmp .lt 20, 3) := by decide +kernel
theorem d5_6 : decode jdk_33_method_22_code 6 = .ok (.iload_n 0, 1) := by decide +kernel
theorem d5_7 : decode jdk_33_method_22_code 7 = .ok (.getstatic 191, 3) := by decide +kernel
theorem d5_10 : decode jdk_33_method_22_code 10 = .ok (.if_icmp .gt 13, 3) := by decide +kernel
theorem d5_23 : decode jdk_33_method_22_code 23 = .ok (.new 1, 3) := by decide +kernel
theorem d5_26 : decode jdk_33_method_22_code 26 = .ok (.dup, 1) := by decide +kernel
theorem d5_27 : decode jdk_33_method_22_code 27 = .ok (.iload_n 0, 1) := by decide +kernel
theorem d5_28 : decode jdk_33_method_22_code 28 = .ok (.invokespecial 199, 3) := by decide +kernel
theorem d5_31 : decode jdk_33_method_22_code 31 = .ok (.areturn, 1) := by decide +kernel
set_option maxRecDepth 65536 in
set_option maxHeartbeats 40000000 in
theorem rm5 (l : Launch) (Z : State) (a0 : Array Value) (hw : ∀ d ∈ tables_1, d.before a0 Z = true) (ws : List Jvm.Cond) (p0 : Int32) (h0 : Heap) (n0 : Nat) (Z0 : n0 ≤ h0.size) (F0 : Sta Z h0 "java/lang/Integer$IntegerCache" "high" "I" (.int (127 : Int32))) (hp1 : ¬ p0 < (-128 : Int32)) (hp2 : (127 : Int32) < p0) :
    MetFree l (⟨"java/lang/Integer", "valueOf", "(I)Ljava/lang/Integer;"⟩ : MethodName) (head1 (Jvm.Cond.code (⟨"java/lang/Integer", "valueOf", "(I)Ljava/lang/Integer;"⟩ : MethodName) jdk_33_method_22_code 1 (some (.object "java/lang/Integer")) :: ws) ({ frames := 3, cells := 1, slots := 1, locals := 38 } : Room)) (fun a U => a = #[(.int p0)] ∧ Z.Warmed39 U.vm ∧ U.heap = h0) (fun _ _ _ _ _ => True) (fun _ U o U' => ∃ v L, o = .returned v ∧ Q_rm5 Z p0 h0 n0 v U'.heap L ∧ FrameEnd U o U' L ({ frames := 3, cells := 1, slots := 1, locals := 38 } : Room).cells ({ frames := 3, cells := 1, slots := 1, locals := 38 } : Room).slots) := by
  refine body pn_java_lang_Integer_valueOf_5 ?_
  intro p e s m below meth c s₁ hx hby hml hown hnm hret hlk hZ e0 X0
  replace hml : c.maxLocals = 1 := hml
  replace hown : s.vm.findClass "java/lang/Integer" = some m.cls := hown
  replace hnm : meth.name = "valueOf" := hnm
  replace hret : meth.sig.returnType = (some (.object "java/lang/Integer")) := hret
  have N0 := Fr.nil n0
  rw [ef_rm5]
  obtain ⟨G, hG⟩ : ∃ G, G = End (Q_rm5 Z p0 h0 n0) s ({ frames := 3, cells := 1, slots := 1, locals := 38 } : Room).cells ({ frames := 3, cells := 1, slots := 1, locals := 38 } : Room).slots := ⟨_, rfl⟩
  rw [← hG]
  refine go (u' := s₁.setTop (mkF m 1 #[.val (.int p0)] [(.int p0)])) (fun _ ks_ => XS.iloadN X0.here hx rfl (hb hby d5_0) rfl  ks_) ?_
  refine go (u' := s₁.setTop (mkF m 3 #[.val (.int p0)] [(.int (-128 : Int32)), (.int p0)])) (fun _ ks_ => XS.bipush X0.here hx rfl (hb hby d5_1) ks_) ?_
  refine go (u' := s₁.setTop (mkF m 6 #[.val (.int p0)] [])) (fun _ ks_ => XS.icmpNo X0.here hx rfl (hb hby d5_3) rfl (flt hp1).1 ks_) ?_
  refine go (u' := s₁.setTop (mkF m 7 #[.val (.int p0)] [(.int p0)])) (fun _ ks_ => XS.iloadN X0.here hx rfl (hb hby d5_6) rfl  ks_) ?_
  obtain ⟨T1, X1, e1, st1⟩ := getS2 X0 hx hZ hown (host := "") (Or.inl (ww hw 40 rfl)) Via.refl e0 F0 (g := (mkF m 7 #[.val (.int p0)] [(.int p0)])) rfl (hb hby d5_7)
  refine go (u' := T1.setTop (mkF m 10 #[.val (.int p0)] [(.int (127 : Int32)), (.int p0)])) st1 ?_
  refine go (u' := T1.setTop (mkF m 23 #[.val (.int p0)] [])) (fun _ ks_ => XS.icmpYes X1.here hx rfl (pc0 := 10) (pc' := 23) rfl (hb hby d5_10) rfl (tlt hp2).2.2.1 (by decide) (by decide) ks_) ?_
  obtain ⟨T2, h2, X2, e2, E2, A2, D2, -, st2⟩ := newO X1 hx hZ hown (ww hw 42 rfl) (ww hw 43 rfl) (ww hw 38 rfl) e1 (g := (mkF m 23 #[.val (.int p0)] [])) rfl (hb hby d5_23) (by decide) (by decide)
  obtain ⟨b2, g2⟩ : ∃ z, z = h0.size := ⟨_, rfl⟩
  rw [← g2] at A2 D2 st2
  have g_b2 : n0 ≤ b2 := Nat.le_trans Z0 (Nat.le_of_eq g2.symm)
  have sz_b2 : h0.size ≤ b2 := Nat.le_trans (Keep.refl h0 []).1 (Nat.le_of_eq g2.symm)
  have K2 : Keep h0 h2 [] := (Keep.refl h0 []).ext E2
  have Fa3 : Sta Z h2 "java/lang/Integer$IntegerCache" "high" "I" (.int (127 : Int32)) := F0.ext E2
  have Z2 : n0 ≤ h2.size := Nat.le_trans Z0 E2.1
  have Fa4 : Fld Z h2 b2 "java/lang/Integer" "value" "I" (.int (0 : Int32)) := D2 (Or.inr (ww hw 56 rfl)) (ty := .int) (by decide)
  refine go (u' := T2.setTop (mkF m 26 #[.val (.int p0)] [(.ref b2)])) st2 ?_
  refine go (u' := T2.setTop (mkF m 27 #[.val (.int p0)] [(.ref b2), (.ref b2)])) (fun _ ks_ => XS.dup X2.here hx rfl (hb hby d5_26) rfl rfl ks_) ?_
  refine go (u' := T2.setTop (mkF m 28 #[.val (.int p0)] [(.int p0), (.ref b2), (.ref b2)])) (fun _ ks_ => XS.iloadN X2.here hx rfl (hb hby d5_27) rfl  ks_) ?_
  obtain ⟨_, _, ⟨T5, L5, k5, n5⟩, -, X5, ⟨Lc5, hQ5, l5, y5, z5⟩, st5⟩ := X2.specialBack hx (y := (⟨"java/lang/Integer", "<init>", "(I)V"⟩ : MethodName)) rfl hown (mvT hZ (ww hw 44 rfl)) (mvT hZ (ww hw 45 rfl)) (mvT hZ (ww hw 47 rfl)) (by decide) (backOf (W := 1) (rm6 l Z a0 hw [] b2 p0 h2 n0 Z2 g_b2 A2 Fa4) hZ (ww hw 47 rfl) (ww hw 38 rfl) (by decide) (by decide)) (g := (mkF m 28 #[.val (.int p0)] [(.int p0), (.ref b2), (.ref b2)])) rfl (by rw [hml]; rfl) (Steps.refl _) (a := b2) (argsL := [(.int p0)]) (rest := [(.ref b2)]) (lenOf pd__40_I_41_V rfl) rfl (by show 2 * 0 + _ ≤ _; exact Nat.le_of_eq rfl) (hb hby d5_28) (fun _ _ => ⟨rfl, e2, (by decide : 1 + 0 ≤ _), (by decide : 1 + 0 ≤ _)⟩)
  dsimp only [Pt.U, Pt.locs, Pt.cells, Pt.slots] at X5 l5 y5 z5 st5 hQ5
  subst l5 y5 z5
  obtain ⟨rfl, N5q, Kq5, Fa6, Fa7⟩ := hQ5
  have N5 := Fr.app N0 N5q
  have K5 : Keep h0 T5.heap [] := K2.trans Kq5 (allS (P := fun x => x ∈ [] ∨ h0.size ≤ x) (Or.inr sz_b2) all0)
  have Z5 : n0 ≤ T5.heap.size := Nat.le_trans Z2 Kq5.1
  have Fa8 : Sta Z T5.heap "java/lang/Integer$IntegerCache" "high" "I" (.int (127 : Int32)) := own_StaK Fa3 Kq5 (nsS (Exa.nostat A2) ns0)
  have Fa9 : Exa Z T5.heap b2 "java/lang/Integer" := A2.keep Kq5
  refine goT (u' := T5.setTop (mkF m 31 #[.val (.int p0)] [(.ref b2)])) st5 ?_
  rw [hG]
  refine gA X5 hx hlk hret rfl rfl (hb hby d5_31) ?_ (Nat.le_of_ble_eq_true rfl) (Nat.le_of_ble_eq_true rfl)
  show Q_rm5 Z p0 h0 n0 (some (.ref b2)) T5.heap _
  exact ⟨b2, rfl, N5, K5, Fa6, sz_b2⟩
theorem own_le {n : Nat} {p : Int32} (hp : (n : Int) < p.toInt ∧ p.toInt ≤ 16) : n ≤ p.toNatClampNeg := by
  have := own_cl (j := p) (by omega); omega
theorem own_pp {n : Nat} {p : Int32} (hp : (n : Int) < p.toInt ∧ p.toInt ≤ 16) : ¬ p < 0 ∧ p.toNatClampNeg ≤ 16 ∧ ¬ p = n.toInt32 ∧ n.toInt32 = (if n.toInt32 < p ∨ n.toInt32 = p then n.toInt32 else p) := by
  have h1 := own_cl (j := p) (by omega)
  have h2 : n.toInt32.toInt = n := by show (Int32.ofNat n).toInt = n; exact Int32.toInt_ofNat_of_lt (by omega)
  refine ⟨?_, by omega, fun e => ?_, ?_⟩
  · rw [Int32.lt_iff_toInt_lt]; have : (0 : Int32).toInt = 0 := rfl; omega
  · rw [e] at hp; omega
  · rw [if_pos (Or.inl (by rw [Int32.lt_iff_toInt_lt]; omega))]
theorem own_mn {n : Nat} {p : Int32} (hp : (n : Int) < p.toInt ∧ p.toInt ≤ 16) : ¬ p < n.toInt32 := by
  have h2 : n.toInt32.toInt = n := by show (Int32.ofNat n).toInt = n; exact Int32.toInt_ofNat_of_lt (by omega)
  rw [Int32.lt_iff_toInt_lt]; omega
theorem own_mnv {n : Nat} {p : Int32} (hp : (n : Int) < p.toInt ∧ p.toInt ≤ 16) : (if p < n.toInt32 then p else n.toInt32) = n.toInt32 := by
  have h := own_mn hp
  simp [h]
theorem pd__40_II_41_I : parseMethodDescriptor "(II)I" = some ⟨[.int, .int], some .int⟩ := by decide +kernel
theorem pn_java_util_Arrays_copyOf_13 : plainFor (⟨"java/util/Arrays", "copyOf", "([II)[I"⟩ : MethodName) = true := by first | exact plainFor_of_name (by first | (simp [plainName, overriddenIn]; done) | decide +kernel) | decide +kernel
def Q_rm13 (Z : State) (o0 : Addr) (p1 : Int32) (n : Nat) (g : Nat → Int32) (h0 : Heap) (n0 : Nat) (v : Option Value) (h : Heap) (L : List Loc) : Prop := ∃ r : Addr, v = some (.ref r) ∧ Fr n0 L ∧ Keep h0 h [] ∧ (PI Z h r .int p1.toNatClampNeg (fun i => if i < n then g i else 0)) ∧ (Exa Z h r "[I") ∧ (h0.size ≤ r)
set_option maxRecDepth 65536 in
set_option maxHeartbeats 4000000 in
theorem ef_rm13 (m : MethodId) (o0 : Addr) (p1 : Int32) : entryFrame m #[(.ref o0), (.int p1)] 3 = mkF m 0 #[.val (.ref o0), .val (.int p1), .unset] [] := by first | (simp [entryFrame, mkF, argsToLocals, Value.category, maxLocals]; done) | rfl
theorem d13_0 : decode jdk_65_method_123_code 0 = .ok (.iload_n 1, 1) := by decide +kernel
theorem d13_1 : decode jdk_65_method_123_code 1 = .ok (.aload_n 0, 1) := by decide +kernel
theorem d13_2 : decode jdk_65_method_123_code 2 = .ok (.arraylength, 1) := by decide +kernel
theorem d13_3 : decode jdk_65_method_123_code 3 = .ok (.if_icmp .ne 11, 3) := by decide +kernel
theorem d13_14 : decode jdk_65_method_123_code 14 = .ok (.iload_n 1, 1) := by decide +kernel
theorem d13_15 : decode jdk_65_method_123_code 15 = .ok (.newarray .int, 2) := by decide +kernel
theorem d13_17 : decode jdk_65_method_123_code 17 = .ok (.astore_n 2, 1) := by decide +kernel
theorem d13_18 : decode jdk_65_method_123_code 18 = .ok (.aload_n 0, 1) := by decide +kernel
theorem d13_19 : decode jdk_65_method_123_code 19 = .ok (.iconst 0, 1) := by decide +kernel
theorem d13_20 : decode jdk_65_method_123_code 20 = .ok (.aload_n 2, 1) := by decide +kernel
theorem d13_21 : decode jdk_65_method_123_code 21 = .ok (.iconst 0, 1) := by decide +kernel
theorem d13_22 : decode jdk_65_method_123_code 22 = .ok (.aload_n 0, 1) := by decide +kernel
theorem d13_23 : decode jdk_65_method_123_code 23 = .ok (.arraylength, 1) := by decide +kernel
theorem d13_24 : decode jdk_65_method_123_code 24 = .ok (.iload_n 1, 1) := by decide +kernel
theorem d13_25 : decode jdk_65_method_123_code 25 = .ok (.invokestatic 304, 3) := by decide +kernel
theorem d13_28 : decode jdk_65_method_123_code 28 = .ok (.invokestatic 150, 3) := by decide +kernel
theorem d13_31 : decode jdk_65_method_123_code 31 = .ok (.aload_n 2, 1) := by decide +kernel
theorem d13_32 : decode jdk_65_method_123_code 32 = .ok (.areturn, 1) := by decide +kernel
set_option maxRecDepth 65536 in
set_option maxHeartbeats 40000000 in
theorem rm13 (l : Launch) (Z : State) (a0 : Array Value) (hw : ∀ d ∈ tables_1, d.before a0 Z = true) (ws : List Jvm.Cond) (o0 : Addr) (p1 : Int32) (n : Nat) (g : Nat → Int32) (h0 : Heap) (n0 : Nat) (Z0 : n0 ≤ h0.size) (F0 : PI Z h0 o0 .int n g) (hp : (n : Int) < p1.toInt ∧ p1.toInt ≤ 16) :
    MetFree l (⟨"java/util/Arrays", "copyOf", "([II)[I"⟩ : MethodName) (head1 (Jvm.Cond.code (⟨"java/util/Arrays", "copyOf", "([II)[I"⟩ : MethodName) jdk_65_method_123_code 3 (some (.array .int)) :: ws) ({ frames := 1, cells := 1, slots := 16, locals := 40 } : Room)) (fun a U => a = #[(.ref o0), (.int p1)] ∧ Z.Warmed39 U.vm ∧ U.heap = h0) (fun _ _ _ _ _ => True) (fun _ U o U' => ∃ v L, o = .returned v ∧ Q_rm13 Z o0 p1 n g h0 n0 v U'.heap L ∧ FrameEnd U o U' L ({ frames := 1, cells := 1, slots := 16, locals := 40 } : Room).cells ({ frames := 1, cells := 1, slots := 16, locals := 40 } : Room).slots) := by
  refine body pn_java_util_Arrays_copyOf_13 ?_
  intro p e s m below meth c s₁ hx hby hml hown hnm hret hlk hZ e0 X0
  replace hml : c.maxLocals = 3 := hml
  replace hown : s.vm.findClass "java/util/Arrays" = some m.cls := hown
  replace hnm : meth.name = "copyOf" := hnm
  replace hret : meth.sig.returnType = (some (.array .int)) := hret
  have N0 := Fr.nil n0
  rw [ef_rm13]
  obtain ⟨G, hG⟩ : ∃ G, G = End (Q_rm13 Z o0 p1 n g h0 n0) s ({ frames := 1, cells := 1, slots := 16, locals := 40 } : Room).cells ({ frames := 1, cells := 1, slots := 16, locals := 40 } : Room).slots := ⟨_, rfl⟩
  rw [← hG]
  refine go (u' := s₁.setTop (mkF m 1 #[.val (.ref o0), .val (.int p1), .unset] [(.int p1)])) (fun _ ks_ => XS.iloadN X0.here hx rfl (hb hby d13_0) rfl  ks_) ?_
  refine go (u' := s₁.setTop (mkF m 2 #[.val (.ref o0), .val (.int p1), .unset] [(.ref o0), (.int p1)])) (fun _ ks_ => XS.aloadN X0.here hx rfl (hb hby d13_1) rfl rfl ks_) ?_
  refine go (u' := s₁.setTop (mkF m 3 #[.val (.ref o0), .val (.int p1), .unset] [(.int n.toInt32), (.int p1)])) (own_alen X0 hx hZ e0 F0 (z := n.toInt32) rfl (f := (mkF m 2 #[.val (.ref o0), .val (.int p1), .unset] [(.ref o0), (.int p1)])) rfl rfl (hb hby d13_2)) ?_
  refine go (u' := s₁.setTop (mkF m 14 #[.val (.ref o0), .val (.int p1), .unset] [])) (fun _ ks_ => XS.icmpYes X0.here hx rfl (pc0 := 3) (pc' := 14) rfl (hb hby d13_3) rfl (feq (show ¬ (p1 = n.toInt32) from (own_pp hp).2.2.1)).2 (by decide) (by decide) ks_) ?_
  refine go (u' := s₁.setTop (mkF m 15 #[.val (.ref o0), .val (.int p1), .unset] [(.int p1)])) (fun _ ks_ => XS.iloadN X0.here hx rfl (hb hby d13_14) rfl  ks_) ?_
  obtain ⟨T1, h1, k1, X1, e1, E1, A1, Q1, st1⟩ := newPE X0 hx hZ (ww hw 28 rfl) e0 (g := (mkF m 15 #[.val (.ref o0), .val (.int p1), .unset] [(.int p1)])) rfl (hb hby d13_15) rfl (own_pp hp).1 (cap := 16) (own_pp hp).2.1 (by decide) (by decide) (by first | decide | (simp only [room_1]; omega) | omega) (ad := "[I") rfl
  obtain ⟨b1, g1⟩ : ∃ z, z = h0.size := ⟨_, rfl⟩
  rw [← g1] at A1 Q1 st1
  have ne_o0_b1 : o0 ≠ b1 := Nat.ne_of_lt (Nat.lt_of_lt_of_le F0.lt (Nat.le_of_eq g1.symm))
  have g_b1 : n0 ≤ b1 := Nat.le_trans Z0 (Nat.le_of_eq g1.symm)
  have sz_b1 : h0.size ≤ b1 := Nat.le_trans (Keep.refl h0 []).1 (Nat.le_of_eq g1.symm)
  have K1 : Keep h0 h1 [] := (Keep.refl h0 []).ext E1
  have Fa2 : PI Z h1 o0 .int n g := F0.ext E1
  have Z1 : n0 ≤ h1.size := Nat.le_trans Z0 E1.1
  have Fa3 : PI Z h1 b1 .int p1.toNatClampNeg (fun _ => 0) := PI.new A1 (own_pp hp).1 rfl
  refine go (u' := T1.setTop (mkF m 17 #[.val (.ref o0), .val (.int p1), .unset] [(.ref b1)])) st1 ?_
  refine go (u' := T1.setTop (mkF m 18 #[.val (.ref o0), .val (.int p1), .val (.ref b1)] [])) (fun _ ks_ => XS.astoreN X1.here hx rfl (hb hby d13_17) rfl rfl (l' := #[.val (.ref o0), .val (.int p1), .val (.ref b1)]) rfl ks_) ?_
  refine go (u' := T1.setTop (mkF m 19 #[.val (.ref o0), .val (.int p1), .val (.ref b1)] [(.ref o0)])) (fun _ ks_ => XS.aloadN X1.here hx rfl (hb hby d13_18) rfl rfl ks_) ?_
  refine go (u' := T1.setTop (mkF m 20 #[.val (.ref o0), .val (.int p1), .val (.ref b1)] [(.int (0 : Int32)), (.ref o0)])) (fun _ ks_ => XS.iconst X1.here hx rfl (hb hby d13_19) ks_) ?_
  refine go (u' := T1.setTop (mkF m 21 #[.val (.ref o0), .val (.int p1), .val (.ref b1)] [(.ref b1), (.int (0 : Int32)), (.ref o0)])) (fun _ ks_ => XS.aloadN X1.here hx rfl (hb hby d13_20) rfl rfl ks_) ?_
  refine go (u' := T1.setTop (mkF m 22 #[.val (.ref o0), .val (.int p1), .val (.ref b1)] [(.int (0 : Int32)), (.ref b1), (.int (0 : Int32)), (.ref o0)])) (fun _ ks_ => XS.iconst X1.here hx rfl (hb hby d13_21) ks_) ?_
  refine go (u' := T1.setTop (mkF m 23 #[.val (.ref o0), .val (.int p1), .val (.ref b1)] [(.ref o0), (.int (0 : Int32)), (.ref b1), (.int (0 : Int32)), (.ref o0)])) (fun _ ks_ => XS.aloadN X1.here hx rfl (hb hby d13_22) rfl rfl ks_) ?_
  refine go (u' := T1.setTop (mkF m 24 #[.val (.ref o0), .val (.int p1), .val (.ref b1)] [(.int n.toInt32), (.int (0 : Int32)), (.ref b1), (.int (0 : Int32)), (.ref o0)])) (own_alen X1 hx hZ e1 Fa2 (z := n.toInt32) rfl (f := (mkF m 23 #[.val (.ref o0), .val (.int p1), .val (.ref b1)] [(.ref o0), (.int (0 : Int32)), (.ref b1), (.int (0 : Int32)), (.ref o0)])) rfl rfl (hb hby d13_23)) ?_
  refine go (u' := T1.setTop (mkF m 25 #[.val (.ref o0), .val (.int p1), .val (.ref b1)] [(.int p1), (.int n.toInt32), (.int (0 : Int32)), (.ref b1), (.int (0 : Int32)), (.ref o0)])) (fun _ ks_ => XS.iloadN X1.here hx rfl (hb hby d13_24) rfl  ks_) ?_
  obtain ⟨_, _, ⟨T4, L4, k4, n4⟩, -, X4, ⟨Lc4, hQ4, l4, y4, z4⟩, st4⟩ := Jvm.LawKit.callS X1 hx (y := (⟨"java/lang/Math", "min", "(II)I"⟩ : MethodName)) hown (mvT hZ (ww hw 85 rfl)) (mvT hZ (ww hw 86 rfl)) (mvT hZ (ww hw 18 rfl)) (mvT hZ (ww hw 87 rfl)) (by decide) (backOf (W := 4) (rm12 l Z a0 hw [] n.toInt32 p1 h1 n0 Z1) hZ (ww hw 87 rfl) (ww hw 18 rfl) (by decide) (by decide)) (g := (mkF m 25 #[.val (.ref o0), .val (.int p1), .val (.ref b1)] [(.int p1), (.int n.toInt32), (.int (0 : Int32)), (.ref b1), (.int (0 : Int32)), (.ref o0)])) rfl (by rw [hml]; rfl) (argsL := [(.int n.toInt32), (.int p1)]) (rest := [(.int (0 : Int32)), (.ref b1), (.int (0 : Int32)), (.ref o0)]) (lenOf pd__40_II_41_I rfl) rfl (by show 2 * 0 + _ ≤ _; exact Nat.le_of_eq rfl) (hb hby d13_25) (fun _ _ => ⟨rfl, e1, (by decide : 1 + 0 ≤ _), (by show 0 + 16 + 0 ≤ _; first | decide | (simp only [room_1]; omega))⟩)
  dsimp only [Pt.U, Pt.locs, Pt.cells, Pt.slots] at X4 l4 y4 z4 st4 hQ4
  subst l4 y4 z4
  obtain ⟨rfl, N4q, eq4⟩ := hQ4
  have N4 := Fr.app N0 N4q
  rw [show (if p1 < n.toInt32 then p1 else n.toInt32) = n.toInt32 from (own_mnv hp)] at st4
  refine go (u' := T4.setTop (mkF m 28 #[.val (.ref o0), .val (.int p1), .val (.ref b1)] [(.int n.toInt32), (.int (0 : Int32)), (.ref b1), (.int (0 : Int32)), (.ref o0)])) st4 ?_
  have hmin : n.toInt32 = n.toInt32 := rfl
  obtain ⟨T5, h5, L5, X5, e5, N5, Kq5, Fc5, st5⟩ := own_cp2 X4 hx hZ hown (ww hw 88 rfl) (ww hw 91 rfl) (ww hw 89 rfl) (ww hw 90 rfl) eq4 Fa2 Fa3 (nn := n.toInt32) hmin (own_le hp) N4 g_b1 (f := (mkF m 28 #[.val (.ref o0), .val (.int p1), .val (.ref b1)] [(.int n.toInt32), (.int (0 : Int32)), (.ref b1), (.int (0 : Int32)), (.ref o0)])) rfl (by rw [hml]; rfl) rfl (hb hby d13_28) (by decide) (W := 0) (by show 2 * 0 + _ ≤ _; exact Nat.le_of_eq rfl) (by decide)
  have K5 : Keep h0 h5 [] := K1.trans Kq5 (allS (P := fun x => x ∈ [] ∨ h0.size ≤ x) (Or.inr sz_b1) all0)
  have Z5 : n0 ≤ h5.size := Nat.le_trans Z1 Kq5.1
  have Fa6 : PI Z h5 o0 .int n g := Fa2.keep Kq5 (ninS ne_o0_b1 nin0)
  have Fa7 : Exa Z h5 b1 "[I" := Q1.keep Kq5
  refine go (u' := T5.setTop (mkF m 31 #[.val (.ref o0), .val (.int p1), .val (.ref b1)] [])) st5 ?_
  refine go (u' := T5.setTop (mkF m 32 #[.val (.ref o0), .val (.int p1), .val (.ref b1)] [(.ref b1)])) (fun _ ks_ => XS.aloadN X5.here hx rfl (hb hby d13_31) rfl rfl ks_) ?_
  rw [hG]
  refine gA X5 hx hlk hret rfl rfl (hb hby d13_32) ?_ (Nat.le_of_ble_eq_true rfl) (by show 0 + 16 + 0 ≤ _; first | decide | (simp only [room_1]; omega) | omega)
  show Q_rm13 Z o0 p1 n g h0 n0 (some (.ref b1)) T5.heap _
  rw [e5]
  exact ⟨b1, rfl, N5, K5, Fc5, Fa7, sz_b1⟩
theorem pn_java_util_Arrays_copyOf_11 : plainFor (⟨"java/util/Arrays", "copyOf", "([Ljava/lang/Object;ILjava/lang/Class;)[Ljava/lang/Object;"⟩ : MethodName) = true := by first | exact plainFor_of_name (by first | (simp [plainName, overriddenIn]; done) | decide +kernel) | decide +kernel
def Q_rm11 (Z : State) (o0 : Addr) (p1 : Int32) (o2 : Addr) (n : Nat) (g : Nat → Value) (h0 : Heap) (n0 : Nat) (v : Option Value) (h : Heap) (L : List Loc) : Prop := ∃ r : Addr, v = some (.ref r) ∧ Fr n0 L ∧ Keep h0 h [] ∧ (PR Z h r (.object "java/lang/Object") "java/lang/Object" p1.toNatClampNeg (fun i => if i < n then g i else Value.null)) ∧ (Exa Z h r "[Ljava/lang/Object;") ∧ (h0.size ≤ r)
set_option maxRecDepth 65536 in
set_option maxHeartbeats 4000000 in
theorem ef_rm11 (m : MethodId) (o0 : Addr) (p1 : Int32) (o2 : Addr) : entryFrame m #[(.ref o0), (.int p1), (.ref o2)] 4 = mkF m 0 #[.val (.ref o0), .val (.int p1), .val (.ref o2), .unset] [] := by first | (simp [entryFrame, mkF, argsToLocals, Value.category, maxLocals]; done) | rfl
theorem d11_0 : decode jdk_65_method_120_code 0 = .ok (.aload_n 2, 1) := by decide +kernel
theorem d11_1 : decode jdk_65_method_120_code 1 = .ok (.ldc 110, 2) := by decide +kernel
theorem d11_3 : decode jdk_65_method_120_code 3 = .ok (.if_acmp .ne 10, 3) := by decide +kernel
theorem d11_6 : decode jdk_65_method_120_code 6 = .ok (.iload_n 1, 1) := by decide +kernel
theorem d11_7 : decode jdk_65_method_120_code 7 = .ok (.anewarray 2, 3) := by decide +kernel
theorem d11_10 : decode jdk_65_method_120_code 10 = .ok (.goto 14, 3) := by decide +kernel
theorem d11_24 : decode jdk_65_method_120_code 24 = .ok (.astore_n 3, 1) := by decide +kernel
theorem d11_25 : decode jdk_65_method_120_code 25 = .ok (.aload_n 0, 1) := by decide +kernel
theorem d11_26 : decode jdk_65_method_120_code 26 = .ok (.iconst 0, 1) := by decide +kernel
theorem d11_27 : decode jdk_65_method_120_code 27 = .ok (.aload_n 3, 1) := by decide +kernel
theorem d11_28 : decode jdk_65_method_120_code 28 = .ok (.iconst 0, 1) := by decide +kernel
theorem d11_29 : decode jdk_65_method_120_code 29 = .ok (.aload_n 0, 1) := by decide +kernel
theorem d11_30 : decode jdk_65_method_120_code 30 = .ok (.arraylength, 1) := by decide +kernel
theorem d11_31 : decode jdk_65_method_120_code 31 = .ok (.iload_n 1, 1) := by decide +kernel
theorem d11_32 : decode jdk_65_method_120_code 32 = .ok (.invokestatic 304, 3) := by decide +kernel
theorem d11_35 : decode jdk_65_method_120_code 35 = .ok (.invokestatic 150, 3) := by decide +kernel
theorem d11_38 : decode jdk_65_method_120_code 38 = .ok (.aload_n 3, 1) := by decide +kernel
theorem d11_39 : decode jdk_65_method_120_code 39 = .ok (.areturn, 1) := by decide +kernel
set_option maxRecDepth 65536 in
set_option maxHeartbeats 40000000 in
theorem rm11 (l : Launch) (Z : State) (a0 : Array Value) (hw : ∀ d ∈ tables_1, d.before a0 Z = true) (ws : List Jvm.Cond) (o0 : Addr) (p1 : Int32) (o2 : Addr) (n : Nat) (g : Nat → Value) (h0 : Heap) (n0 : Nat) (Z0 : n0 ≤ h0.size) (F0 : PR Z h0 o0 (.object "java/lang/Object") "java/lang/Object" n g) (hp : (n : Int) < p1.toInt ∧ p1.toInt ≤ 16) (hV : ∀ i, i < n → OKs Z h0 "java/lang/Object" (g i)) (hM : Mr Z "[Ljava/lang/Object;" o2) :
    MetFree l (⟨"java/util/Arrays", "copyOf", "([Ljava/lang/Object;ILjava/lang/Class;)[Ljava/lang/Object;"⟩ : MethodName) (head1 (Jvm.Cond.code (⟨"java/util/Arrays", "copyOf", "([Ljava/lang/Object;ILjava/lang/Class;)[Ljava/lang/Object;"⟩ : MethodName) jdk_65_method_120_code 4 (some (.array (.object "java/lang/Object"))) :: ws) ({ frames := 1, cells := 1, slots := 16, locals := 40 } : Room)) (fun a U => a = #[(.ref o0), (.int p1), (.ref o2)] ∧ Z.Warmed39 U.vm ∧ U.heap = h0) (fun _ _ _ _ _ => True) (fun _ U o U' => ∃ v L, o = .returned v ∧ Q_rm11 Z o0 p1 o2 n g h0 n0 v U'.heap L ∧ FrameEnd U o U' L ({ frames := 1, cells := 1, slots := 16, locals := 40 } : Room).cells ({ frames := 1, cells := 1, slots := 16, locals := 40 } : Room).slots) := by
  refine body pn_java_util_Arrays_copyOf_11 ?_
  intro p e s m below meth c s₁ hx hby hml hown hnm hret hlk hZ e0 X0
  replace hml : c.maxLocals = 4 := hml
  replace hown : s.vm.findClass "java/util/Arrays" = some m.cls := hown
  replace hnm : meth.name = "copyOf" := hnm
  replace hret : meth.sig.returnType = (some (.array (.object "java/lang/Object"))) := hret
  have N0 := Fr.nil n0
  rw [ef_rm11]
  obtain ⟨G, hG⟩ : ∃ G, G = End (Q_rm11 Z o0 p1 o2 n g h0 n0) s ({ frames := 1, cells := 1, slots := 16, locals := 40 } : Room).cells ({ frames := 1, cells := 1, slots := 16, locals := 40 } : Room).slots := ⟨_, rfl⟩
  rw [← hG]
  refine go (u' := s₁.setTop (mkF m 1 #[.val (.ref o0), .val (.int p1), .val (.ref o2), .unset] [(.ref o2)])) (fun _ ks_ => XS.aloadN X0.here hx rfl (hb hby d11_0) rfl rfl ks_) ?_
  obtain ⟨T1, X1, e1, st1⟩ := own_ldcM X0 hx hZ hown (ww hw 83 rfl) e0 hM (f := (mkF m 1 #[.val (.ref o0), .val (.int p1), .val (.ref o2), .unset] [(.ref o2)])) rfl (hb hby d11_1)
  refine go (u' := T1.setTop (mkF m 3 #[.val (.ref o0), .val (.int p1), .val (.ref o2), .unset] [(.ref o2), (.ref o2)])) st1 ?_
  refine go (u' := T1.setTop (mkF m 6 #[.val (.ref o0), .val (.int p1), .val (.ref o2), .unset] [])) (fun _ ks_ => Jvm.RoadKit.acmp (g := (mkF m 3 #[.val (.ref o0), .val (.int p1), .val (.ref o2), .unset] [(.ref o2), (.ref o2)])) X1 hx rfl rfl rfl (pc0 := 3) (pc' := 6) (same := true) rfl (hb hby d11_3) rfl (decide_eq_true rfl) (by decide) (by decide) ks_) ?_
  refine go (u' := T1.setTop (mkF m 7 #[.val (.ref o0), .val (.int p1), .val (.ref o2), .unset] [(.int p1)])) (fun _ ks_ => XS.iloadN X1.here hx rfl (hb hby d11_6) rfl  ks_) ?_
  obtain ⟨T2, h2, k2, X2, e2, E2, A2, Q2, O2, st2⟩ := newRE X1 hx hZ hown (ww hw 84 rfl) (ww hw 11 rfl) e1 (g := (mkF m 7 #[.val (.ref o0), .val (.int p1), .val (.ref o2), .unset] [(.int p1)])) rfl (hb hby d11_7) rfl (own_pp hp).1 (cap := 16) (own_pp hp).2.1 (by decide) (by decide) (by first | decide | (simp only [room_1]; omega) | omega) (ad := "[Ljava/lang/Object;") rfl
  obtain ⟨b2, g2⟩ : ∃ z, z = h0.size := ⟨_, rfl⟩
  rw [← g2] at A2 Q2 st2
  have ne_o0_b2 : o0 ≠ b2 := Nat.ne_of_lt (Nat.lt_of_lt_of_le F0.lt (Nat.le_of_eq g2.symm))
  have g_b2 : n0 ≤ b2 := Nat.le_trans Z0 (Nat.le_of_eq g2.symm)
  have sz_b2 : h0.size ≤ b2 := Nat.le_trans (Keep.refl h0 []).1 (Nat.le_of_eq g2.symm)
  have K2 : Keep h0 h2 [] := (Keep.refl h0 []).ext E2
  have Fa3 : PR Z h2 o0 (.object "java/lang/Object") "java/lang/Object" n g := F0.ext E2
  have Z2 : n0 ≤ h2.size := Nat.le_trans Z0 E2.1
  have Fa4 : PR Z h2 b2 (.object "java/lang/Object") "java/lang/Object" p1.toNatClampNeg (fun _ => Value.null) := PR.new A2 O2 (own_pp hp).1
  refine go (u' := T2.setTop (mkF m 10 #[.val (.ref o0), .val (.int p1), .val (.ref o2), .unset] [(.ref b2)])) st2 ?_
  refine go (u' := T2.setTop (mkF m 24 #[.val (.ref o0), .val (.int p1), .val (.ref o2), .unset] [(.ref b2)])) (fun _ ks_ => XS.goto X2.here hx rfl (pc0 := 10) (pc' := 24) rfl (hb hby d11_10) (by decide) (by decide) ks_) ?_
  refine go (u' := T2.setTop (mkF m 25 #[.val (.ref o0), .val (.int p1), .val (.ref o2), .val (.ref b2)] [])) (fun _ ks_ => XS.astoreN X2.here hx rfl (hb hby d11_24) rfl rfl (l' := #[.val (.ref o0), .val (.int p1), .val (.ref o2), .val (.ref b2)]) rfl ks_) ?_
  refine go (u' := T2.setTop (mkF m 26 #[.val (.ref o0), .val (.int p1), .val (.ref o2), .val (.ref b2)] [(.ref o0)])) (fun _ ks_ => XS.aloadN X2.here hx rfl (hb hby d11_25) rfl rfl ks_) ?_
  refine go (u' := T2.setTop (mkF m 27 #[.val (.ref o0), .val (.int p1), .val (.ref o2), .val (.ref b2)] [(.int (0 : Int32)), (.ref o0)])) (fun _ ks_ => XS.iconst X2.here hx rfl (hb hby d11_26) ks_) ?_
  refine go (u' := T2.setTop (mkF m 28 #[.val (.ref o0), .val (.int p1), .val (.ref o2), .val (.ref b2)] [(.ref b2), (.int (0 : Int32)), (.ref o0)])) (fun _ ks_ => XS.aloadN X2.here hx rfl (hb hby d11_27) rfl rfl ks_) ?_
  refine go (u' := T2.setTop (mkF m 29 #[.val (.ref o0), .val (.int p1), .val (.ref o2), .val (.ref b2)] [(.int (0 : Int32)), (.ref b2), (.int (0 : Int32)), (.ref o0)])) (fun _ ks_ => XS.iconst X2.here hx rfl (hb hby d11_28) ks_) ?_
  refine go (u' := T2.setTop (mkF m 30 #[.val (.ref o0), .val (.int p1), .val (.ref o2), .val (.ref b2)] [(.ref o0), (.int (0 : Int32)), (.ref b2), (.int (0 : Int32)), (.ref o0)])) (fun _ ks_ => XS.aloadN X2.here hx rfl (hb hby d11_29) rfl rfl ks_) ?_
  refine go (u' := T2.setTop (mkF m 31 #[.val (.ref o0), .val (.int p1), .val (.ref o2), .val (.ref b2)] [(.int (n).toInt32), (.int (0 : Int32)), (.ref b2), (.int (0 : Int32)), (.ref o0)])) (own_alenR X2 hx hZ e2 Fa3 (z := (n).toInt32) rfl (f := (mkF m 30 #[.val (.ref o0), .val (.int p1), .val (.ref o2), .val (.ref b2)] [(.ref o0), (.int (0 : Int32)), (.ref b2), (.int (0 : Int32)), (.ref o0)])) rfl rfl (hb hby d11_30)) ?_
  refine go (u' := T2.setTop (mkF m 32 #[.val (.ref o0), .val (.int p1), .val (.ref o2), .val (.ref b2)] [(.int p1), (.int (n).toInt32), (.int (0 : Int32)), (.ref b2), (.int (0 : Int32)), (.ref o0)])) (fun _ ks_ => XS.iloadN X2.here hx rfl (hb hby d11_31) rfl  ks_) ?_
  obtain ⟨_, _, ⟨T5, L5, k5, n5⟩, -, X5, ⟨Lc5, hQ5, l5, y5, z5⟩, st5⟩ := Jvm.LawKit.callS X2 hx (y := (⟨"java/lang/Math", "min", "(II)I"⟩ : MethodName)) hown (mvT hZ (ww hw 85 rfl)) (mvT hZ (ww hw 86 rfl)) (mvT hZ (ww hw 18 rfl)) (mvT hZ (ww hw 87 rfl)) (by decide) (backOf (W := 4) (rm12 l Z a0 hw [] (n).toInt32 p1 h2 n0 Z2) hZ (ww hw 87 rfl) (ww hw 18 rfl) (by decide) (by decide)) (g := (mkF m 32 #[.val (.ref o0), .val (.int p1), .val (.ref o2), .val (.ref b2)] [(.int p1), (.int (n).toInt32), (.int (0 : Int32)), (.ref b2), (.int (0 : Int32)), (.ref o0)])) rfl (by rw [hml]; rfl) (argsL := [(.int (n).toInt32), (.int p1)]) (rest := [(.int (0 : Int32)), (.ref b2), (.int (0 : Int32)), (.ref o0)]) (lenOf pd__40_II_41_I rfl) rfl (by show 2 * 0 + _ ≤ _; exact Nat.le_of_eq rfl) (hb hby d11_32) (fun _ _ => ⟨rfl, e2, (by decide : 1 + 0 ≤ _), (by show 0 + 16 + 0 ≤ _; first | decide | (simp only [room_1]; omega))⟩)
  dsimp only [Pt.U, Pt.locs, Pt.cells, Pt.slots] at X5 l5 y5 z5 st5 hQ5
  subst l5 y5 z5
  obtain ⟨rfl, N5q, eq5⟩ := hQ5
  have N5 := Fr.app N0 N5q
  rw [show (if p1 < (n).toInt32 then p1 else (n).toInt32) = n.toInt32 from (own_mnv hp)] at st5
  refine go (u' := T5.setTop (mkF m 35 #[.val (.ref o0), .val (.int p1), .val (.ref o2), .val (.ref b2)] [(.int n.toInt32), (.int (0 : Int32)), (.ref b2), (.int (0 : Int32)), (.ref o0)])) st5 ?_
  have hmin : n.toInt32 = n.toInt32 := rfl
  have hV' : ∀ i, i < n → OKs Z h2 "java/lang/Object" (g i) := fun i hi => (hV i hi).keep K2
  obtain ⟨T6, h6, L6, X6, e6, N6, Kq6, Fc6, st6⟩ := own_cpR X5 hx hZ hown (ww hw 88 rfl) (ww hw 91 rfl) (ww hw 89 rfl) (ww hw 90 rfl) eq5 Fa3 hV' Fa4 (fun _ _ => Or.inl rfl) (nn := n.toInt32) hmin (own_le hp) N5 g_b2 (f := (mkF m 35 #[.val (.ref o0), .val (.int p1), .val (.ref o2), .val (.ref b2)] [(.int n.toInt32), (.int (0 : Int32)), (.ref b2), (.int (0 : Int32)), (.ref o0)])) rfl (by rw [hml]; rfl) rfl (hb hby d11_35) (by decide) (W := 0) (by show 2 * 0 + _ ≤ _; exact Nat.le_of_eq rfl) (by decide)
  have K6 : Keep h0 h6 [] := K2.trans Kq6 (allS (P := fun x => x ∈ [] ∨ h0.size ≤ x) (Or.inr sz_b2) all0)
  have Z6 : n0 ≤ h6.size := Nat.le_trans Z2 Kq6.1
  have Fa7 : PR Z h6 o0 (.object "java/lang/Object") "java/lang/Object" n g := Fa3.keep Kq6 (ninS ne_o0_b2 nin0)
  have Fa8 : Exa Z h6 b2 "[Ljava/lang/Object;" := Q2.keep Kq6
  refine go (u' := T6.setTop (mkF m 38 #[.val (.ref o0), .val (.int p1), .val (.ref o2), .val (.ref b2)] [])) st6 ?_
  refine go (u' := T6.setTop (mkF m 39 #[.val (.ref o0), .val (.int p1), .val (.ref o2), .val (.ref b2)] [(.ref b2)])) (fun _ ks_ => XS.aloadN X6.here hx rfl (hb hby d11_38) rfl rfl ks_) ?_
  rw [hG]
  refine gA X6 hx hlk hret rfl rfl (hb hby d11_39) ?_ (Nat.le_of_ble_eq_true rfl) (by show 0 + 16 + 0 ≤ _; first | decide | (simp only [room_1]; omega) | omega)
  show Q_rm11 Z o0 p1 o2 n g h0 n0 (some (.ref b2)) T6.heap _
  rw [e6]
  exact ⟨b2, rfl, N6, K6, Fc6, Fa8, sz_b2⟩
theorem pd__40__91_Ljava_47_lang_47_Object_59_ILjava_47_lang_47_Class_59__41__91_Ljava_47_lang_47_Object_59_ : parseMethodDescriptor "([Ljava/lang/Object;ILjava/lang/Class;)[Ljava/lang/Object;" = some ⟨[(.array (.object "java/lang/Object")), .int, (.object "java/lang/Class")], some (.array (.object "java/lang/Object"))⟩ := by decide +kernel
theorem pn_java_util_Arrays_copyOf_10 : plainFor (⟨"java/util/Arrays", "copyOf", "([Ljava/lang/Object;I)[Ljava/lang/Object;"⟩ : MethodName) = true := by first | exact plainFor_of_name (by first | (simp [plainName, overriddenIn]; done) | decide +kernel) | decide +kernel
def Q_rm10 (Z : State) (o0 : Addr) (p1 : Int32) (mr : Addr) (n : Nat) (g : Nat → Value) (h0 : Heap) (n0 : Nat) (v : Option Value) (h : Heap) (L : List Loc) : Prop := ∃ r : Addr, v = some (.ref r) ∧ Fr n0 L ∧ Keep h0 h [] ∧ (PR Z h r (.object "java/lang/Object") "java/lang/Object" p1.toNatClampNeg (fun i => if i < n then g i else Value.null)) ∧ (Exa Z h r "[Ljava/lang/Object;") ∧ (h0.size ≤ r)
set_option maxRecDepth 65536 in
set_option maxHeartbeats 4000000 in
theorem ef_rm10 (m : MethodId) (o0 : Addr) (p1 : Int32) : entryFrame m #[(.ref o0), (.int p1)] 2 = mkF m 0 #[.val (.ref o0), .val (.int p1)] [] := by first | (simp [entryFrame, mkF, argsToLocals, Value.category, maxLocals]; done) | rfl
theorem d10_0 : decode jdk_65_method_119_code 0 = .ok (.aload_n 0, 1) := by decide +kernel
theorem d10_1 : decode jdk_65_method_119_code 1 = .ok (.iload_n 1, 1) := by decide +kernel
theorem d10_2 : decode jdk_65_method_119_code 2 = .ok (.aload_n 0, 1) := by decide +kernel
theorem d10_3 : decode jdk_65_method_119_code 3 = .ok (.invokevirtual 86, 3) := by decide +kernel
theorem d10_6 : decode jdk_65_method_119_code 6 = .ok (.invokestatic 300, 3) := by decide +kernel
theorem d10_9 : decode jdk_65_method_119_code 9 = .ok (.areturn, 1) := by decide +kernel
set_option maxRecDepth 65536 in
set_option maxHeartbeats 40000000 in
theorem rm10 (l : Launch) (Z : State) (a0 : Array Value) (hw : ∀ d ∈ tables_1, d.before a0 Z = true) (ws : List Jvm.Cond) (o0 : Addr) (p1 : Int32) (mr : Addr) (n : Nat) (g : Nat → Value) (h0 : Heap) (n0 : Nat) (Z0 : n0 ≤ h0.size) (F0 : PR Z h0 o0 (.object "java/lang/Object") "java/lang/Object" n g) (F1 : Exa Z h0 o0 "[Ljava/lang/Object;") (hp : (n : Int) < p1.toInt ∧ p1.toInt ≤ 16) (hV : ∀ i, i < n → OKs Z h0 "java/lang/Object" (g i)) (hM : Mr Z "[Ljava/lang/Object;" mr) :
    MetFree l (⟨"java/util/Arrays", "copyOf", "([Ljava/lang/Object;I)[Ljava/lang/Object;"⟩ : MethodName) (head1 (Jvm.Cond.code (⟨"java/util/Arrays", "copyOf", "([Ljava/lang/Object;I)[Ljava/lang/Object;"⟩ : MethodName) jdk_65_method_119_code 2 (some (.array (.object "java/lang/Object"))) :: ws) ({ frames := 2, cells := 1, slots := 16, locals := 55 } : Room)) (fun a U => a = #[(.ref o0), (.int p1)] ∧ Z.Warmed39 U.vm ∧ U.heap = h0) (fun _ _ _ _ _ => True) (fun _ U o U' => ∃ v L, o = .returned v ∧ Q_rm10 Z o0 p1 mr n g h0 n0 v U'.heap L ∧ FrameEnd U o U' L ({ frames := 2, cells := 1, slots := 16, locals := 55 } : Room).cells ({ frames := 2, cells := 1, slots := 16, locals := 55 } : Room).slots) := by
  refine body pn_java_util_Arrays_copyOf_10 ?_
  intro p e s m below meth c s₁ hx hby hml hown hnm hret hlk hZ e0 X0
  replace hml : c.maxLocals = 2 := hml
  replace hown : s.vm.findClass "java/util/Arrays" = some m.cls := hown
  replace hnm : meth.name = "copyOf" := hnm
  replace hret : meth.sig.returnType = (some (.array (.object "java/lang/Object"))) := hret
  have N0 := Fr.nil n0
  rw [ef_rm10]
  obtain ⟨G, hG⟩ : ∃ G, G = End (Q_rm10 Z o0 p1 mr n g h0 n0) s ({ frames := 2, cells := 1, slots := 16, locals := 55 } : Room).cells ({ frames := 2, cells := 1, slots := 16, locals := 55 } : Room).slots := ⟨_, rfl⟩
  rw [← hG]
  refine go (u' := s₁.setTop (mkF m 1 #[.val (.ref o0), .val (.int p1)] [(.ref o0)])) (fun _ ks_ => XS.aloadN X0.here hx rfl (hb hby d10_0) rfl rfl ks_) ?_
  refine go (u' := s₁.setTop (mkF m 2 #[.val (.ref o0), .val (.int p1)] [(.int p1), (.ref o0)])) (fun _ ks_ => XS.iloadN X0.here hx rfl (hb hby d10_1) rfl  ks_) ?_
  refine go (u' := s₁.setTop (mkF m 3 #[.val (.ref o0), .val (.int p1)] [(.ref o0), (.int p1), (.ref o0)])) (fun _ ks_ => XS.aloadN X0.here hx rfl (hb hby d10_2) rfl rfl ks_) ?_
  obtain ⟨T1, X1, e1, st1⟩ := own_gcls X0 hx hZ hown (ww hw 74 rfl) (ww hw 75 rfl) (ww hw 77 rfl) (ww hw 76 rfl) (ww hw 78 rfl) e0 F1 hM (f := (mkF m 3 #[.val (.ref o0), .val (.int p1)] [(.ref o0), (.int p1), (.ref o0)])) rfl (by rw [hml]; rfl) rfl (hb hby d10_3) (by decide) (W := 2) (by show 2 * 0 + _ ≤ _; exact Nat.le_of_eq rfl) (by decide)
  refine go (u' := T1.setTop (mkF m 6 #[.val (.ref o0), .val (.int p1)] [(.ref mr), (.int p1), (.ref o0)])) st1 ?_
  obtain ⟨_, _, ⟨T2, L2, k2, n2⟩, -, X2, ⟨Lc2, hQ2, l2, y2, z2⟩, st2⟩ := Jvm.LawKit.callS X1 hx (y := (⟨"java/util/Arrays", "copyOf", "([Ljava/lang/Object;ILjava/lang/Class;)[Ljava/lang/Object;"⟩ : MethodName)) hown (mvT hZ (ww hw 80 rfl)) (mvT hZ (ww hw 81 rfl)) (mvT hZ (ww hw 72 rfl)) (mvT hZ (ww hw 82 rfl)) (by decide) (backOf (W := 0) (rm11 l Z a0 hw [] o0 p1 mr n g h0 n0 Z0 F0 hp hV hM) hZ (ww hw 82 rfl) (ww hw 72 rfl) (by decide) (by decide)) (g := (mkF m 6 #[.val (.ref o0), .val (.int p1)] [(.ref mr), (.int p1), (.ref o0)])) rfl (by rw [hml]; rfl) (argsL := [(.ref o0), (.int p1), (.ref mr)]) (rest := []) (lenOf pd__40__91_Ljava_47_lang_47_Object_59_ILjava_47_lang_47_Class_59__41__91_Ljava_47_lang_47_Object_59_ rfl) rfl (by show 2 * 0 + _ ≤ _; exact Nat.le_of_eq rfl) (hb hby d10_6) (fun _ _ => ⟨rfl, e1, (by decide : 0 + 1 ≤ _), (by decide : 0 + 16 ≤ _)⟩)
  dsimp only [Pt.U, Pt.locs, Pt.cells, Pt.slots] at X2 l2 y2 z2 st2 hQ2
  subst l2 y2 z2
  obtain ⟨r2, rfl, N2q, Kq2, Fa3, Fa4, gr_2⟩ := hQ2
  have N2 := Fr.app N0 N2q
  have K2 : Keep h0 T2.heap [] := (Keep.refl h0 []).trans Kq2 all0
  have Z2 : n0 ≤ T2.heap.size := Nat.le_trans Z0 Kq2.1
  have Fa5 : PR Z T2.heap o0 (.object "java/lang/Object") "java/lang/Object" n g := F0.keep Kq2 nin0
  have Fa6 : Exa Z T2.heap o0 "[Ljava/lang/Object;" := F1.keep Kq2
  have ne_o0_r2 : o0 ≠ r2 := Nat.ne_of_lt (Nat.lt_of_lt_of_le F0.lt gr_2)
  have g_r2 : n0 ≤ r2 := Nat.le_trans Z0 gr_2
  have sz_r2 : h0.size ≤ r2 := Nat.le_trans (Keep.refl h0 []).1 gr_2
  refine go (u' := T2.setTop (mkF m 9 #[.val (.ref o0), .val (.int p1)] [(.ref r2)])) st2 ?_
  rw [hG]
  refine gA X2 hx hlk hret rfl rfl (hb hby d10_9) ?_ (Nat.le_of_ble_eq_true rfl) (Nat.le_of_ble_eq_true rfl)
  show Q_rm10 Z o0 p1 mr n g h0 n0 (some (.ref r2)) T2.heap _
  exact ⟨r2, rfl, N2, K2, Fa3, Fa4, sz_r2⟩
theorem pn_com_example_emberlot_emberlot_Slots_set_14 : plainFor (⟨"com/example/emberlot/emberlot/Slots", "set", "(III)V"⟩ : MethodName) = true := by first | exact plainFor_of_name (by first | (simp [plainName, overriddenIn]; done) | decide +kernel) | decide +kernel
def Q_rm14 (Z : State) (o0 : Addr) (p2 : Int32) (p3 : Int32) (na : Addr) (pa : Addr) (xa : Addr) (ca : Addr) (af : Nat → Addr) (f : Nat) (nn : Nat) (ln : Nat → Nat) (nd : Nat → Value) (gs : Nat → Nat → Int32) (E : Int32) (fr : Int32) (tk : Int32) (h0 : Heap) (n0 : Nat) (v : Option Value) (h : Heap) (L : List Loc) : Prop := v = none ∧ Fr n0 L ∧ Keep h0 h (Wl o0 na pa xa ca af f) ∧ (Exa Z h o0 "com/example/emberlot/emberlot/Slots") ∧ (Fld Z h o0 "com/example/emberlot/emberlot/Slots" "expected" "I" (.int E)) ∧ (Fld Z h o0 "com/example/emberlot/emberlot/Slots" "nodes" "[Ljava/lang/Object;" (.ref na)) ∧ (Fld Z h o0 "com/example/emberlot/emberlot/Slots" "previous" "[[I" (.ref pa)) ∧ (Fld Z h o0 "com/example/emberlot/emberlot/Slots" "next" "[[I" (.ref xa)) ∧ (Fld Z h o0 "com/example/emberlot/emberlot/Slots" "columns" "[[I" (.ref ca)) ∧ (Fld Z h o0 "com/example/emberlot/emberlot/Slots" "free" "I" (.int fr)) ∧ (Fld Z h o0 "com/example/emberlot/emberlot/Slots" "taken" "I" (.int tk)) ∧ (SlA Z h n0 o0 na pa xa ca af f nn ln nd (upd gs 0 (upd (gs 0) (p2).toNatClampNeg p3)))
set_option maxRecDepth 65536 in
set_option maxHeartbeats 4000000 in
theorem ef_rm14 (m : MethodId) (o0 : Addr) (p2 : Int32) (p3 : Int32) : entryFrame m #[(.ref o0), (.int (0 : Int32)), (.int p2), (.int p3)] 4 = mkF m 0 #[.val (.ref o0), .val (.int (0 : Int32)), .val (.int p2), .val (.int p3)] [] := by first | (simp [entryFrame, mkF, argsToLocals, Value.category, maxLocals]; done) | rfl
theorem d14_0 : decode prog_50_method_10_code 0 = .ok (.aload_n 0, 1) := by decide +kernel
theorem d14_1 : decode prog_50_method_10_code 1 = .ok (.getfield 41, 3) := by decide +kernel
theorem d14_4 : decode prog_50_method_10_code 4 = .ok (.iload_n 1, 1) := by decide +kernel
theorem d14_5 : decode prog_50_method_10_code 5 = .ok (.aaload, 1) := by decide +kernel
theorem d14_6 : decode prog_50_method_10_code 6 = .ok (.iload_n 2, 1) := by decide +kernel
theorem d14_7 : decode prog_50_method_10_code 7 = .ok (.iload_n 3, 1) := by decide +kernel
theorem d14_8 : decode prog_50_method_10_code 8 = .ok (.iastore, 1) := by decide +kernel
theorem d14_9 : decode prog_50_method_10_code 9 = .ok (.return_, 1) := by decide +kernel
set_option maxRecDepth 65536 in
set_option maxHeartbeats 40000000 in
theorem rm14 (l : Launch) (Z : State) (a0 : Array Value) (hw : ∀ d ∈ tables_1, d.before a0 Z = true) (ws : List Jvm.Cond) (o0 : Addr) (p2 : Int32) (p3 : Int32) (na : Addr) (pa : Addr) (xa : Addr) (ca : Addr) (af : Nat → Addr) (f : Nat) (nn : Nat) (ln : Nat → Nat) (nd : Nat → Value) (gs : Nat → Nat → Int32) (E : Int32) (fr : Int32) (tk : Int32) (h0 : Heap) (n0 : Nat) (Z0 : n0 ≤ h0.size) (F0 : Exa Z h0 o0 "com/example/emberlot/emberlot/Slots") (F1 : Fld Z h0 o0 "com/example/emberlot/emberlot/Slots" "expected" "I" (.int E)) (F2 : Fld Z h0 o0 "com/example/emberlot/emberlot/Slots" "nodes" "[Ljava/lang/Object;" (.ref na)) (F3 : Fld Z h0 o0 "com/example/emberlot/emberlot/Slots" "previous" "[[I" (.ref pa)) (F4 : Fld Z h0 o0 "com/example/emberlot/emberlot/Slots" "next" "[[I" (.ref xa)) (F5 : Fld Z h0 o0 "com/example/emberlot/emberlot/Slots" "columns" "[[I" (.ref ca)) (F6 : Fld Z h0 o0 "com/example/emberlot/emberlot/Slots" "free" "I" (.int fr)) (F7 : Fld Z h0 o0 "com/example/emberlot/emberlot/Slots" "taken" "I" (.int tk)) (F8 : SlA Z h0 n0 o0 na pa xa ca af f nn ln nd gs) (hln : ∀ q, q < 1 + 2 * f → ln q = nn) (hj : ¬ p2 < 0 ∧ p2.toNatClampNeg < nn) :
    MetFree l (⟨"com/example/emberlot/emberlot/Slots", "set", "(III)V"⟩ : MethodName) (head1 (Jvm.Cond.code (⟨"com/example/emberlot/emberlot/Slots", "set", "(III)V"⟩ : MethodName) prog_50_method_10_code 4 none :: ws) ({ frames := 0, cells := 0, slots := 0, locals := 0 } : Room)) (fun a U => a = #[(.ref o0), (.int (0 : Int32)), (.int p2), (.int p3)] ∧ Z.Warmed39 U.vm ∧ U.heap = h0) (fun _ _ _ _ _ => True) (fun _ U o U' => ∃ v L, o = .returned v ∧ Q_rm14 Z o0 p2 p3 na pa xa ca af f nn ln nd gs E fr tk h0 n0 v U'.heap L ∧ FrameEnd U o U' L ({ frames := 0, cells := 0, slots := 0, locals := 0 } : Room).cells ({ frames := 0, cells := 0, slots := 0, locals := 0 } : Room).slots) := by
  refine body pn_com_example_emberlot_emberlot_Slots_set_14 ?_
  intro p e s m below meth c s₁ hx hby hml hown hnm hret hlk hZ e0 X0
  replace hml : c.maxLocals = 4 := hml
  replace hown : s.vm.findClass "com/example/emberlot/emberlot/Slots" = some m.cls := hown
  replace hnm : meth.name = "set" := hnm
  replace hret : meth.sig.returnType = none := hret
  have N0 := Fr.nil n0
  rw [ef_rm14]
  obtain ⟨G, hG⟩ : ∃ G, G = End (Q_rm14 Z o0 p2 p3 na pa xa ca af f nn ln nd gs E fr tk h0 n0) s ({ frames := 0, cells := 0, slots := 0, locals := 0 } : Room).cells ({ frames := 0, cells := 0, slots := 0, locals := 0 } : Room).slots := ⟨_, rfl⟩
  rw [← hG]
  have sb0 : SubA h0.size o0 na pa xa ca af f na af := SubA.refl _
  refine go (u' := s₁.setTop (mkF m 1 #[.val (.ref o0), .val (.int (0 : Int32)), .val (.int p2), .val (.int p3)] [(.ref o0)])) (fun _ ks_ => XS.aloadN X0.here hx rfl (hb hby d14_0) rfl rfl ks_) ?_
  obtain ⟨T1, X1, e1, st1⟩ := getF X0 hx hZ hown (host := "") (Or.inl (ww hw 33 rfl)) Via.refl e0 F5 (g := (mkF m 1 #[.val (.ref o0), .val (.int (0 : Int32)), .val (.int p2), .val (.int p3)] [(.ref o0)])) rfl rfl (hb hby d14_1)
  refine go (u' := T1.setTop (mkF m 4 #[.val (.ref o0), .val (.int (0 : Int32)), .val (.int p2), .val (.int p3)] [(.ref ca)])) st1 ?_
  refine go (u' := T1.setTop (mkF m 5 #[.val (.ref o0), .val (.int (0 : Int32)), .val (.int p2), .val (.int p3)] [(.int (0 : Int32)), (.ref ca)])) (fun _ ks_ => XS.iloadN X1.here hx rfl (hb hby d14_4) rfl  ks_) ?_
  refine go (u' := T1.setTop (mkF m 6 #[.val (.ref o0), .val (.int (0 : Int32)), .val (.int p2), .val (.int p3)] [(.ref (af 0))])) (own_aaload X1 hx hZ e1 F8.cols rfl (j := (0 : Int32)) (v := (.ref (af 0))) (by decide) (by decide) rfl (f := (mkF m 5 #[.val (.ref o0), .val (.int (0 : Int32)), .val (.int p2), .val (.int p3)] [(.int (0 : Int32)), (.ref ca)])) rfl rfl (hb hby d14_5)) ?_
  refine go (u' := T1.setTop (mkF m 7 #[.val (.ref o0), .val (.int (0 : Int32)), .val (.int p2), .val (.int p3)] [(.int p2), (.ref (af 0))])) (fun _ ks_ => XS.iloadN X1.here hx rfl (hb hby d14_6) rfl  ks_) ?_
  refine go (u' := T1.setTop (mkF m 8 #[.val (.ref o0), .val (.int (0 : Int32)), .val (.int p2), .val (.int p3)] [(.int p3), (.int p2), (.ref (af 0))])) (fun _ ks_ => XS.iloadN X1.here hx rfl (hb hby d14_7) rfl  ks_) ?_
  obtain ⟨T2, h2, X2, e2, W2, st2⟩ := own_iastore X1 hx hZ e1 (F8.ints 0 (own_q0 F8.hf.1)) (j := p2) (x := p3) hj.1 (own_lnlt hln (own_q0 F8.hf.1) hj.2) (f := (mkF m 8 #[.val (.ref o0), .val (.int (0 : Int32)), .val (.int p2), .val (.int p3)] [(.int p3), (.int p2), (.ref (af 0))])) rfl rfl (hb hby d14_8)
  have N2 := Fr.snoc X2 N0 (F8.lo (0 + 5) (own_q5 (own_q0 F8.hf.1)))
  have K2 : Keep h0 h2 (Wl o0 na pa xa ca af f) := (Keep.refl h0 (Wl o0 na pa xa ca af f)).wr W2 (sb0 (0 + 5) (own_q5 (own_q0 F8.hf.1)))
  have Z2 : n0 ≤ h2.size := Nat.le_trans Z0 (Keep.of_wr W2).1
  have Fa3 : Exa Z h2 o0 "com/example/emberlot/emberlot/Slots" := F0.wr W2
  have Fa4 : Fld Z h2 o0 "com/example/emberlot/emberlot/Slots" "expected" "I" (.int E) := F1.other W2 (Or.inl (F8.inj 0 (0 + 5) (own_a5 (by decide)) (own_q5 (own_q0 F8.hf.1)) (own_ne5 (by decide))))
  have Fa5 : Fld Z h2 o0 "com/example/emberlot/emberlot/Slots" "nodes" "[Ljava/lang/Object;" (.ref na) := F2.other W2 (Or.inl (F8.inj 0 (0 + 5) (own_a5 (by decide)) (own_q5 (own_q0 F8.hf.1)) (own_ne5 (by decide))))
  have Fa6 : Fld Z h2 o0 "com/example/emberlot/emberlot/Slots" "previous" "[[I" (.ref pa) := F3.other W2 (Or.inl (F8.inj 0 (0 + 5) (own_a5 (by decide)) (own_q5 (own_q0 F8.hf.1)) (own_ne5 (by decide))))
  have Fa7 : Fld Z h2 o0 "com/example/emberlot/emberlot/Slots" "next" "[[I" (.ref xa) := F4.other W2 (Or.inl (F8.inj 0 (0 + 5) (own_a5 (by decide)) (own_q5 (own_q0 F8.hf.1)) (own_ne5 (by decide))))
  have Fa8 : Fld Z h2 o0 "com/example/emberlot/emberlot/Slots" "columns" "[[I" (.ref ca) := F5.other W2 (Or.inl (F8.inj 0 (0 + 5) (own_a5 (by decide)) (own_q5 (own_q0 F8.hf.1)) (own_ne5 (by decide))))
  have Fa9 : Fld Z h2 o0 "com/example/emberlot/emberlot/Slots" "free" "I" (.int fr) := F6.other W2 (Or.inl (F8.inj 0 (0 + 5) (own_a5 (by decide)) (own_q5 (own_q0 F8.hf.1)) (own_ne5 (by decide))))
  have Fa10 : Fld Z h2 o0 "com/example/emberlot/emberlot/Slots" "taken" "I" (.int tk) := F7.other W2 (Or.inl (F8.inj 0 (0 + 5) (own_a5 (by decide)) (own_q5 (own_q0 F8.hf.1)) (own_ne5 (by decide))))
  have S11 : SlA Z h2 n0 o0 na pa xa ca af f nn ln nd (upd gs 0 (upd (gs 0) (p2).toNatClampNeg p3)) := F8.wrI (q := 0) (j := p2) (own_q0 F8.hf.1) (own_lnlt hln (own_q0 F8.hf.1) hj.2) W2
  refine go (u' := T2.setTop (mkF m 9 #[.val (.ref o0), .val (.int (0 : Int32)), .val (.int p2), .val (.int p3)] [])) st2 ?_
  rw [hG]
  refine g0 X2 hx hlk hret (hb hby d14_9) ?_ (Nat.le_of_ble_eq_true rfl) (Nat.le_of_ble_eq_true rfl)
  show Q_rm14 Z o0 p2 p3 na pa xa ca af f nn ln nd gs E fr tk h0 n0 (none) T2.heap _
  rw [e2]
  exact ⟨rfl, N2, K2, Fa3, Fa4, Fa5, Fa6, Fa7, Fa8, Fa9, Fa10, S11⟩
theorem pn_com_example_emberlot_emberlot_Slots_remove_15 : plainFor (⟨"com/example/emberlot/emberlot/Slots", "remove", "(I)V"⟩ : MethodName) = true := by first | exact plainFor_of_name (by first | (simp [plainName, overriddenIn]; done) | decide +kernel) | decide +kernel
def Q_rm15 (Z : State) (o0 : Addr) (p1 : Int32) (na : Addr) (pa : Addr) (xa : Addr) (ca : Addr) (af : Nat → Addr) (f : Nat) (nn : Nat) (ln : Nat → Nat) (nd : Nat → Value) (gs : Nat → Nat → Int32) (E : Int32) (fr : Int32) (tk : Int32) (h0 : Heap) (n0 : Nat) (v : Option Value) (h : Heap) (L : List Loc) : Prop := v = none ∧ Fr n0 L ∧ Keep h0 h (Wl o0 na pa xa ca af f) ∧ (Exa Z h o0 "com/example/emberlot/emberlot/Slots") ∧ (Fld Z h o0 "com/example/emberlot/emberlot/Slots" "expected" "I" (.int E)) ∧ (Fld Z h o0 "com/example/emberlot/emberlot/Slots" "nodes" "[Ljava/lang/Object;" (.ref na)) ∧ (Fld Z h o0 "com/example/emberlot/emberlot/Slots" "previous" "[[I" (.ref pa)) ∧ (Fld Z h o0 "com/example/emberlot/emberlot/Slots" "next" "[[I" (.ref xa)) ∧ (Fld Z h o0 "com/example/emberlot/emberlot/Slots" "columns" "[[I" (.ref ca)) ∧ (Fld Z h o0 "com/example/emberlot/emberlot/Slots" "free" "I" (.int p1)) ∧ (Fld Z h o0 "com/example/emberlot/emberlot/Slots" "taken" "I" (.int tk)) ∧ (SlA Z h n0 o0 na pa xa ca af f nn ln (upd nd (p1).toNatClampNeg .null) (upd gs 2 (upd (gs 2) (p1).toNatClampNeg fr)))
set_option maxRecDepth 65536 in
set_option maxHeartbeats 4000000 in
theorem ef_rm15 (m : MethodId) (o0 : Addr) (p1 : Int32) : entryFrame m #[(.ref o0), (.int p1)] 2 = mkF m 0 #[.val (.ref o0), .val (.int p1)] [] := by first | (simp [entryFrame, mkF, argsToLocals, Value.category, maxLocals]; done) | rfl
theorem d15_0 : decode prog_50_method_3_code 0 = .ok (.aload_n 0, 1) := by decide +kernel
theorem d15_1 : decode prog_50_method_3_code 1 = .ok (.getfield 9, 3) := by decide +kernel
theorem d15_4 : decode prog_50_method_3_code 4 = .ok (.iload_n 1, 1) := by decide +kernel
theorem d15_5 : decode prog_50_method_3_code 5 = .ok (.aconst_null, 1) := by decide +kernel
theorem d15_6 : decode prog_50_method_3_code 6 = .ok (.aastore, 1) := by decide +kernel
theorem d15_7 : decode prog_50_method_3_code 7 = .ok (.aload_n 0, 1) := by decide +kernel
theorem d15_8 : decode prog_50_method_3_code 8 = .ok (.getfield 38, 3) := by decide +kernel
theorem d15_11 : decode prog_50_method_3_code 11 = .ok (.iconst 0, 1) := by decide +kernel
theorem d15_12 : decode prog_50_method_3_code 12 = .ok (.aaload, 1) := by decide +kernel
theorem d15_13 : decode prog_50_method_3_code 13 = .ok (.iload_n 1, 1) := by decide +kernel
theorem d15_14 : decode prog_50_method_3_code 14 = .ok (.aload_n 0, 1) := by decide +kernel
theorem d15_15 : decode prog_50_method_3_code 15 = .ok (.getfield 15, 3) := by decide +kernel
theorem d15_18 : decode prog_50_method_3_code 18 = .ok (.iastore, 1) := by decide +kernel
theorem d15_19 : decode prog_50_method_3_code 19 = .ok (.aload_n 0, 1) := by decide +kernel
theorem d15_20 : decode prog_50_method_3_code 20 = .ok (.iload_n 1, 1) := by decide +kernel
theorem d15_21 : decode prog_50_method_3_code 21 = .ok (.putfield 15, 3) := by decide +kernel
theorem d15_24 : decode prog_50_method_3_code 24 = .ok (.return_, 1) := by decide +kernel
set_option maxRecDepth 65536 in
set_option maxHeartbeats 40000000 in
theorem rm15 (l : Launch) (Z : State) (a0 : Array Value) (hw : ∀ d ∈ tables_1, d.before a0 Z = true) (ws : List Jvm.Cond) (o0 : Addr) (p1 : Int32) (na : Addr) (pa : Addr) (xa : Addr) (ca : Addr) (af : Nat → Addr) (f : Nat) (nn : Nat) (ln : Nat → Nat) (nd : Nat → Value) (gs : Nat → Nat → Int32) (E : Int32) (fr : Int32) (tk : Int32) (h0 : Heap) (n0 : Nat) (Z0 : n0 ≤ h0.size) (F0 : Exa Z h0 o0 "com/example/emberlot/emberlot/Slots") (F1 : Fld Z h0 o0 "com/example/emberlot/emberlot/Slots" "expected" "I" (.int E)) (F2 : Fld Z h0 o0 "com/example/emberlot/emberlot/Slots" "nodes" "[Ljava/lang/Object;" (.ref na)) (F3 : Fld Z h0 o0 "com/example/emberlot/emberlot/Slots" "previous" "[[I" (.ref pa)) (F4 : Fld Z h0 o0 "com/example/emberlot/emberlot/Slots" "next" "[[I" (.ref xa)) (F5 : Fld Z h0 o0 "com/example/emberlot/emberlot/Slots" "columns" "[[I" (.ref ca)) (F6 : Fld Z h0 o0 "com/example/emberlot/emberlot/Slots" "free" "I" (.int fr)) (F7 : Fld Z h0 o0 "com/example/emberlot/emberlot/Slots" "taken" "I" (.int tk)) (F8 : SlA Z h0 n0 o0 na pa xa ca af f nn ln nd gs) (hln : ∀ q, q < 1 + 2 * f → ln q = nn) (hj : ¬ p1 < 0 ∧ p1.toNatClampNeg < nn) :
    MetFree l (⟨"com/example/emberlot/emberlot/Slots", "remove", "(I)V"⟩ : MethodName) (head1 (Jvm.Cond.code (⟨"com/example/emberlot/emberlot/Slots", "remove", "(I)V"⟩ : MethodName) prog_50_method_3_code 2 none :: ws) ({ frames := 0, cells := 0, slots := 0, locals := 0 } : Room)) (fun a U => a = #[(.ref o0), (.int p1)] ∧ Z.Warmed39 U.vm ∧ U.heap = h0) (fun _ _ _ _ _ => True) (fun _ U o U' => ∃ v L, o = .returned v ∧ Q_rm15 Z o0 p1 na pa xa ca af f nn ln nd gs E fr tk h0 n0 v U'.heap L ∧ FrameEnd U o U' L ({ frames := 0, cells := 0, slots := 0, locals := 0 } : Room).cells ({ frames := 0, cells := 0, slots := 0, locals := 0 } : Room).slots) := by
  refine body pn_com_example_emberlot_emberlot_Slots_remove_15 ?_
  intro p e s m below meth c s₁ hx hby hml hown hnm hret hlk hZ e0 X0
  replace hml : c.maxLocals = 2 := hml
  replace hown : s.vm.findClass "com/example/emberlot/emberlot/Slots" = some m.cls := hown
  replace hnm : meth.name = "remove" := hnm
  replace hret : meth.sig.returnType = none := hret
  have N0 := Fr.nil n0
  rw [ef_rm15]
  obtain ⟨G, hG⟩ : ∃ G, G = End (Q_rm15 Z o0 p1 na pa xa ca af f nn ln nd gs E fr tk h0 n0) s ({ frames := 0, cells := 0, slots := 0, locals := 0 } : Room).cells ({ frames := 0, cells := 0, slots := 0, locals := 0 } : Room).slots := ⟨_, rfl⟩
  rw [← hG]
  have sb0 : SubA h0.size o0 na pa xa ca af f na af := SubA.refl _
  refine go (u' := s₁.setTop (mkF m 1 #[.val (.ref o0), .val (.int p1)] [(.ref o0)])) (fun _ ks_ => XS.aloadN X0.here hx rfl (hb hby d15_0) rfl rfl ks_) ?_
  obtain ⟨T1, X1, e1, st1⟩ := getF X0 hx hZ hown (host := "") (Or.inl (ww hw 12 rfl)) Via.refl e0 F2 (g := (mkF m 1 #[.val (.ref o0), .val (.int p1)] [(.ref o0)])) rfl rfl (hb hby d15_1)
  refine go (u' := T1.setTop (mkF m 4 #[.val (.ref o0), .val (.int p1)] [(.ref na)])) st1 ?_
  refine go (u' := T1.setTop (mkF m 5 #[.val (.ref o0), .val (.int p1)] [(.int p1), (.ref na)])) (fun _ ks_ => XS.iloadN X1.here hx rfl (hb hby d15_4) rfl  ks_) ?_
  refine go (u' := T1.setTop (mkF m 6 #[.val (.ref o0), .val (.int p1)] [.null, (.int p1), (.ref na)])) (fun _ ks_ => XS.aconstNull X1.here hx rfl (hb hby d15_5) ks_) ?_
  obtain ⟨T2, h2, X2, e2, W2, st2⟩ := own_aastore X1 hx hZ e1 F8.nodes rfl (j := p1) (v := .null) hj.1 hj.2 (Or.inl rfl) (f := (mkF m 6 #[.val (.ref o0), .val (.int p1)] [.null, (.int p1), (.ref na)])) rfl rfl (hb hby d15_6)
  have N2 := Fr.snoc X2 N0 (F8.lo 1 (own_a5 (by decide)))
  have K2 : Keep h0 h2 (Wl o0 na pa xa ca af f) := (Keep.refl h0 (Wl o0 na pa xa ca af f)).wr W2 (sb0 1 (own_a5 (by decide)))
  have Z2 : n0 ≤ h2.size := Nat.le_trans Z0 (Keep.of_wr W2).1
  have Fa3 : Exa Z h2 o0 "com/example/emberlot/emberlot/Slots" := F0.wr W2
  have Fa4 : Fld Z h2 o0 "com/example/emberlot/emberlot/Slots" "expected" "I" (.int E) := F1.other W2 (Or.inl (F8.inj 0 1 (own_a5 (by decide)) (own_a5 (by decide)) (by decide)))
  have Fa5 : Fld Z h2 o0 "com/example/emberlot/emberlot/Slots" "nodes" "[Ljava/lang/Object;" (.ref na) := F2.other W2 (Or.inl (F8.inj 0 1 (own_a5 (by decide)) (own_a5 (by decide)) (by decide)))
  have Fa6 : Fld Z h2 o0 "com/example/emberlot/emberlot/Slots" "previous" "[[I" (.ref pa) := F3.other W2 (Or.inl (F8.inj 0 1 (own_a5 (by decide)) (own_a5 (by decide)) (by decide)))
  have Fa7 : Fld Z h2 o0 "com/example/emberlot/emberlot/Slots" "next" "[[I" (.ref xa) := F4.other W2 (Or.inl (F8.inj 0 1 (own_a5 (by decide)) (own_a5 (by decide)) (by decide)))
  have Fa8 : Fld Z h2 o0 "com/example/emberlot/emberlot/Slots" "columns" "[[I" (.ref ca) := F5.other W2 (Or.inl (F8.inj 0 1 (own_a5 (by decide)) (own_a5 (by decide)) (by decide)))
  have Fa9 : Fld Z h2 o0 "com/example/emberlot/emberlot/Slots" "free" "I" (.int fr) := F6.other W2 (Or.inl (F8.inj 0 1 (own_a5 (by decide)) (own_a5 (by decide)) (by decide)))
  have Fa10 : Fld Z h2 o0 "com/example/emberlot/emberlot/Slots" "taken" "I" (.int tk) := F7.other W2 (Or.inl (F8.inj 0 1 (own_a5 (by decide)) (own_a5 (by decide)) (by decide)))
  have S11 : SlA Z h2 n0 o0 na pa xa ca af f nn ln (upd nd (p1).toNatClampNeg .null) gs := F8.wrN hj.2 (Or.inl rfl) W2
  refine go (u' := T2.setTop (mkF m 7 #[.val (.ref o0), .val (.int p1)] [])) st2 ?_
  refine go (u' := T2.setTop (mkF m 8 #[.val (.ref o0), .val (.int p1)] [(.ref o0)])) (fun _ ks_ => XS.aloadN X2.here hx rfl (hb hby d15_7) rfl rfl ks_) ?_
  obtain ⟨T12, X12, e12, st12⟩ := getF X2 hx hZ hown (host := "") (Or.inl (ww hw 31 rfl)) Via.refl e2 Fa7 (g := (mkF m 8 #[.val (.ref o0), .val (.int p1)] [(.ref o0)])) rfl rfl (hb hby d15_8)
  refine go (u' := T12.setTop (mkF m 11 #[.val (.ref o0), .val (.int p1)] [(.ref xa)])) st12 ?_
  refine go (u' := T12.setTop (mkF m 12 #[.val (.ref o0), .val (.int p1)] [(.int (0 : Int32)), (.ref xa)])) (fun _ ks_ => XS.iconst X12.here hx rfl (hb hby d15_11) ks_) ?_
  refine go (u' := T12.setTop (mkF m 13 #[.val (.ref o0), .val (.int p1)] [(.ref (af 2))])) (own_aaload X12 hx hZ e12 S11.next rfl (j := (0 : Int32)) (v := (.ref (af 2))) (by decide) (own_f0 F8.hf.1) rfl (f := (mkF m 12 #[.val (.ref o0), .val (.int p1)] [(.int (0 : Int32)), (.ref xa)])) rfl rfl (hb hby d15_12)) ?_
  refine go (u' := T12.setTop (mkF m 14 #[.val (.ref o0), .val (.int p1)] [(.int p1), (.ref (af 2))])) (fun _ ks_ => XS.iloadN X12.here hx rfl (hb hby d15_13) rfl  ks_) ?_
  refine go (u' := T12.setTop (mkF m 15 #[.val (.ref o0), .val (.int p1)] [(.ref o0), (.int p1), (.ref (af 2))])) (fun _ ks_ => XS.aloadN X12.here hx rfl (hb hby d15_14) rfl rfl ks_) ?_
  obtain ⟨T13, X13, e13, st13⟩ := getF X12 hx hZ hown (host := "") (Or.inl (ww hw 14 rfl)) Via.refl e12 Fa9 (g := (mkF m 15 #[.val (.ref o0), .val (.int p1)] [(.ref o0), (.int p1), (.ref (af 2))])) rfl rfl (hb hby d15_15)
  refine go (u' := T13.setTop (mkF m 18 #[.val (.ref o0), .val (.int p1)] [(.int fr), (.int p1), (.ref (af 2))])) st13 ?_
  obtain ⟨T14, h14, X14, e14, W14, st14⟩ := own_iastore X13 hx hZ e13 (S11.ints 2 (own_q2 F8.hf.1)) (j := p1) (x := fr) hj.1 (own_lnlt hln (own_q2 F8.hf.1) hj.2) (f := (mkF m 18 #[.val (.ref o0), .val (.int p1)] [(.int fr), (.int p1), (.ref (af 2))])) rfl rfl (hb hby d15_18)
  have N14 := Fr.snoc X14 N2 (S11.lo (2 + 5) (own_q5 (own_q2 F8.hf.1)))
  have K14 : Keep h0 h14 (Wl o0 na pa xa ca af f) := K2.wr W14 (sb0 (2 + 5) (own_q5 (own_q2 F8.hf.1)))
  have Z14 : n0 ≤ h14.size := Nat.le_trans Z2 (Keep.of_wr W14).1
  have Fa15 : Exa Z h14 o0 "com/example/emberlot/emberlot/Slots" := Fa3.wr W14
  have Fa16 : Fld Z h14 o0 "com/example/emberlot/emberlot/Slots" "expected" "I" (.int E) := Fa4.other W14 (Or.inl (S11.inj 0 (2 + 5) (own_a5 (by decide)) (own_q5 (own_q2 F8.hf.1)) (own_ne5 (by decide))))
  have Fa17 : Fld Z h14 o0 "com/example/emberlot/emberlot/Slots" "nodes" "[Ljava/lang/Object;" (.ref na) := Fa5.other W14 (Or.inl (S11.inj 0 (2 + 5) (own_a5 (by decide)) (own_q5 (own_q2 F8.hf.1)) (own_ne5 (by decide))))
  have Fa18 : Fld Z h14 o0 "com/example/emberlot/emberlot/Slots" "previous" "[[I" (.ref pa) := Fa6.other W14 (Or.inl (S11.inj 0 (2 + 5) (own_a5 (by decide)) (own_q5 (own_q2 F8.hf.1)) (own_ne5 (by decide))))
  have Fa19 : Fld Z h14 o0 "com/example/emberlot/emberlot/Slots" "next" "[[I" (.ref xa) := Fa7.other W14 (Or.inl (S11.inj 0 (2 + 5) (own_a5 (by decide)) (own_q5 (own_q2 F8.hf.1)) (own_ne5 (by decide))))
  have Fa20 : Fld Z h14 o0 "com/example/emberlot/emberlot/Slots" "columns" "[[I" (.ref ca) := Fa8.other W14 (Or.inl (S11.inj 0 (2 + 5) (own_a5 (by decide)) (own_q5 (own_q2 F8.hf.1)) (own_ne5 (by decide))))
  have Fa21 : Fld Z h14 o0 "com/example/emberlot/emberlot/Slots" "free" "I" (.int fr) := Fa9.other W14 (Or.inl (S11.inj 0 (2 + 5) (own_a5 (by decide)) (own_q5 (own_q2 F8.hf.1)) (own_ne5 (by decide))))
  have Fa22 : Fld Z h14 o0 "com/example/emberlot/emberlot/Slots" "taken" "I" (.int tk) := Fa10.other W14 (Or.inl (S11.inj 0 (2 + 5) (own_a5 (by decide)) (own_q5 (own_q2 F8.hf.1)) (own_ne5 (by decide))))
  have S23 : SlA Z h14 n0 o0 na pa xa ca af f nn ln (upd nd (p1).toNatClampNeg .null) (upd gs 2 (upd (gs 2) (p1).toNatClampNeg fr)) := S11.wrI (q := 2) (j := p1) (own_q2 F8.hf.1) (own_lnlt hln (own_q2 F8.hf.1) hj.2) W14
  refine go (u' := T14.setTop (mkF m 19 #[.val (.ref o0), .val (.int p1)] [])) st14 ?_
  refine go (u' := T14.setTop (mkF m 20 #[.val (.ref o0), .val (.int p1)] [(.ref o0)])) (fun _ ks_ => XS.aloadN X14.here hx rfl (hb hby d15_19) rfl rfl ks_) ?_
  refine go (u' := T14.setTop (mkF m 21 #[.val (.ref o0), .val (.int p1)] [(.int p1), (.ref o0)])) (fun _ ks_ => XS.iloadN X14.here hx rfl (hb hby d15_20) rfl  ks_) ?_
  obtain ⟨T24, h24, X24, e24, W24, st24⟩ := putF X14 hx hZ hown (host := "") (Or.inl (ww hw 14 rfl)) Via.refl e14 Fa21 Fa15 (Or.inl (ww hw 15 rfl)) (ww hw 1 rfl) (ty := .int) (by decide) rfl rfl (g := (mkF m 21 #[.val (.ref o0), .val (.int p1)] [(.int p1), (.ref o0)])) rfl rfl (hb hby d15_21)
  have N24 := Fr.snoc X24 N14 (S23.lo 0 (own_a5 (by decide)))
  have K24 : Keep h0 h24 (Wl o0 na pa xa ca af f) := K14.wr W24 (sb0 0 (own_a5 (by decide)))
  have Z24 : n0 ≤ h24.size := Nat.le_trans Z14 (Keep.of_wr W24).1
  have Fa25 : Exa Z h24 o0 "com/example/emberlot/emberlot/Slots" := Fa15.wr W24
  have Fa26 : Fld Z h24 o0 "com/example/emberlot/emberlot/Slots" "expected" "I" (.int E) := Fa16.other W24 (Or.inr (slot_ne (Or.inr (ww hw 25 rfl)) (Or.inl (ww hw 15 rfl)) (by decide) (t := .int) (t' := .int) (by decide) (by decide)))
  have Fa27 : Fld Z h24 o0 "com/example/emberlot/emberlot/Slots" "nodes" "[Ljava/lang/Object;" (.ref na) := Fa17.other W24 (Or.inr (slot_ne (Or.inl (ww hw 13 rfl)) (Or.inl (ww hw 15 rfl)) (by decide) (t := (.array (.object "java/lang/Object"))) (t' := .int) (by decide) (by decide)))
  have Fa28 : Fld Z h24 o0 "com/example/emberlot/emberlot/Slots" "previous" "[[I" (.ref pa) := Fa18.other W24 (Or.inr (slot_ne (Or.inr (ww hw 30 rfl)) (Or.inl (ww hw 15 rfl)) (by decide) (t := (.array (.array .int))) (t' := .int) (by decide) (by decide)))
  have Fa29 : Fld Z h24 o0 "com/example/emberlot/emberlot/Slots" "next" "[[I" (.ref xa) := Fa19.other W24 (Or.inr (slot_ne (Or.inr (ww hw 32 rfl)) (Or.inl (ww hw 15 rfl)) (by decide) (t := (.array (.array .int))) (t' := .int) (by decide) (by decide)))
  have Fa30 : Fld Z h24 o0 "com/example/emberlot/emberlot/Slots" "columns" "[[I" (.ref ca) := Fa20.other W24 (Or.inr (slot_ne (Or.inr (ww hw 34 rfl)) (Or.inl (ww hw 15 rfl)) (by decide) (t := (.array (.array .int))) (t' := .int) (by decide) (by decide)))
  have Fa31 : Fld Z h24 o0 "com/example/emberlot/emberlot/Slots" "taken" "I" (.int tk) := Fa22.other W24 (Or.inr (slot_ne (Or.inl (ww hw 64 rfl)) (Or.inl (ww hw 15 rfl)) (by decide) (t := .int) (t' := .int) (by decide) (by decide)))
  have S32 : SlA Z h24 n0 o0 na pa xa ca af f nn ln (upd nd (p1).toNatClampNeg .null) (upd gs 2 (upd (gs 2) (p1).toNatClampNeg fr)) := S23.wrO W24
  have Fa33 : Fld Z h24 o0 "com/example/emberlot/emberlot/Slots" "free" "I" (.int p1) := Fa21.same W24
  refine go (u' := T24.setTop (mkF m 24 #[.val (.ref o0), .val (.int p1)] [])) st24 ?_
  rw [hG]
  refine g0 X24 hx hlk hret (hb hby d15_24) ?_ (Nat.le_of_ble_eq_true rfl) (Nat.le_of_ble_eq_true rfl)
  show Q_rm15 Z o0 p1 na pa xa ca af f nn ln nd gs E fr tk h0 n0 (none) T24.heap _
  rw [e24]
  exact ⟨rfl, N24, K24, Fa25, Fa26, Fa27, Fa28, Fa29, Fa30, Fa33, Fa31, S32⟩
theorem pn_com_example_emberlot_emberlot_Slots_get_17 : plainFor (⟨"com/example/emberlot/emberlot/Slots", "get", "(II)I"⟩ : MethodName) = true := by first | exact plainFor_of_name (by first | (simp [plainName, overriddenIn]; done) | decide +kernel) | decide +kernel
def Q_rm17 (Z : State) (o0 : Addr) (p2 : Int32) (na : Addr) (pa : Addr) (xa : Addr) (ca : Addr) (af : Nat → Addr) (f : Nat) (nn : Nat) (ln : Nat → Nat) (nd : Nat → Value) (gs : Nat → Nat → Int32) (E : Int32) (fr : Int32) (tk : Int32) (h0 : Heap) (n0 : Nat) (v : Option Value) (h : Heap) (L : List Loc) : Prop := v = some (.int (gs 0 p2.toNatClampNeg)) ∧ Fr n0 L ∧ h = h0
set_option maxRecDepth 65536 in
set_option maxHeartbeats 4000000 in
theorem ef_rm17 (m : MethodId) (o0 : Addr) (p2 : Int32) : entryFrame m #[(.ref o0), (.int (0 : Int32)), (.int p2)] 3 = mkF m 0 #[.val (.ref o0), .val (.int (0 : Int32)), .val (.int p2)] [] := by first | (simp [entryFrame, mkF, argsToLocals, Value.category, maxLocals]; done) | rfl
theorem d17_0 : decode prog_50_method_9_code 0 = .ok (.aload_n 0, 1) := by decide +kernel
theorem d17_1 : decode prog_50_method_9_code 1 = .ok (.getfield 41, 3) := by decide +kernel
theorem d17_4 : decode prog_50_method_9_code 4 = .ok (.iload_n 1, 1) := by decide +kernel
theorem d17_5 : decode prog_50_method_9_code 5 = .ok (.aaload, 1) := by decide +kernel
theorem d17_6 : decode prog_50_method_9_code 6 = .ok (.iload_n 2, 1) := by decide +kernel
theorem d17_7 : decode prog_50_method_9_code 7 = .ok (.iaload, 1) := by decide +kernel
theorem d17_8 : decode prog_50_method_9_code 8 = .ok (.ireturn, 1) := by decide +kernel
set_option maxRecDepth 65536 in
set_option maxHeartbeats 40000000 in
theorem rm17 (l : Launch) (Z : State) (a0 : Array Value) (hw : ∀ d ∈ tables_1, d.before a0 Z = true) (ws : List Jvm.Cond) (o0 : Addr) (p2 : Int32) (na : Addr) (pa : Addr) (xa : Addr) (ca : Addr) (af : Nat → Addr) (f : Nat) (nn : Nat) (ln : Nat → Nat) (nd : Nat → Value) (gs : Nat → Nat → Int32) (E : Int32) (fr : Int32) (tk : Int32) (h0 : Heap) (n0 : Nat) (Z0 : n0 ≤ h0.size) (F0 : Exa Z h0 o0 "com/example/emberlot/emberlot/Slots") (F1 : Fld Z h0 o0 "com/example/emberlot/emberlot/Slots" "expected" "I" (.int E)) (F2 : Fld Z h0 o0 "com/example/emberlot/emberlot/Slots" "nodes" "[Ljava/lang/Object;" (.ref na)) (F3 : Fld Z h0 o0 "com/example/emberlot/emberlot/Slots" "previous" "[[I" (.ref pa)) (F4 : Fld Z h0 o0 "com/example/emberlot/emberlot/Slots" "next" "[[I" (.ref xa)) (F5 : Fld Z h0 o0 "com/example/emberlot/emberlot/Slots" "columns" "[[I" (.ref ca)) (F6 : Fld Z h0 o0 "com/example/emberlot/emberlot/Slots" "free" "I" (.int fr)) (F7 : Fld Z h0 o0 "com/example/emberlot/emberlot/Slots" "taken" "I" (.int tk)) (F8 : SlA Z h0 n0 o0 na pa xa ca af f nn ln nd gs) (hln : ∀ q, q < 1 + 2 * f → ln q = nn) (hj : ¬ p2 < 0 ∧ p2.toNatClampNeg < nn) :
    MetFree l (⟨"com/example/emberlot/emberlot/Slots", "get", "(II)I"⟩ : MethodName) (head1 (Jvm.Cond.code (⟨"com/example/emberlot/emberlot/Slots", "get", "(II)I"⟩ : MethodName) prog_50_method_9_code 3 (some .int) :: ws) ({ frames := 0, cells := 0, slots := 0, locals := 0 } : Room)) (fun a U => a = #[(.ref o0), (.int (0 : Int32)), (.int p2)] ∧ Z.Warmed39 U.vm ∧ U.heap = h0) (fun _ _ _ _ _ => True) (fun _ U o U' => ∃ v L, o = .returned v ∧ Q_rm17 Z o0 p2 na pa xa ca af f nn ln nd gs E fr tk h0 n0 v U'.heap L ∧ FrameEnd U o U' L ({ frames := 0, cells := 0, slots := 0, locals := 0 } : Room).cells ({ frames := 0, cells := 0, slots := 0, locals := 0 } : Room).slots) := by
  refine body pn_com_example_emberlot_emberlot_Slots_get_17 ?_
  intro p e s m below meth c s₁ hx hby hml hown hnm hret hlk hZ e0 X0
  replace hml : c.maxLocals = 3 := hml
  replace hown : s.vm.findClass "com/example/emberlot/emberlot/Slots" = some m.cls := hown
  replace hnm : meth.name = "get" := hnm
  replace hret : meth.sig.returnType = (some .int) := hret
  have N0 := Fr.nil n0
  rw [ef_rm17]
  obtain ⟨G, hG⟩ : ∃ G, G = End (Q_rm17 Z o0 p2 na pa xa ca af f nn ln nd gs E fr tk h0 n0) s ({ frames := 0, cells := 0, slots := 0, locals := 0 } : Room).cells ({ frames := 0, cells := 0, slots := 0, locals := 0 } : Room).slots := ⟨_, rfl⟩
  rw [← hG]
  have sb0 : SubA h0.size o0 na pa xa ca af f na af := SubA.refl _
  refine go (u' := s₁.setTop (mkF m 1 #[.val (.ref o0), .val (.int (0 : Int32)), .val (.int p2)] [(.ref o0)])) (fun _ ks_ => XS.aloadN X0.here hx rfl (hb hby d17_0) rfl rfl ks_) ?_
  obtain ⟨T1, X1, e1, st1⟩ := getF X0 hx hZ hown (host := "") (Or.inl (ww hw 33 rfl)) Via.refl e0 F5 (g := (mkF m 1 #[.val (.ref o0), .val (.int (0 : Int32)), .val (.int p2)] [(.ref o0)])) rfl rfl (hb hby d17_1)
  refine go (u' := T1.setTop (mkF m 4 #[.val (.ref o0), .val (.int (0 : Int32)), .val (.int p2)] [(.ref ca)])) st1 ?_
  refine go (u' := T1.setTop (mkF m 5 #[.val (.ref o0), .val (.int (0 : Int32)), .val (.int p2)] [(.int (0 : Int32)), (.ref ca)])) (fun _ ks_ => XS.iloadN X1.here hx rfl (hb hby d17_4) rfl  ks_) ?_
  refine go (u' := T1.setTop (mkF m 6 #[.val (.ref o0), .val (.int (0 : Int32)), .val (.int p2)] [(.ref (af 0))])) (own_aaload X1 hx hZ e1 F8.cols rfl (j := (0 : Int32)) (v := (.ref (af 0))) (by decide) (by decide) rfl (f := (mkF m 5 #[.val (.ref o0), .val (.int (0 : Int32)), .val (.int p2)] [(.int (0 : Int32)), (.ref ca)])) rfl rfl (hb hby d17_5)) ?_
  refine go (u' := T1.setTop (mkF m 7 #[.val (.ref o0), .val (.int (0 : Int32)), .val (.int p2)] [(.int p2), (.ref (af 0))])) (fun _ ks_ => XS.iloadN X1.here hx rfl (hb hby d17_6) rfl  ks_) ?_
  refine go (u' := T1.setTop (mkF m 8 #[.val (.ref o0), .val (.int (0 : Int32)), .val (.int p2)] [(.int ((gs 0) p2.toNatClampNeg))])) (own_iaload X1 hx hZ e1 (F8.ints 0 (own_q0 F8.hf.1)) (j := p2) (v := ((gs 0) p2.toNatClampNeg)) hj.1 (own_lnlt hln (own_q0 F8.hf.1) hj.2) rfl (f := (mkF m 7 #[.val (.ref o0), .val (.int (0 : Int32)), .val (.int p2)] [(.int p2), (.ref (af 0))])) rfl rfl (hb hby d17_7)) ?_
  rw [hG]
  refine gI X1 hx hlk hret (hb hby d17_8) ?_ (Nat.le_of_ble_eq_true rfl) (Nat.le_of_ble_eq_true rfl)
  show Q_rm17 Z o0 p2 na pa xa ca af f nn ln nd gs E fr tk h0 n0 (some (.int ((gs 0) p2.toNatClampNeg))) T1.heap _
  rw [e1]
  exact ⟨rfl, N0, rfl⟩
theorem pn_com_example_emberlot_emberlot_Slots_node_16 : plainFor (⟨"com/example/emberlot/emberlot/Slots", "node", "(I)Ljava/lang/Object;"⟩ : MethodName) = true := by first | exact plainFor_of_name (by first | (simp [plainName, overriddenIn]; done) | decide +kernel) | decide +kernel
def Q_rm16 (Z : State) (o0 : Addr) (p1 : Int32) (na : Addr) (pa : Addr) (xa : Addr) (ca : Addr) (af : Nat → Addr) (f : Nat) (nn : Nat) (ln : Nat → Nat) (nd : Nat → Value) (gs : Nat → Nat → Int32) (E : Int32) (fr : Int32) (tk : Int32) (h0 : Heap) (n0 : Nat) (v : Option Value) (h : Heap) (L : List Loc) : Prop := v = some (nd p1.toNatClampNeg) ∧ Fr n0 L ∧ h = h0
set_option maxRecDepth 65536 in
set_option maxHeartbeats 4000000 in
theorem ef_rm16 (m : MethodId) (o0 : Addr) (p1 : Int32) : entryFrame m #[(.ref o0), (.int p1)] 2 = mkF m 0 #[.val (.ref o0), .val (.int p1)] [] := by first | (simp [entryFrame, mkF, argsToLocals, Value.category, maxLocals]; done) | rfl
theorem d16_0 : decode prog_50_method_4_code 0 = .ok (.iload_n 1, 1) := by decide +kernel
theorem d16_1 : decode prog_50_method_4_code 1 = .ok (.iconst (-1), 1) := by decide +kernel
theorem d16_2 : decode prog_50_method_4_code 2 = .ok (.if_icmp .ne 7, 3) := by decide +kernel
theorem d16_9 : decode prog_50_method_4_code 9 = .ok (.aload_n 0, 1) := by decide +kernel
theorem d16_10 : decode prog_50_method_4_code 10 = .ok (.getfield 9, 3) := by decide +kernel
theorem d16_13 : decode prog_50_method_4_code 13 = .ok (.iload_n 1, 1) := by decide +kernel
theorem d16_14 : decode prog_50_method_4_code 14 = .ok (.aaload, 1) := by decide +kernel
theorem d16_15 : decode prog_50_method_4_code 15 = .ok (.areturn, 1) := by decide +kernel
set_option maxRecDepth 65536 in
set_option maxHeartbeats 40000000 in
theorem rm16 (l : Launch) (Z : State) (a0 : Array Value) (hw : ∀ d ∈ tables_1, d.before a0 Z = true) (ws : List Jvm.Cond) (o0 : Addr) (p1 : Int32) (na : Addr) (pa : Addr) (xa : Addr) (ca : Addr) (af : Nat → Addr) (f : Nat) (nn : Nat) (ln : Nat → Nat) (nd : Nat → Value) (gs : Nat → Nat → Int32) (E : Int32) (fr : Int32) (tk : Int32) (h0 : Heap) (n0 : Nat) (Z0 : n0 ≤ h0.size) (F0 : Exa Z h0 o0 "com/example/emberlot/emberlot/Slots") (F1 : Fld Z h0 o0 "com/example/emberlot/emberlot/Slots" "expected" "I" (.int E)) (F2 : Fld Z h0 o0 "com/example/emberlot/emberlot/Slots" "nodes" "[Ljava/lang/Object;" (.ref na)) (F3 : Fld Z h0 o0 "com/example/emberlot/emberlot/Slots" "previous" "[[I" (.ref pa)) (F4 : Fld Z h0 o0 "com/example/emberlot/emberlot/Slots" "next" "[[I" (.ref xa)) (F5 : Fld Z h0 o0 "com/example/emberlot/emberlot/Slots" "columns" "[[I" (.ref ca)) (F6 : Fld Z h0 o0 "com/example/emberlot/emberlot/Slots" "free" "I" (.int fr)) (F7 : Fld Z h0 o0 "com/example/emberlot/emberlot/Slots" "taken" "I" (.int tk)) (F8 : SlA Z h0 n0 o0 na pa xa ca af f nn ln nd gs) (hln : ∀ q, q < 1 + 2 * f → ln q = nn) (hj : ¬ p1 < 0 ∧ p1.toNatClampNeg < nn) (hm : ¬ p1 = (-1 : Int32)) :
    MetFree l (⟨"com/example/emberlot/emberlot/Slots", "node", "(I)Ljava/lang/Object;"⟩ : MethodName) (head1 (Jvm.Cond.code (⟨"com/example/emberlot/emberlot/Slots", "node", "(I)Ljava/lang/Object;"⟩ : MethodName) prog_50_method_4_code 2 (some (.object "java/lang/Object")) :: ws) ({ frames := 0, cells := 0, slots := 0, locals := 0 } : Room)) (fun a U => a = #[(.ref o0), (.int p1)] ∧ Z.Warmed39 U.vm ∧ U.heap = h0) (fun _ _ _ _ _ => True) (fun _ U o U' => ∃ v L, o = .returned v ∧ Q_rm16 Z o0 p1 na pa xa ca af f nn ln nd gs E fr tk h0 n0 v U'.heap L ∧ FrameEnd U o U' L ({ frames := 0, cells := 0, slots := 0, locals := 0 } : Room).cells ({ frames := 0, cells := 0, slots := 0, locals := 0 } : Room).slots) := by
  refine body pn_com_example_emberlot_emberlot_Slots_node_16 ?_
  intro p e s m below meth c s₁ hx hby hml hown hnm hret hlk hZ e0 X0
  replace hml : c.maxLocals = 2 := hml
  replace hown : s.vm.findClass "com/example/emberlot/emberlot/Slots" = some m.cls := hown
  replace hnm : meth.name = "node" := hnm
  replace hret : meth.sig.returnType = (some (.object "java/lang/Object")) := hret
  have N0 := Fr.nil n0
  rw [ef_rm16]
  obtain ⟨G, hG⟩ : ∃ G, G = End (Q_rm16 Z o0 p1 na pa xa ca af f nn ln nd gs E fr tk h0 n0) s ({ frames := 0, cells := 0, slots := 0, locals := 0 } : Room).cells ({ frames := 0, cells := 0, slots := 0, locals := 0 } : Room).slots := ⟨_, rfl⟩
  rw [← hG]
  have sb0 : SubA h0.size o0 na pa xa ca af f na af := SubA.refl _
  refine go (u' := s₁.setTop (mkF m 1 #[.val (.ref o0), .val (.int p1)] [(.int p1)])) (fun _ ks_ => XS.iloadN X0.here hx rfl (hb hby d16_0) rfl  ks_) ?_
  refine go (u' := s₁.setTop (mkF m 2 #[.val (.ref o0), .val (.int p1)] [(.int (-1 : Int32)), (.int p1)])) (fun _ ks_ => XS.iconst X0.here hx rfl (hb hby d16_1) ks_) ?_
  refine go (u' := s₁.setTop (mkF m 9 #[.val (.ref o0), .val (.int p1)] [])) (fun _ ks_ => XS.icmpYes X0.here hx rfl (pc0 := 2) (pc' := 9) rfl (hb hby d16_2) rfl (feq hm).2 (by decide) (by decide) ks_) ?_
  refine go (u' := s₁.setTop (mkF m 10 #[.val (.ref o0), .val (.int p1)] [(.ref o0)])) (fun _ ks_ => XS.aloadN X0.here hx rfl (hb hby d16_9) rfl rfl ks_) ?_
  obtain ⟨T1, X1, e1, st1⟩ := getF X0 hx hZ hown (host := "") (Or.inl (ww hw 12 rfl)) Via.refl e0 F2 (g := (mkF m 10 #[.val (.ref o0), .val (.int p1)] [(.ref o0)])) rfl rfl (hb hby d16_10)
  refine go (u' := T1.setTop (mkF m 13 #[.val (.ref o0), .val (.int p1)] [(.ref na)])) st1 ?_
  refine go (u' := T1.setTop (mkF m 14 #[.val (.ref o0), .val (.int p1)] [(.int p1), (.ref na)])) (fun _ ks_ => XS.iloadN X1.here hx rfl (hb hby d16_13) rfl  ks_) ?_
  refine go (u' := T1.setTop (mkF m 15 #[.val (.ref o0), .val (.int p1)] [(nd p1.toNatClampNeg)])) (own_aaload X1 hx hZ e1 F8.nodes rfl (j := p1) (v := (nd p1.toNatClampNeg)) hj.1 hj.2 rfl (f := (mkF m 14 #[.val (.ref o0), .val (.int p1)] [(.int p1), (.ref na)])) rfl rfl (hb hby d16_14)) ?_
  rw [hG]
  refine gA X1 hx hlk hret rfl (own_isref (F8.val _ hj.2)) (hb hby d16_15) ?_ (Nat.le_of_ble_eq_true rfl) (Nat.le_of_ble_eq_true rfl)
  show Q_rm16 Z o0 p1 na pa xa ca af f nn ln nd gs E fr tk h0 n0 (some (nd p1.toNatClampNeg)) T1.heap _
  rw [e1]
  exact ⟨rfl, N0, rfl⟩
theorem own_lg5 : ∀ z : Fin 5, (fun nn : Nat => (if (16 : Int64) < ((nn).toInt32.toInt64 + ((nn).toInt32 >>> ((1 : Int32) &&& 31)).toInt64) then ((nn).toInt32.toInt64 + ((nn).toInt32 >>> ((1 : Int32) &&& 31)).toInt64) else (16 : Int64))) z.val = (16 : Int64) := by decide
theorem own_lg {nn : Nat} (h : nn ≤ 4) : (if (16 : Int64) < ((nn).toInt32.toInt64 + ((nn).toInt32 >>> ((1 : Int32) &&& 31)).toInt64) then ((nn).toInt32.toInt64 + ((nn).toInt32 >>> ((1 : Int32) &&& 31)).toInt64) else (16 : Int64)) = (16 : Int64) := own_lg5 ⟨nn, by omega⟩
theorem own_lvB {nn : Nat} (h : nn ≤ 4)  {E : Int32} : ((nn : Int) < (16 : Int64).toInt ∧ (16 : Int64).toInt ≤ 16) ∧ ((16 : Int64).toInt = 16 ∨ ((16 : Int64).toInt = E.toInt ∧ (nn : Int) < E.toInt)) := by
  have : (16 : Int64).toInt = 16 := rfl
  omega
theorem own_lvA {nn : Nat} {E : Int32} (h : nn ≤ 4) (hE : (nn).toInt32 < E) : ((nn : Int) < ((if E.toInt64 < (16 : Int64) then E.toInt64 else (16 : Int64))).toInt ∧ ((if E.toInt64 < (16 : Int64) then E.toInt64 else (16 : Int64))).toInt ≤ 16) ∧ (((if E.toInt64 < (16 : Int64) then E.toInt64 else (16 : Int64))).toInt = 16 ∨ (((if E.toInt64 < (16 : Int64) then E.toInt64 else (16 : Int64))).toInt = E.toInt ∧ (nn : Int) < E.toInt)) := by
  have h2 : nn.toInt32.toInt = nn := by show (Int32.ofNat nn).toInt = nn; exact Int32.toInt_ofNat_of_lt (by omega)
  have h3 : E.toInt64.toInt = E.toInt := by simp
  have h4 : (16 : Int64).toInt = 16 := rfl
  rw [Int32.lt_iff_toInt_lt] at hE
  by_cases c : E.toInt64 < (16 : Int64)
  · rw [if_pos c]; rw [Int64.lt_iff_toInt_lt] at c; omega
  · rw [if_neg c]; omega
theorem own_gw {nn : Nat} {lv : Int64} {gw : Int32} (h : (nn : Int) < lv.toInt ∧ lv.toInt ≤ 16) (hg : gw = ((if (2147483639 : Int64) < lv then (2147483639 : Int64) else lv)).toInt32) : ((nn : Int) < gw.toInt ∧ gw.toInt ≤ 16) ∧ gw.toInt = lv.toInt := by
  have h4 : (2147483639 : Int64).toInt = 2147483639 := rfl
  rw [if_neg (by rw [Int64.lt_iff_toInt_lt]; omega)] at hg
  have h5 : gw.toInt = lv.toInt := by rw [hg, Int64.toInt_toInt32]; exact Int.bmod_eq_of_le (by omega) (by omega)
  omega
theorem own_gwE {nn : Nat} {lv : Int64} {gw E : Int32} (h : ((nn : Int) < lv.toInt ∧ lv.toInt ≤ 16) ∧ (lv.toInt = 16 ∨ (lv.toInt = E.toInt ∧ (nn : Int) < E.toInt))) (hg : gw = ((if (2147483639 : Int64) < lv then (2147483639 : Int64) else lv)).toInt32) : gw.toInt = 16 ∨ (gw.toInt = E.toInt ∧ (nn : Int) < E.toInt) := by
  have := (own_gw h.1 hg).2
  omega
theorem own_gt {nn : Nat} {gw : Int32} (h : (nn : Int) < gw.toInt ∧ gw.toInt ≤ 16) : (nn).toInt32 < gw := by
  have h2 : nn.toInt32.toInt = nn := by show (Int32.ofNat nn).toInt = nn; exact Int32.toInt_ofNat_of_lt (by omega)
  rw [Int32.lt_iff_toInt_lt]; omega
theorem own_eqn {a b : Nat} {P : Int} (h : (b : Int) < P) (e : a = b) : (a : Int) < P := by rw [e]; exact h
theorem own_V76 {Z : State} {h : Heap} {K : String} {n m : Nat} {g : Nat → Value} (H : ∀ i, i < n → OKs Z h K (g i)) : ∀ i, i < m → OKs Z h K (if i < n then g i else Value.null) := fun i _ => by
  by_cases e : i < n
  · rw [if_pos e]; exact H i e
  · rw [if_neg e]; exact Or.inl rfl
theorem own_updln {α : Type} {f : Nat → α} {a b : Nat} {v : α} (h : b ≠ a) : upd f a v b = f b := if_neg h
theorem own_cpxU {n a : Nat} {g1 : Nat → Int32} {gs : Nat → Nat → Int32} {ln : Nat → Nat} {n1 : Nat} (e : ln (2 + 2 * a) = n) : ∀ x, x < n → (fun i => if i < upd ln (1 + 2 * a) n1 (2 + 2 * a) then upd gs (1 + 2 * a) g1 (2 + 2 * a) i else 0) x = gs (2 + 2 * a) x := fun x hx => by
  show (if x < upd ln (1 + 2 * a) n1 (2 + 2 * a) then upd gs (1 + 2 * a) g1 (2 + 2 * a) x else 0) = _
  rw [own_updln (by omega), own_updln (by omega), if_pos (by omega)]
/-- what grow leaves -/
def Grown (f nn : Nat) (E : Int32) (nd : Nat → Value) (gs : Nat → Nat → Int32) (n1 : Nat) (ln1 : Nat → Nat) (nd1 : Nat → Value) (gs1 : Nat → Nat → Int32) : Prop :=
  (nn < n1 ∧ n1 ≤ 16) ∧ (n1 = 16 ∨ ((n1 : Int) = E.toInt ∧ (nn : Int) < E.toInt)) ∧ (∀ q, q < 1 + 2 * f → ln1 q = n1) ∧ (∀ i, i < nn → nd1 i = nd i) ∧ ∀ q x, q < 1 + 2 * f → x < nn → gs1 q x = gs q x
theorem own_grown {f nn a : Nat} {E gw : Int32} {nd : Nat → Value} {gs gs' : Nat → Nat → Int32} {ln' : Nat → Nat} {m1 m0 : Nat} (hg : (nn : Int) < gw.toInt ∧ gw.toInt ≤ 16) (hE : gw.toInt = 16 ∨ (gw.toInt = E.toInt ∧ (nn : Int) < E.toInt)) (G : Grn f nn gw.toNatClampNeg a gs ln' gs') (ha : a = f) (e1 : m1 = gw.toNatClampNeg) (e0 : ln' 0 = m0) :
    Grown f nn E nd gs gw.toNatClampNeg (upd ln' 0 m1) (fun i => if i < nn then nd i else Value.null) (upd gs' 0 (fun i => if i < m0 then gs' 0 i else 0)) := by
  have h1 := own_cl (j := gw) (by omega)
  have L := G.last (g1 := fun i => if i < m0 then gs' 0 i else 0) ha e1 (fun x hx => by show (if x < m0 then _ else _) = _; rw [if_pos (by have := G.lc; omega)])
  refine ⟨by omega, ?_, L.1, fun i hi => if_pos hi, L.2⟩
  rcases hE with h | h
  · exact Or.inl (by omega)
  · exact Or.inr ⟨by omega, h.2⟩
theorem pd__40_JJ_41_J : parseMethodDescriptor "(JJ)J" = some ⟨[.long, .long], some .long⟩ := by decide +kernel
theorem pd__40__91_Ljava_47_lang_47_Object_59_I_41__91_Ljava_47_lang_47_Object_59_ : parseMethodDescriptor "([Ljava/lang/Object;I)[Ljava/lang/Object;" = some ⟨[(.array (.object "java/lang/Object")), .int], some (.array (.object "java/lang/Object"))⟩ := by decide +kernel
theorem pd__40__91_II_41__91_I : parseMethodDescriptor "([II)[I" = some ⟨[(.array .int), .int], some (.array .int)⟩ := by decide +kernel
theorem pn_com_example_emberlot_emberlot_Slots_grow_9 : plainFor (⟨"com/example/emberlot/emberlot/Slots", "grow", "()V"⟩ : MethodName) = true := by first | exact plainFor_of_name (by first | (simp [plainName, overriddenIn]; done) | decide +kernel) | decide +kernel
def Q_rm9 (Z : State) (o0 : Addr) (na : Addr) (pa : Addr) (xa : Addr) (ca : Addr) (af : Nat → Addr) (f : Nat) (nn : Nat) (ln : Nat → Nat) (nd : Nat → Value) (gs : Nat → Nat → Int32) (E : Int32) (fr : Int32) (tk : Int32) (mr : Addr) (h0 : Heap) (n0 : Nat) (v : Option Value) (h : Heap) (L : List Loc) : Prop := ∃ na1 : Addr, ∃ af1 : Nat → Addr, ∃ n1 : Nat, ∃ ln1 : Nat → Nat, ∃ nd1 : Nat → Value, ∃ gs1 : Nat → Nat → Int32, v = none ∧ Fr n0 L ∧ Keep h0 h (Wl o0 na pa xa ca af f) ∧ (Exa Z h o0 "com/example/emberlot/emberlot/Slots") ∧ (Fld Z h o0 "com/example/emberlot/emberlot/Slots" "expected" "I" (.int E)) ∧ (Fld Z h o0 "com/example/emberlot/emberlot/Slots" "nodes" "[Ljava/lang/Object;" (.ref na1)) ∧ (Fld Z h o0 "com/example/emberlot/emberlot/Slots" "previous" "[[I" (.ref pa)) ∧ (Fld Z h o0 "com/example/emberlot/emberlot/Slots" "next" "[[I" (.ref xa)) ∧ (Fld Z h o0 "com/example/emberlot/emberlot/Slots" "columns" "[[I" (.ref ca)) ∧ (Fld Z h o0 "com/example/emberlot/emberlot/Slots" "free" "I" (.int fr)) ∧ (Fld Z h o0 "com/example/emberlot/emberlot/Slots" "taken" "I" (.int tk)) ∧ (SlA Z h n0 o0 na1 pa xa ca af1 f n1 ln1 nd1 gs1) ∧ (SubA h0.size o0 na pa xa ca af f na1 af1) ∧ (Grown f nn E nd gs n1 ln1 nd1 gs1)
set_option maxRecDepth 65536 in
set_option maxHeartbeats 4000000 in
theorem ef_rm9 (m : MethodId) (o0 : Addr) : entryFrame m #[(.ref o0)] 6 = mkF m 0 #[.val (.ref o0), .unset, .unset, .unset, .unset, .unset] [] := by first | (simp [entryFrame, mkF, argsToLocals, Value.category, maxLocals]; done) | rfl
theorem d9_0 : decode prog_50_method_11_code 0 = .ok (.aload_n 0, 1) := by decide +kernel
theorem d9_1 : decode prog_50_method_11_code 1 = .ok (.getfield 9, 3) := by decide +kernel
theorem d9_4 : decode prog_50_method_11_code 4 = .ok (.arraylength, 1) := by decide +kernel
theorem d9_5 : decode prog_50_method_11_code 5 = .ok (.istore_n 1, 1) := by decide +kernel
theorem d9_6 : decode prog_50_method_11_code 6 = .ok (.ldc2_w 50, 3) := by decide +kernel
theorem d9_9 : decode prog_50_method_11_code 9 = .ok (.iload_n 1, 1) := by decide +kernel
theorem d9_10 : decode prog_50_method_11_code 10 = .ok (.i2l, 1) := by decide +kernel
theorem d9_11 : decode prog_50_method_11_code 11 = .ok (.iload_n 1, 1) := by decide +kernel
theorem d9_12 : decode prog_50_method_11_code 12 = .ok (.iconst 1, 1) := by decide +kernel
theorem d9_13 : decode prog_50_method_11_code 13 = .ok (.ishr, 1) := by decide +kernel
theorem d9_14 : decode prog_50_method_11_code 14 = .ok (.i2l, 1) := by decide +kernel
theorem d9_15 : decode prog_50_method_11_code 15 = .ok (.ladd, 1) := by decide +kernel
theorem d9_16 : decode prog_50_method_11_code 16 = .ok (.invokestatic 19, 3) := by decide +kernel
theorem d9_19 : decode prog_50_method_11_code 19 = .ok (.lstore_n 2, 1) := by decide +kernel
theorem d9_20 : decode prog_50_method_11_code 20 = .ok (.iload_n 1, 1) := by decide +kernel
theorem d9_21 : decode prog_50_method_11_code 21 = .ok (.aload_n 0, 1) := by decide +kernel
theorem d9_22 : decode prog_50_method_11_code 22 = .ok (.getfield 30, 3) := by decide +kernel
theorem d9_25 : decode prog_50_method_11_code 25 = .ok (.if_icmp .ge 15, 3) := by decide +kernel
theorem d9_28 : decode prog_50_method_11_code 28 = .ok (.lload_n 2, 1) := by decide +kernel
theorem d9_29 : decode prog_50_method_11_code 29 = .ok (.aload_n 0, 1) := by decide +kernel
theorem d9_30 : decode prog_50_method_11_code 30 = .ok (.getfield 30, 3) := by decide +kernel
theorem d9_33 : decode prog_50_method_11_code 33 = .ok (.i2l, 1) := by decide +kernel
theorem d9_34 : decode prog_50_method_11_code 34 = .ok (.invokestatic 27, 3) := by decide +kernel
theorem d9_37 : decode prog_50_method_11_code 37 = .ok (.goto 4, 3) := by decide +kernel
theorem d9_40 : decode prog_50_method_11_code 40 = .ok (.lload_n 2, 1) := by decide +kernel
theorem d9_41 : decode prog_50_method_11_code 41 = .ok (.ldc2_w 25, 3) := by decide +kernel
theorem d9_44 : decode prog_50_method_11_code 44 = .ok (.invokestatic 27, 3) := by decide +kernel
theorem d9_47 : decode prog_50_method_11_code 47 = .ok (.l2i, 1) := by decide +kernel
theorem d9_48 : decode prog_50_method_11_code 48 = .ok (.istore 4, 2) := by decide +kernel
theorem d9_50 : decode prog_50_method_11_code 50 = .ok (.iload 4, 2) := by decide +kernel
theorem d9_52 : decode prog_50_method_11_code 52 = .ok (.iload_n 1, 1) := by decide +kernel
theorem d9_53 : decode prog_50_method_11_code 53 = .ok (.if_icmp .gt 13, 3) := by decide +kernel
theorem d9_66 : decode prog_50_method_11_code 66 = .ok (.aload_n 0, 1) := by decide +kernel
theorem d9_67 : decode prog_50_method_11_code 67 = .ok (.aload_n 0, 1) := by decide +kernel
theorem d9_68 : decode prog_50_method_11_code 68 = .ok (.getfield 9, 3) := by decide +kernel
theorem d9_71 : decode prog_50_method_11_code 71 = .ok (.iload 4, 2) := by decide +kernel
theorem d9_73 : decode prog_50_method_11_code 73 = .ok (.invokestatic 59, 3) := by decide +kernel
theorem d9_76 : decode prog_50_method_11_code 76 = .ok (.putfield 9, 3) := by decide +kernel
theorem d9_79 : decode prog_50_method_11_code 79 = .ok (.iconst 0, 1) := by decide +kernel
theorem d9_80 : decode prog_50_method_11_code 80 = .ok (.istore 5, 2) := by decide +kernel
theorem d9_82 : decode prog_50_method_11_code 82 = .ok (.iload 5, 2) := by decide +kernel
theorem d9_84 : decode prog_50_method_11_code 84 = .ok (.aload_n 0, 1) := by decide +kernel
theorem d9_85 : decode prog_50_method_11_code 85 = .ok (.getfield 35, 3) := by decide +kernel
theorem d9_88 : decode prog_50_method_11_code 88 = .ok (.arraylength, 1) := by decide +kernel
theorem d9_89 : decode prog_50_method_11_code 89 = .ok (.if_icmp .ge 47, 3) := by decide +kernel
theorem d9_92 : decode prog_50_method_11_code 92 = .ok (.aload_n 0, 1) := by decide +kernel
theorem d9_93 : decode prog_50_method_11_code 93 = .ok (.getfield 35, 3) := by decide +kernel
theorem d9_96 : decode prog_50_method_11_code 96 = .ok (.iload 5, 2) := by decide +kernel
theorem d9_98 : decode prog_50_method_11_code 98 = .ok (.aload_n 0, 1) := by decide +kernel
theorem d9_99 : decode prog_50_method_11_code 99 = .ok (.getfield 35, 3) := by decide +kernel
theorem d9_102 : decode prog_50_method_11_code 102 = .ok (.iload 5, 2) := by decide +kernel
theorem d9_104 : decode prog_50_method_11_code 104 = .ok (.aaload, 1) := by decide +kernel
theorem d9_105 : decode prog_50_method_11_code 105 = .ok (.iload 4, 2) := by decide +kernel
theorem d9_107 : decode prog_50_method_11_code 107 = .ok (.invokestatic 65, 3) := by decide +kernel
theorem d9_110 : decode prog_50_method_11_code 110 = .ok (.aastore, 1) := by decide +kernel
theorem d9_111 : decode prog_50_method_11_code 111 = .ok (.aload_n 0, 1) := by decide +kernel
theorem d9_112 : decode prog_50_method_11_code 112 = .ok (.getfield 38, 3) := by decide +kernel
theorem d9_115 : decode prog_50_method_11_code 115 = .ok (.iload 5, 2) := by decide +kernel
theorem d9_117 : decode prog_50_method_11_code 117 = .ok (.aload_n 0, 1) := by decide +kernel
theorem d9_118 : decode prog_50_method_11_code 118 = .ok (.getfield 38, 3) := by decide +kernel
theorem d9_121 : decode prog_50_method_11_code 121 = .ok (.iload 5, 2) := by decide +kernel
theorem d9_123 : decode prog_50_method_11_code 123 = .ok (.aaload, 1) := by decide +kernel
theorem d9_124 : decode prog_50_method_11_code 124 = .ok (.iload 4, 2) := by decide +kernel
theorem d9_126 : decode prog_50_method_11_code 126 = .ok (.invokestatic 65, 3) := by decide +kernel
theorem d9_129 : decode prog_50_method_11_code 129 = .ok (.aastore, 1) := by decide +kernel
theorem d9_130 : decode prog_50_method_11_code 130 = .ok (.iinc 5 1, 3) := by decide +kernel
theorem d9_133 : decode prog_50_method_11_code 133 = .ok (.goto (-51), 3) := by decide +kernel
theorem d9_136 : decode prog_50_method_11_code 136 = .ok (.iconst 0, 1) := by decide +kernel
theorem d9_137 : decode prog_50_method_11_code 137 = .ok (.istore 5, 2) := by decide +kernel
theorem d9_139 : decode prog_50_method_11_code 139 = .ok (.iload 5, 2) := by decide +kernel
theorem d9_141 : decode prog_50_method_11_code 141 = .ok (.aload_n 0, 1) := by decide +kernel
theorem d9_142 : decode prog_50_method_11_code 142 = .ok (.getfield 41, 3) := by decide +kernel
theorem d9_145 : decode prog_50_method_11_code 145 = .ok (.arraylength, 1) := by decide +kernel
theorem d9_146 : decode prog_50_method_11_code 146 = .ok (.if_icmp .ge 28, 3) := by decide +kernel
theorem d9_149 : decode prog_50_method_11_code 149 = .ok (.aload_n 0, 1) := by decide +kernel
theorem d9_150 : decode prog_50_method_11_code 150 = .ok (.getfield 41, 3) := by decide +kernel
theorem d9_153 : decode prog_50_method_11_code 153 = .ok (.iload 5, 2) := by decide +kernel
theorem d9_155 : decode prog_50_method_11_code 155 = .ok (.aload_n 0, 1) := by decide +kernel
theorem d9_156 : decode prog_50_method_11_code 156 = .ok (.getfield 41, 3) := by decide +kernel
theorem d9_159 : decode prog_50_method_11_code 159 = .ok (.iload 5, 2) := by decide +kernel
theorem d9_161 : decode prog_50_method_11_code 161 = .ok (.aaload, 1) := by decide +kernel
theorem d9_162 : decode prog_50_method_11_code 162 = .ok (.iload 4, 2) := by decide +kernel
theorem d9_164 : decode prog_50_method_11_code 164 = .ok (.invokestatic 65, 3) := by decide +kernel
theorem d9_167 : decode prog_50_method_11_code 167 = .ok (.aastore, 1) := by decide +kernel
theorem d9_168 : decode prog_50_method_11_code 168 = .ok (.iinc 5 1, 3) := by decide +kernel
theorem d9_171 : decode prog_50_method_11_code 171 = .ok (.goto (-32), 3) := by decide +kernel
theorem d9_174 : decode prog_50_method_11_code 174 = .ok (.return_, 1) := by decide +kernel
set_option maxRecDepth 65536 in
set_option maxHeartbeats 40000000 in
theorem rm9 (l : Launch) (Z : State) (a0 : Array Value) (hw : ∀ d ∈ tables_1, d.before a0 Z = true) (ws : List Jvm.Cond) (o0 : Addr) (na : Addr) (pa : Addr) (xa : Addr) (ca : Addr) (af : Nat → Addr) (f : Nat) (nn : Nat) (ln : Nat → Nat) (nd : Nat → Value) (gs : Nat → Nat → Int32) (E : Int32) (fr : Int32) (tk : Int32) (mr : Addr) (h0 : Heap) (n0 : Nat) (Z0 : n0 ≤ h0.size) (F0 : Exa Z h0 o0 "com/example/emberlot/emberlot/Slots") (F1 : Fld Z h0 o0 "com/example/emberlot/emberlot/Slots" "expected" "I" (.int E)) (F2 : Fld Z h0 o0 "com/example/emberlot/emberlot/Slots" "nodes" "[Ljava/lang/Object;" (.ref na)) (F3 : Fld Z h0 o0 "com/example/emberlot/emberlot/Slots" "previous" "[[I" (.ref pa)) (F4 : Fld Z h0 o0 "com/example/emberlot/emberlot/Slots" "next" "[[I" (.ref xa)) (F5 : Fld Z h0 o0 "com/example/emberlot/emberlot/Slots" "columns" "[[I" (.ref ca)) (F6 : Fld Z h0 o0 "com/example/emberlot/emberlot/Slots" "free" "I" (.int fr)) (F7 : Fld Z h0 o0 "com/example/emberlot/emberlot/Slots" "taken" "I" (.int tk)) (F8 : SlA Z h0 n0 o0 na pa xa ca af f nn ln nd gs) (hln : ∀ q, q < 1 + 2 * f → ln q = nn) (hn4 : nn ≤ 4) (hE : 0 < E.toInt) (hM : Mr Z "[Ljava/lang/Object;" mr) :
    MetFree l (⟨"com/example/emberlot/emberlot/Slots", "grow", "()V"⟩ : MethodName) (head1 (Jvm.Cond.code (⟨"com/example/emberlot/emberlot/Slots", "grow", "()V"⟩ : MethodName) prog_50_method_11_code 6 none :: ws) ({ frames := 3, cells := 10, slots := 160, locals := 69 } : Room)) (fun a U => a = #[(.ref o0)] ∧ Z.Warmed39 U.vm ∧ U.heap = h0) (fun _ _ _ _ _ => True) (fun _ U o U' => ∃ v L, o = .returned v ∧ Q_rm9 Z o0 na pa xa ca af f nn ln nd gs E fr tk mr h0 n0 v U'.heap L ∧ FrameEnd U o U' L ({ frames := 3, cells := 10, slots := 160, locals := 69 } : Room).cells ({ frames := 3, cells := 10, slots := 160, locals := 69 } : Room).slots) := by
  refine body pn_com_example_emberlot_emberlot_Slots_grow_9 ?_
  intro p e s m below meth c s₁ hx hby hml hown hnm hret hlk hZ e0 X0
  replace hml : c.maxLocals = 6 := hml
  replace hown : s.vm.findClass "com/example/emberlot/emberlot/Slots" = some m.cls := hown
  replace hnm : meth.name = "grow" := hnm
  replace hret : meth.sig.returnType = none := hret
  have N0 := Fr.nil n0
  rw [ef_rm9]
  obtain ⟨G, hG⟩ : ∃ G, G = End (Q_rm9 Z o0 na pa xa ca af f nn ln nd gs E fr tk mr h0 n0) s ({ frames := 3, cells := 10, slots := 160, locals := 69 } : Room).cells ({ frames := 3, cells := 10, slots := 160, locals := 69 } : Room).slots := ⟨_, rfl⟩
  rw [← hG]
  have sb0 : SubA h0.size o0 na pa xa ca af f na af := SubA.refl _
  refine go (u' := s₁.setTop (mkF m 1 #[.val (.ref o0), .unset, .unset, .unset, .unset, .unset] [(.ref o0)])) (fun _ ks_ => XS.aloadN X0.here hx rfl (hb hby d9_0) rfl rfl ks_) ?_
  obtain ⟨T1, X1, e1, st1⟩ := getF X0 hx hZ hown (host := "") (Or.inl (ww hw 12 rfl)) Via.refl e0 F2 (g := (mkF m 1 #[.val (.ref o0), .unset, .unset, .unset, .unset, .unset] [(.ref o0)])) rfl rfl (hb hby d9_1)
  refine go (u' := T1.setTop (mkF m 4 #[.val (.ref o0), .unset, .unset, .unset, .unset, .unset] [(.ref na)])) st1 ?_
  refine go (u' := T1.setTop (mkF m 5 #[.val (.ref o0), .unset, .unset, .unset, .unset, .unset] [(.int (nn).toInt32)])) (own_alenR X1 hx hZ e1 F8.nodes (z := (nn).toInt32) rfl (f := (mkF m 4 #[.val (.ref o0), .unset, .unset, .unset, .unset, .unset] [(.ref na)])) rfl rfl (hb hby d9_4)) ?_
  refine go (u' := T1.setTop (mkF m 6 #[.val (.ref o0), .val (.int (nn).toInt32), .unset, .unset, .unset, .unset] [])) (fun _ ks_ => XS.istoreN X1.here hx rfl (hb hby d9_5) rfl  (l' := #[.val (.ref o0), .val (.int (nn).toInt32), .unset, .unset, .unset, .unset]) rfl ks_) ?_
  refine go (u' := T1.setTop (mkF m 9 #[.val (.ref o0), .val (.int (nn).toInt32), .unset, .unset, .unset, .unset] [(.long (16 : Int64))])) (X1.ldc2Long hx hown (mvT hZ (ww hw 69 rfl)) (g := (mkF m 6 #[.val (.ref o0), .val (.int (nn).toInt32), .unset, .unset, .unset, .unset] [])) rfl (hb hby d9_6)) ?_
  refine go (u' := T1.setTop (mkF m 10 #[.val (.ref o0), .val (.int (nn).toInt32), .unset, .unset, .unset, .unset] [(.int (nn).toInt32), (.long (16 : Int64))])) (fun _ ks_ => XS.iloadN X1.here hx rfl (hb hby d9_9) rfl  ks_) ?_
  refine go (u' := T1.setTop (mkF m 11 #[.val (.ref o0), .val (.int (nn).toInt32), .unset, .unset, .unset, .unset] [(.long ((nn).toInt32.toInt64)), (.long (16 : Int64))])) (fun _ ks_ => XS.i2l X1.here hx rfl (hb hby d9_10) rfl ks_) ?_
  refine go (u' := T1.setTop (mkF m 12 #[.val (.ref o0), .val (.int (nn).toInt32), .unset, .unset, .unset, .unset] [(.int (nn).toInt32), (.long ((nn).toInt32.toInt64)), (.long (16 : Int64))])) (fun _ ks_ => XS.iloadN X1.here hx rfl (hb hby d9_11) rfl  ks_) ?_
  refine go (u' := T1.setTop (mkF m 13 #[.val (.ref o0), .val (.int (nn).toInt32), .unset, .unset, .unset, .unset] [(.int (1 : Int32)), (.int (nn).toInt32), (.long ((nn).toInt32.toInt64)), (.long (16 : Int64))])) (fun _ ks_ => XS.iconst X1.here hx rfl (hb hby d9_12) ks_) ?_
  refine go (u' := T1.setTop (mkF m 14 #[.val (.ref o0), .val (.int (nn).toInt32), .unset, .unset, .unset, .unset] [(.int ((nn).toInt32 >>> ((1 : Int32) &&& 31))), (.long ((nn).toInt32.toInt64)), (.long (16 : Int64))])) (fun _ ks_ => XS.ishr X1.here hx rfl (hb hby d9_13) rfl ks_) ?_
  refine go (u' := T1.setTop (mkF m 15 #[.val (.ref o0), .val (.int (nn).toInt32), .unset, .unset, .unset, .unset] [(.long (((nn).toInt32 >>> ((1 : Int32) &&& 31)).toInt64)), (.long ((nn).toInt32.toInt64)), (.long (16 : Int64))])) (fun _ ks_ => XS.i2l X1.here hx rfl (hb hby d9_14) rfl ks_) ?_
  refine go (u' := T1.setTop (mkF m 16 #[.val (.ref o0), .val (.int (nn).toInt32), .unset, .unset, .unset, .unset] [(.long (((nn).toInt32.toInt64) + (((nn).toInt32 >>> ((1 : Int32) &&& 31)).toInt64))), (.long (16 : Int64))])) (fun _ ks_ => XS.ladd X1.here hx rfl (hb hby d9_15) rfl ks_) ?_
  obtain ⟨_, _, ⟨T2, L2, k2, n2⟩, -, X2, ⟨Lc2, hQ2, l2, y2, z2⟩, st2⟩ := Jvm.LawKit.callS X1 hx (y := (⟨"java/lang/Math", "max", "(JJ)J"⟩ : MethodName)) hown (mvT hZ (ww hw 16 rfl)) (mvT hZ (ww hw 17 rfl)) (mvT hZ (ww hw 18 rfl)) (mvT hZ (ww hw 19 rfl)) (by decide) (backOf (W := 0) (rm3 l Z a0 hw [] (16 : Int64) (((nn).toInt32.toInt64) + (((nn).toInt32 >>> ((1 : Int32) &&& 31)).toInt64)) h0 n0 Z0) hZ (ww hw 19 rfl) (ww hw 18 rfl) (by decide) (by decide)) (g := (mkF m 16 #[.val (.ref o0), .val (.int (nn).toInt32), .unset, .unset, .unset, .unset] [(.long (((nn).toInt32.toInt64) + (((nn).toInt32 >>> ((1 : Int32) &&& 31)).toInt64))), (.long (16 : Int64))])) rfl (by rw [hml]; rfl) (argsL := [(.long (16 : Int64)), (.long (((nn).toInt32.toInt64) + (((nn).toInt32 >>> ((1 : Int32) &&& 31)).toInt64)))]) (rest := []) (lenOf pd__40_JJ_41_J rfl) rfl (by show 2 * 0 + _ ≤ _; exact Nat.le_of_eq rfl) (hb hby d9_16) (fun _ _ => ⟨rfl, e1, (by decide : 0 + 0 ≤ _), (by decide : 0 + 0 ≤ _)⟩)
  dsimp only [Pt.U, Pt.locs, Pt.cells, Pt.slots] at X2 l2 y2 z2 st2 hQ2
  subst l2 y2 z2
  obtain ⟨rfl, N2q, eq2⟩ := hQ2
  have N2 := Fr.app N0 N2q
  rw [show (if (16 : Int64) < (((nn).toInt32.toInt64) + (((nn).toInt32 >>> ((1 : Int32) &&& 31)).toInt64)) then (((nn).toInt32.toInt64) + (((nn).toInt32 >>> ((1 : Int32) &&& 31)).toInt64)) else (16 : Int64)) = (16 : Int64) from (own_lg hn4)] at st2
  refine go (u' := T2.setTop (mkF m 19 #[.val (.ref o0), .val (.int (nn).toInt32), .unset, .unset, .unset, .unset] [(.long (16 : Int64))])) st2 ?_
  refine go (u' := T2.setTop (mkF m 20 #[.val (.ref o0), .val (.int (nn).toInt32), .val (.long (16 : Int64)), .second, .unset, .unset] [])) (fun _ ks_ => XS.lstoreN X2.here hx rfl (hb hby d9_19) rfl  (l' := #[.val (.ref o0), .val (.int (nn).toInt32), .val (.long (16 : Int64)), .second, .unset, .unset]) rfl ks_) ?_
  have C41_1 : ∀ (lv : Int64) (T3 : State) (h3 : Heap) (Ls3 : List Loc), (Stand p l e ({ frames := 3, cells := 10, slots := 160, locals := 69 } : Room) s m #[(.ref o0)] below meth c T3 Ls3 0 0) → (T3.heap = h3) → (Fr n0 Ls3) → (n0 ≤ h3.size) → (Keep h0 h3 (Wl o0 na pa xa ca af f)) → (Exa Z h3 o0 "com/example/emberlot/emberlot/Slots") → (Fld Z h3 o0 "com/example/emberlot/emberlot/Slots" "expected" "I" (.int E)) → (Fld Z h3 o0 "com/example/emberlot/emberlot/Slots" "nodes" "[Ljava/lang/Object;" (.ref na)) → (Fld Z h3 o0 "com/example/emberlot/emberlot/Slots" "previous" "[[I" (.ref pa)) → (Fld Z h3 o0 "com/example/emberlot/emberlot/Slots" "next" "[[I" (.ref xa)) → (Fld Z h3 o0 "com/example/emberlot/emberlot/Slots" "columns" "[[I" (.ref ca)) → (Fld Z h3 o0 "com/example/emberlot/emberlot/Slots" "free" "I" (.int fr)) → (Fld Z h3 o0 "com/example/emberlot/emberlot/Slots" "taken" "I" (.int tk)) → (SlA Z h3 n0 o0 na pa xa ca af f nn ln nd gs) → (((nn : Int) < lv.toInt ∧ lv.toInt ≤ 16) ∧ (lv.toInt = 16 ∨ (lv.toInt = E.toInt ∧ (nn : Int) < E.toInt))) → Go p.tables e below G (T3.setTop (mkF m 41 #[.val (.ref o0), .val (.int (nn).toInt32), .val (.long (16 : Int64)), .second, .unset, .unset] [(.long lv)])) := by
    intro lv T3 h3 Ls3 X3 e3 N3 Z3 K3 F3_0 F3_1 F3_2 F3_3 F3_4 F3_5 F3_6 F3_7 F3_8 hlv
    refine go (u' := T3.setTop (mkF m 44 #[.val (.ref o0), .val (.int (nn).toInt32), .val (.long (16 : Int64)), .second, .unset, .unset] [(.long (2147483639 : Int64)), (.long lv)])) (X3.ldc2Long hx hown (mvT hZ (ww hw 20 rfl)) (g := (mkF m 41 #[.val (.ref o0), .val (.int (nn).toInt32), .val (.long (16 : Int64)), .second, .unset, .unset] [(.long lv)])) rfl (hb hby d9_41)) ?_
    obtain ⟨_, _, ⟨T4, L4, k4, n4⟩, -, X4, ⟨Lc4, hQ4, l4, y4, z4⟩, st4⟩ := Jvm.LawKit.callS X3 hx (y := (⟨"java/lang/Math", "min", "(JJ)J"⟩ : MethodName)) hown (mvT hZ (ww hw 21 rfl)) (mvT hZ (ww hw 22 rfl)) (mvT hZ (ww hw 18 rfl)) (mvT hZ (ww hw 23 rfl)) (by decide) (backOf (W := 0) (rm4 l Z a0 hw [] lv (2147483639 : Int64) h3 n0 Z3) hZ (ww hw 23 rfl) (ww hw 18 rfl) (by decide) (by decide)) (g := (mkF m 44 #[.val (.ref o0), .val (.int (nn).toInt32), .val (.long (16 : Int64)), .second, .unset, .unset] [(.long (2147483639 : Int64)), (.long lv)])) rfl (by rw [hml]; rfl) (argsL := [(.long lv), (.long (2147483639 : Int64))]) (rest := []) (lenOf pd__40_JJ_41_J rfl) rfl (by show 2 * 0 + _ ≤ _; exact Nat.le_of_eq rfl) (hb hby d9_44) (fun _ _ => ⟨rfl, e3, (by decide : 0 + 0 ≤ _), (by decide : 0 + 0 ≤ _)⟩)
    dsimp only [Pt.U, Pt.locs, Pt.cells, Pt.slots] at X4 l4 y4 z4 st4 hQ4
    subst l4 y4 z4
    obtain ⟨rfl, N4q, eq4⟩ := hQ4
    have N4 := Fr.app N3 N4q
    refine go (u' := T4.setTop (mkF m 47 #[.val (.ref o0), .val (.int (nn).toInt32), .val (.long (16 : Int64)), .second, .unset, .unset] [(.long (if (2147483639 : Int64) < lv then (2147483639 : Int64) else lv))])) st4 ?_
    refine go (u' := T4.setTop (mkF m 48 #[.val (.ref o0), .val (.int (nn).toInt32), .val (.long (16 : Int64)), .second, .unset, .unset] [(.int ((if (2147483639 : Int64) < lv then (2147483639 : Int64) else lv).toInt32))])) (fun _ ks_ => XS.l2i X4.here hx rfl (hb hby d9_47) rfl ks_) ?_
    refine go (u' := T4.setTop (mkF m 50 #[.val (.ref o0), .val (.int (nn).toInt32), .val (.long (16 : Int64)), .second, .val (.int ((if (2147483639 : Int64) < lv then (2147483639 : Int64) else lv).toInt32)), .unset] [])) (fun _ ks_ => XS.istore X4.here hx rfl (hb hby d9_48) rfl  (l' := #[.val (.ref o0), .val (.int (nn).toInt32), .val (.long (16 : Int64)), .second, .val (.int ((if (2147483639 : Int64) < lv then (2147483639 : Int64) else lv).toInt32)), .unset]) rfl ks_) ?_
    obtain ⟨gw, hgw⟩ : ∃ z, z = ((if (2147483639 : Int64) < lv then (2147483639 : Int64) else lv).toInt32) := ⟨_, rfl⟩
    rw [← hgw]
    have hgw' := (own_gw hlv.1 hgw).1
    have hgE := own_gwE hlv hgw
    refine go (u' := T4.setTop (mkF m 52 #[.val (.ref o0), .val (.int (nn).toInt32), .val (.long (16 : Int64)), .second, .val (.int gw), .unset] [(.int gw)])) (fun _ ks_ => XS.iload X4.here hx rfl (hb hby d9_50) rfl  ks_) ?_
    refine go (u' := T4.setTop (mkF m 53 #[.val (.ref o0), .val (.int (nn).toInt32), .val (.long (16 : Int64)), .second, .val (.int gw), .unset] [(.int (nn).toInt32), (.int gw)])) (fun _ ks_ => XS.iloadN X4.here hx rfl (hb hby d9_52) rfl  ks_) ?_
    refine go (u' := T4.setTop (mkF m 66 #[.val (.ref o0), .val (.int (nn).toInt32), .val (.long (16 : Int64)), .second, .val (.int gw), .unset] [])) (fun _ ks_ => XS.icmpYes X4.here hx rfl (pc0 := 53) (pc' := 66) rfl (hb hby d9_53) rfl (tlt (show (nn).toInt32 < gw from (own_gt hgw'))).2.2.1 (by decide) (by decide) ks_) ?_
    refine go (u' := T4.setTop (mkF m 67 #[.val (.ref o0), .val (.int (nn).toInt32), .val (.long (16 : Int64)), .second, .val (.int gw), .unset] [(.ref o0)])) (fun _ ks_ => XS.aloadN X4.here hx rfl (hb hby d9_66) rfl rfl ks_) ?_
    refine go (u' := T4.setTop (mkF m 68 #[.val (.ref o0), .val (.int (nn).toInt32), .val (.long (16 : Int64)), .second, .val (.int gw), .unset] [(.ref o0), (.ref o0)])) (fun _ ks_ => XS.aloadN X4.here hx rfl (hb hby d9_67) rfl rfl ks_) ?_
    obtain ⟨T5, X5, e5, st5⟩ := getF X4 hx hZ hown (host := "") (Or.inl (ww hw 12 rfl)) Via.refl eq4 F3_2 (g := (mkF m 68 #[.val (.ref o0), .val (.int (nn).toInt32), .val (.long (16 : Int64)), .second, .val (.int gw), .unset] [(.ref o0), (.ref o0)])) rfl rfl (hb hby d9_68)
    refine go (u' := T5.setTop (mkF m 71 #[.val (.ref o0), .val (.int (nn).toInt32), .val (.long (16 : Int64)), .second, .val (.int gw), .unset] [(.ref na), (.ref o0)])) st5 ?_
    refine go (u' := T5.setTop (mkF m 73 #[.val (.ref o0), .val (.int (nn).toInt32), .val (.long (16 : Int64)), .second, .val (.int gw), .unset] [(.int gw), (.ref na), (.ref o0)])) (fun _ ks_ => XS.iload X5.here hx rfl (hb hby d9_71) rfl  ks_) ?_
    obtain ⟨_, _, ⟨T6, L6, k6, n6⟩, -, X6, ⟨Lc6, hQ6, l6, y6, z6⟩, st6⟩ := Jvm.LawKit.callS X5 hx (y := (⟨"java/util/Arrays", "copyOf", "([Ljava/lang/Object;I)[Ljava/lang/Object;"⟩ : MethodName)) hown (mvT hZ (ww hw 70 rfl)) (mvT hZ (ww hw 71 rfl)) (mvT hZ (ww hw 72 rfl)) (mvT hZ (ww hw 73 rfl)) (by decide) (backOf (W := 1) (rm10 l Z a0 hw [] na gw mr nn nd h3 n0 Z3 F3_8.nodes F3_8.exa hgw' F3_8.val hM) hZ (ww hw 73 rfl) (ww hw 72 rfl) (by decide) (by decide)) (g := (mkF m 73 #[.val (.ref o0), .val (.int (nn).toInt32), .val (.long (16 : Int64)), .second, .val (.int gw), .unset] [(.int gw), (.ref na), (.ref o0)])) rfl (by rw [hml]; rfl) (argsL := [(.ref na), (.int gw)]) (rest := [(.ref o0)]) (lenOf pd__40__91_Ljava_47_lang_47_Object_59_I_41__91_Ljava_47_lang_47_Object_59_ rfl) rfl (by show 2 * 0 + _ ≤ _; exact Nat.le_of_eq rfl) (hb hby d9_73) (fun _ _ => ⟨rfl, e5, (by decide : 0 + 1 ≤ _), (by decide : 0 + 16 ≤ _)⟩)
    dsimp only [Pt.U, Pt.locs, Pt.cells, Pt.slots] at X6 l6 y6 z6 st6 hQ6
    subst l6 y6 z6
    obtain ⟨r6, rfl, N6q, Kq6, Fa7, Fa8, gr_6⟩ := hQ6
    have N6 := Fr.app N4 N6q
    have K6 : Keep h0 T6.heap (Wl o0 na pa xa ca af f) := K3.trans Kq6 all0
    have Z6 : n0 ≤ T6.heap.size := Nat.le_trans Z3 Kq6.1
    have Fa9 : Exa Z T6.heap o0 "com/example/emberlot/emberlot/Slots" := F3_0.keep Kq6
    have Fa10 : Fld Z T6.heap o0 "com/example/emberlot/emberlot/Slots" "expected" "I" (.int E) := F3_1.keep Kq6 nin0
    have Fa11 : Fld Z T6.heap o0 "com/example/emberlot/emberlot/Slots" "nodes" "[Ljava/lang/Object;" (.ref na) := F3_2.keep Kq6 nin0
    have Fa12 : Fld Z T6.heap o0 "com/example/emberlot/emberlot/Slots" "previous" "[[I" (.ref pa) := F3_3.keep Kq6 nin0
    have Fa13 : Fld Z T6.heap o0 "com/example/emberlot/emberlot/Slots" "next" "[[I" (.ref xa) := F3_4.keep Kq6 nin0
    have Fa14 : Fld Z T6.heap o0 "com/example/emberlot/emberlot/Slots" "columns" "[[I" (.ref ca) := F3_5.keep Kq6 nin0
    have Fa15 : Fld Z T6.heap o0 "com/example/emberlot/emberlot/Slots" "free" "I" (.int fr) := F3_6.keep Kq6 nin0
    have Fa16 : Fld Z T6.heap o0 "com/example/emberlot/emberlot/Slots" "taken" "I" (.int tk) := F3_7.keep Kq6 nin0
    have Fa17 : PR Z T6.heap na (.object "java/lang/Object") "java/lang/Object" nn nd := F3_8.nodes.keep Kq6 nin0
    have Fa18 : Exa Z T6.heap na "[Ljava/lang/Object;" := F3_8.exa.keep Kq6
    have S19 : SlA Z T6.heap n0 o0 na pa xa ca af f nn ln nd gs := F3_8.keep0 Kq6
    have ne_o0_r6 : o0 ≠ r6 := Nat.ne_of_lt (Nat.lt_of_lt_of_le F3_0.lt gr_6)
    have ne_na_r6 : na ≠ r6 := Nat.ne_of_lt (Nat.lt_of_lt_of_le F3_8.nodes.lt gr_6)
    have g_r6 : n0 ≤ r6 := Nat.le_trans Z3 gr_6
    have sz_r6 : h0.size ≤ r6 := Nat.le_trans K3.1 gr_6
    refine go (u' := T6.setTop (mkF m 76 #[.val (.ref o0), .val (.int (nn).toInt32), .val (.long (16 : Int64)), .second, .val (.int gw), .unset] [(.ref r6), (.ref o0)])) st6 ?_
    have fr20 : ∀ i, i < 6 + 2 * f → r6 ≠ adr o0 na pa xa ca af i := own_fresh F3_8 gr_6
    have hv76 : ∀ i, i < gw.toNatClampNeg → OKs Z T6.heap "java/lang/Object" ((fun i => if i < nn then nd i else Value.null) i) := own_V76 (fun i hi => S19.val i hi)
    have S21 : SlA Z T6.heap n0 o0 r6 pa xa ca af f gw.toNatClampNeg ln (fun i => if i < nn then nd i else Value.null) gs := S19.newN fr20 g_r6 Fa7 Fa8 hv76
    have sb22 : SubA h0.size o0 na pa xa ca af f r6 af := sb0.nod sz_r6
    obtain ⟨T23, h23, X23, e23, W23, st23⟩ := putF X6 hx hZ hown (host := "") (Or.inl (ww hw 12 rfl)) Via.refl (rfl : T6.heap = _) Fa11 Fa9 (Or.inl (ww hw 13 rfl)) (ww hw 1 rfl) (ty := (.array (.object "java/lang/Object"))) (by decide) rfl rfl (g := (mkF m 76 #[.val (.ref o0), .val (.int (nn).toInt32), .val (.long (16 : Int64)), .second, .val (.int gw), .unset] [(.ref r6), (.ref o0)])) rfl rfl (hb hby d9_76)
    have N23 := Fr.snoc X23 N6 (S21.lo 0 (own_a5 (by decide)))
    have K23 : Keep h0 h23 (Wl o0 na pa xa ca af f) := K6.wr W23 (sb22 0 (own_a5 (by decide)))
    have Z23 : n0 ≤ h23.size := Nat.le_trans Z6 (Keep.of_wr W23).1
    have Fa24 : Exa Z h23 o0 "com/example/emberlot/emberlot/Slots" := Fa9.wr W23
    have Fa25 : Fld Z h23 o0 "com/example/emberlot/emberlot/Slots" "expected" "I" (.int E) := Fa10.other W23 (Or.inr (slot_ne (Or.inr (ww hw 25 rfl)) (Or.inl (ww hw 13 rfl)) (by decide) (t := .int) (t' := (.array (.object "java/lang/Object"))) (by decide) (by decide)))
    have Fa26 : Fld Z h23 o0 "com/example/emberlot/emberlot/Slots" "previous" "[[I" (.ref pa) := Fa12.other W23 (Or.inr (slot_ne (Or.inr (ww hw 30 rfl)) (Or.inl (ww hw 13 rfl)) (by decide) (t := (.array (.array .int))) (t' := (.array (.object "java/lang/Object"))) (by decide) (by decide)))
    have Fa27 : Fld Z h23 o0 "com/example/emberlot/emberlot/Slots" "next" "[[I" (.ref xa) := Fa13.other W23 (Or.inr (slot_ne (Or.inr (ww hw 32 rfl)) (Or.inl (ww hw 13 rfl)) (by decide) (t := (.array (.array .int))) (t' := (.array (.object "java/lang/Object"))) (by decide) (by decide)))
    have Fa28 : Fld Z h23 o0 "com/example/emberlot/emberlot/Slots" "columns" "[[I" (.ref ca) := Fa14.other W23 (Or.inr (slot_ne (Or.inr (ww hw 34 rfl)) (Or.inl (ww hw 13 rfl)) (by decide) (t := (.array (.array .int))) (t' := (.array (.object "java/lang/Object"))) (by decide) (by decide)))
    have Fa29 : Fld Z h23 o0 "com/example/emberlot/emberlot/Slots" "free" "I" (.int fr) := Fa15.other W23 (Or.inr (slot_ne (Or.inl (ww hw 15 rfl)) (Or.inl (ww hw 13 rfl)) (by decide) (t := .int) (t' := (.array (.object "java/lang/Object"))) (by decide) (by decide)))
    have Fa30 : Fld Z h23 o0 "com/example/emberlot/emberlot/Slots" "taken" "I" (.int tk) := Fa16.other W23 (Or.inr (slot_ne (Or.inl (ww hw 64 rfl)) (Or.inl (ww hw 13 rfl)) (by decide) (t := .int) (t' := (.array (.object "java/lang/Object"))) (by decide) (by decide)))
    have S31 : SlA Z h23 n0 o0 r6 pa xa ca af f gw.toNatClampNeg ln (fun i => if i < nn then nd i else Value.null) gs := S21.wrO W23
    have Fa32 : Fld Z h23 o0 "com/example/emberlot/emberlot/Slots" "nodes" "[Ljava/lang/Object;" (.ref r6) := Fa11.same W23
    refine go (u' := T23.setTop (mkF m 79 #[.val (.ref o0), .val (.int (nn).toInt32), .val (.long (16 : Int64)), .second, .val (.int gw), .unset] [])) st23 ?_
    refine go (u' := T23.setTop (mkF m 80 #[.val (.ref o0), .val (.int (nn).toInt32), .val (.long (16 : Int64)), .second, .val (.int gw), .unset] [(.int (0 : Int32))])) (fun _ ks_ => XS.iconst X23.here hx rfl (hb hby d9_79) ks_) ?_
    refine go (u' := T23.setTop (mkF m 82 #[.val (.ref o0), .val (.int (nn).toInt32), .val (.long (16 : Int64)), .second, .val (.int gw), .val (.int (0 : Int32))] [])) (fun _ ks_ => XS.istore X23.here hx rfl (hb hby d9_80) rfl  (l' := #[.val (.ref o0), .val (.int (nn).toInt32), .val (.long (16 : Int64)), .second, .val (.int gw), .val (.int (0 : Int32))]) rfl ks_) ?_
    have C82_2 : ∀ (t : Nat) (fi : Int32) (af_ : Nat → Addr) (ln_ : Nat → Nat) (gs_ : Nat → Nat → Int32) (T33 : State) (h33 : Heap) (Ls33 : List Loc), (Stand p l e ({ frames := 3, cells := 10, slots := 160, locals := 69 } : Room) s m #[(.ref o0)] below meth c T33 Ls33 ((9 - 2 * t)) ((144 - 32 * t))) → (T33.heap = h33) → (Fr n0 Ls33) → (n0 ≤ h33.size) → (Keep h0 h33 (Wl o0 na pa xa ca af f)) → (Exa Z h33 o0 "com/example/emberlot/emberlot/Slots") → (Fld Z h33 o0 "com/example/emberlot/emberlot/Slots" "expected" "I" (.int E)) → (Fld Z h33 o0 "com/example/emberlot/emberlot/Slots" "nodes" "[Ljava/lang/Object;" (.ref r6)) → (Fld Z h33 o0 "com/example/emberlot/emberlot/Slots" "previous" "[[I" (.ref pa)) → (Fld Z h33 o0 "com/example/emberlot/emberlot/Slots" "next" "[[I" (.ref xa)) → (Fld Z h33 o0 "com/example/emberlot/emberlot/Slots" "columns" "[[I" (.ref ca)) → (Fld Z h33 o0 "com/example/emberlot/emberlot/Slots" "free" "I" (.int fr)) → (Fld Z h33 o0 "com/example/emberlot/emberlot/Slots" "taken" "I" (.int tk)) → (SlA Z h33 n0 o0 r6 pa xa ca af_ f gw.toNatClampNeg ln_ (fun i => if i < nn then nd i else Value.null) gs_) → (0 ≤ fi.toInt ∧ fi.toInt + (t : Nat) = f) → (Grn f nn gw.toNatClampNeg fi.toNatClampNeg gs ln_ gs_) → (SubA h0.size o0 na pa xa ca af f r6 af_) → Go p.tables e below G (T33.setTop (mkF m 82 #[.val (.ref o0), .val (.int (nn).toInt32), .val (.long (16 : Int64)), .second, .val (.int gw), .val (.int fi)] [])) := by
      intro t
      induction t with
      | zero =>
        intro fi af_ ln_ gs_ T33 h33 Ls33 X33 e33 N33 Z33 K33 F33_0 F33_1 F33_2 F33_3 F33_4 F33_5 F33_6 F33_7 F33_8 hi hgr hsb
        have hiz := own_fz F8.hf.2 hi
        refine go (u' := T33.setTop (mkF m 84 #[.val (.ref o0), .val (.int (nn).toInt32), .val (.long (16 : Int64)), .second, .val (.int gw), .val (.int fi)] [(.int fi)])) (fun _ ks_ => XS.iload X33.here hx rfl (hb hby d9_82) rfl  ks_) ?_
        refine go (u' := T33.setTop (mkF m 85 #[.val (.ref o0), .val (.int (nn).toInt32), .val (.long (16 : Int64)), .second, .val (.int gw), .val (.int fi)] [(.ref o0), (.int fi)])) (fun _ ks_ => XS.aloadN X33.here hx rfl (hb hby d9_84) rfl rfl ks_) ?_
        obtain ⟨T34, X34, e34, st34⟩ := getF X33 hx hZ hown (host := "") (Or.inl (ww hw 29 rfl)) Via.refl e33 F33_3 (g := (mkF m 85 #[.val (.ref o0), .val (.int (nn).toInt32), .val (.long (16 : Int64)), .second, .val (.int gw), .val (.int fi)] [(.ref o0), (.int fi)])) rfl rfl (hb hby d9_85)
        refine go (u' := T34.setTop (mkF m 88 #[.val (.ref o0), .val (.int (nn).toInt32), .val (.long (16 : Int64)), .second, .val (.int gw), .val (.int fi)] [(.ref pa), (.int fi)])) st34 ?_
        refine go (u' := T34.setTop (mkF m 89 #[.val (.ref o0), .val (.int (nn).toInt32), .val (.long (16 : Int64)), .second, .val (.int gw), .val (.int fi)] [(.int (f).toInt32), (.int fi)])) (own_alenR X34 hx hZ e34 F33_8.prev (z := (f).toInt32) rfl (f := (mkF m 88 #[.val (.ref o0), .val (.int (nn).toInt32), .val (.long (16 : Int64)), .second, .val (.int gw), .val (.int fi)] [(.ref pa), (.int fi)])) rfl rfl (hb hby d9_88)) ?_
        refine go (u' := T34.setTop (mkF m 136 #[.val (.ref o0), .val (.int (nn).toInt32), .val (.long (16 : Int64)), .second, .val (.int gw), .val (.int fi)] [])) (fun _ ks_ => XS.icmpYes X34.here hx rfl (pc0 := 89) (pc' := 136) rfl (hb hby d9_89) rfl (flt hiz.1).2.1 (by decide) (by decide) ks_) ?_
        refine go (u' := T34.setTop (mkF m 137 #[.val (.ref o0), .val (.int (nn).toInt32), .val (.long (16 : Int64)), .second, .val (.int gw), .val (.int fi)] [(.int (0 : Int32))])) (fun _ ks_ => XS.iconst X34.here hx rfl (hb hby d9_136) ks_) ?_
        refine go (u' := T34.setTop (mkF m 139 #[.val (.ref o0), .val (.int (nn).toInt32), .val (.long (16 : Int64)), .second, .val (.int gw), .val (.int (0 : Int32))] [])) (fun _ ks_ => XS.istore X34.here hx rfl (hb hby d9_137) rfl  (l' := #[.val (.ref o0), .val (.int (nn).toInt32), .val (.long (16 : Int64)), .second, .val (.int gw), .val (.int (0 : Int32))]) rfl ks_) ?_
        refine go (u' := T34.setTop (mkF m 141 #[.val (.ref o0), .val (.int (nn).toInt32), .val (.long (16 : Int64)), .second, .val (.int gw), .val (.int (0 : Int32))] [(.int (0 : Int32))])) (fun _ ks_ => XS.iload X34.here hx rfl (hb hby d9_139) rfl  ks_) ?_
        refine go (u' := T34.setTop (mkF m 142 #[.val (.ref o0), .val (.int (nn).toInt32), .val (.long (16 : Int64)), .second, .val (.int gw), .val (.int (0 : Int32))] [(.ref o0), (.int (0 : Int32))])) (fun _ ks_ => XS.aloadN X34.here hx rfl (hb hby d9_141) rfl rfl ks_) ?_
        obtain ⟨T35, X35, e35, st35⟩ := getF X34 hx hZ hown (host := "") (Or.inl (ww hw 33 rfl)) Via.refl e34 F33_5 (g := (mkF m 142 #[.val (.ref o0), .val (.int (nn).toInt32), .val (.long (16 : Int64)), .second, .val (.int gw), .val (.int (0 : Int32))] [(.ref o0), (.int (0 : Int32))])) rfl rfl (hb hby d9_142)
        refine go (u' := T35.setTop (mkF m 145 #[.val (.ref o0), .val (.int (nn).toInt32), .val (.long (16 : Int64)), .second, .val (.int gw), .val (.int (0 : Int32))] [(.ref ca), (.int (0 : Int32))])) st35 ?_
        refine go (u' := T35.setTop (mkF m 146 #[.val (.ref o0), .val (.int (nn).toInt32), .val (.long (16 : Int64)), .second, .val (.int gw), .val (.int (0 : Int32))] [(.int (1 : Int32)), (.int (0 : Int32))])) (own_alenR X35 hx hZ e35 F33_8.cols (z := (1 : Int32)) rfl (f := (mkF m 145 #[.val (.ref o0), .val (.int (nn).toInt32), .val (.long (16 : Int64)), .second, .val (.int gw), .val (.int (0 : Int32))] [(.ref ca), (.int (0 : Int32))])) rfl rfl (hb hby d9_145)) ?_
        refine go (u' := T35.setTop (mkF m 149 #[.val (.ref o0), .val (.int (nn).toInt32), .val (.long (16 : Int64)), .second, .val (.int gw), .val (.int (0 : Int32))] [])) (fun _ ks_ => XS.icmpNo X35.here hx rfl (hb hby d9_146) rfl (tlt (show (0 : Int32) < (1 : Int32) from (by decide))).2.1 ks_) ?_
        refine go (u' := T35.setTop (mkF m 150 #[.val (.ref o0), .val (.int (nn).toInt32), .val (.long (16 : Int64)), .second, .val (.int gw), .val (.int (0 : Int32))] [(.ref o0)])) (fun _ ks_ => XS.aloadN X35.here hx rfl (hb hby d9_149) rfl rfl ks_) ?_
        obtain ⟨T36, X36, e36, st36⟩ := getF X35 hx hZ hown (host := "") (Or.inl (ww hw 33 rfl)) Via.refl e35 F33_5 (g := (mkF m 150 #[.val (.ref o0), .val (.int (nn).toInt32), .val (.long (16 : Int64)), .second, .val (.int gw), .val (.int (0 : Int32))] [(.ref o0)])) rfl rfl (hb hby d9_150)
        refine go (u' := T36.setTop (mkF m 153 #[.val (.ref o0), .val (.int (nn).toInt32), .val (.long (16 : Int64)), .second, .val (.int gw), .val (.int (0 : Int32))] [(.ref ca)])) st36 ?_
        refine go (u' := T36.setTop (mkF m 155 #[.val (.ref o0), .val (.int (nn).toInt32), .val (.long (16 : Int64)), .second, .val (.int gw), .val (.int (0 : Int32))] [(.int (0 : Int32)), (.ref ca)])) (fun _ ks_ => XS.iload X36.here hx rfl (hb hby d9_153) rfl  ks_) ?_
        refine go (u' := T36.setTop (mkF m 156 #[.val (.ref o0), .val (.int (nn).toInt32), .val (.long (16 : Int64)), .second, .val (.int gw), .val (.int (0 : Int32))] [(.ref o0), (.int (0 : Int32)), (.ref ca)])) (fun _ ks_ => XS.aloadN X36.here hx rfl (hb hby d9_155) rfl rfl ks_) ?_
        obtain ⟨T37, X37, e37, st37⟩ := getF X36 hx hZ hown (host := "") (Or.inl (ww hw 33 rfl)) Via.refl e36 F33_5 (g := (mkF m 156 #[.val (.ref o0), .val (.int (nn).toInt32), .val (.long (16 : Int64)), .second, .val (.int gw), .val (.int (0 : Int32))] [(.ref o0), (.int (0 : Int32)), (.ref ca)])) rfl rfl (hb hby d9_156)
        refine go (u' := T37.setTop (mkF m 159 #[.val (.ref o0), .val (.int (nn).toInt32), .val (.long (16 : Int64)), .second, .val (.int gw), .val (.int (0 : Int32))] [(.ref ca), (.int (0 : Int32)), (.ref ca)])) st37 ?_
        refine go (u' := T37.setTop (mkF m 161 #[.val (.ref o0), .val (.int (nn).toInt32), .val (.long (16 : Int64)), .second, .val (.int gw), .val (.int (0 : Int32))] [(.int (0 : Int32)), (.ref ca), (.int (0 : Int32)), (.ref ca)])) (fun _ ks_ => XS.iload X37.here hx rfl (hb hby d9_159) rfl  ks_) ?_
        refine go (u' := T37.setTop (mkF m 162 #[.val (.ref o0), .val (.int (nn).toInt32), .val (.long (16 : Int64)), .second, .val (.int gw), .val (.int (0 : Int32))] [(.ref (af_ 0)), (.int (0 : Int32)), (.ref ca)])) (own_aaload X37 hx hZ e37 F33_8.cols rfl (j := (0 : Int32)) (v := (.ref (af_ 0))) (by decide) (by decide) rfl (f := (mkF m 161 #[.val (.ref o0), .val (.int (nn).toInt32), .val (.long (16 : Int64)), .second, .val (.int gw), .val (.int (0 : Int32))] [(.int (0 : Int32)), (.ref ca), (.int (0 : Int32)), (.ref ca)])) rfl rfl (hb hby d9_161)) ?_
        refine go (u' := T37.setTop (mkF m 164 #[.val (.ref o0), .val (.int (nn).toInt32), .val (.long (16 : Int64)), .second, .val (.int gw), .val (.int (0 : Int32))] [(.int gw), (.ref (af_ 0)), (.int (0 : Int32)), (.ref ca)])) (fun _ ks_ => XS.iload X37.here hx rfl (hb hby d9_162) rfl  ks_) ?_
        obtain ⟨_, _, ⟨T38, L38, k38, n38⟩, -, X38, ⟨Lc38, hQ38, l38, y38, z38⟩, st38⟩ := Jvm.LawKit.callS X37 hx (y := (⟨"java/util/Arrays", "copyOf", "([II)[I"⟩ : MethodName)) hown (mvT hZ (ww hw 92 rfl)) (mvT hZ (ww hw 93 rfl)) (mvT hZ (ww hw 72 rfl)) (mvT hZ (ww hw 94 rfl)) (by decide) (backOf (W := 2) (rm13 l Z a0 hw [] (af_ 0) gw (ln_ 0) (gs_ 0) h33 n0 Z33 (F33_8.ints 0 (own_q0 F8.hf.1)) ⟨own_eqn hgw'.1 hgr.lc, hgw'.2⟩) hZ (ww hw 94 rfl) (ww hw 72 rfl) (by decide) (by decide)) (g := (mkF m 164 #[.val (.ref o0), .val (.int (nn).toInt32), .val (.long (16 : Int64)), .second, .val (.int gw), .val (.int (0 : Int32))] [(.int gw), (.ref (af_ 0)), (.int (0 : Int32)), (.ref ca)])) rfl (by rw [hml]; rfl) (argsL := [(.ref (af_ 0)), (.int gw)]) (rest := [(.int (0 : Int32)), (.ref ca)]) (lenOf pd__40__91_II_41__91_I rfl) rfl (by show 2 * 0 + _ ≤ _; exact Nat.le_of_eq rfl) (hb hby d9_164) (fun _ _ => ⟨rfl, e37, (own_rb (B := 9) (u := 2 * 0) (k := 1) (by decide)), (own_rb (B := 144) (u := 32 * 0) (k := 16) (by decide))⟩)
        dsimp only [Pt.U, Pt.locs, Pt.cells, Pt.slots] at X38 l38 y38 z38 st38 hQ38
        subst l38 y38 z38
        obtain ⟨r38, rfl, N38q, Kq38, Fa39, Fa40, gr_38⟩ := hQ38
        have N38 := Fr.app N33 N38q
        have K38 : Keep h0 T38.heap (Wl o0 na pa xa ca af f) := K33.trans Kq38 all0
        have Z38 : n0 ≤ T38.heap.size := Nat.le_trans Z33 Kq38.1
        have Fa41 : Exa Z T38.heap o0 "com/example/emberlot/emberlot/Slots" := F33_0.keep Kq38
        have Fa42 : Fld Z T38.heap o0 "com/example/emberlot/emberlot/Slots" "expected" "I" (.int E) := F33_1.keep Kq38 nin0
        have Fa43 : Fld Z T38.heap o0 "com/example/emberlot/emberlot/Slots" "nodes" "[Ljava/lang/Object;" (.ref r6) := F33_2.keep Kq38 nin0
        have Fa44 : Fld Z T38.heap o0 "com/example/emberlot/emberlot/Slots" "previous" "[[I" (.ref pa) := F33_3.keep Kq38 nin0
        have Fa45 : Fld Z T38.heap o0 "com/example/emberlot/emberlot/Slots" "next" "[[I" (.ref xa) := F33_4.keep Kq38 nin0
        have Fa46 : Fld Z T38.heap o0 "com/example/emberlot/emberlot/Slots" "columns" "[[I" (.ref ca) := F33_5.keep Kq38 nin0
        have Fa47 : Fld Z T38.heap o0 "com/example/emberlot/emberlot/Slots" "free" "I" (.int fr) := F33_6.keep Kq38 nin0
        have Fa48 : Fld Z T38.heap o0 "com/example/emberlot/emberlot/Slots" "taken" "I" (.int tk) := F33_7.keep Kq38 nin0
        have Fa49 : PI Z T38.heap (af_ 0) .int (ln_ 0) (gs_ 0) := (F33_8.ints 0 (own_q0 F8.hf.1)).keep Kq38 nin0
        have S50 : SlA Z T38.heap n0 o0 r6 pa xa ca af_ f gw.toNatClampNeg ln_ (fun i => if i < nn then nd i else Value.null) gs_ := F33_8.keep0 Kq38
        have ne_o0_r38 : o0 ≠ r38 := Nat.ne_of_lt (Nat.lt_of_lt_of_le F33_0.lt gr_38)
        have g_r38 : n0 ≤ r38 := Nat.le_trans Z33 gr_38
        have sz_r38 : h0.size ≤ r38 := Nat.le_trans K33.1 gr_38
        refine go (u' := T38.setTop (mkF m 167 #[.val (.ref o0), .val (.int (nn).toInt32), .val (.long (16 : Int64)), .second, .val (.int gw), .val (.int (0 : Int32))] [(.ref r38), (.int (0 : Int32)), (.ref ca)])) st38 ?_
        have fr51 : ∀ i, i < 6 + 2 * f → r38 ≠ adr o0 r6 pa xa ca af_ i := own_fresh F33_8 gr_38
        obtain ⟨T52, h52, X52, e52, W52, st52⟩ := own_aastore X38 hx hZ (rfl : T38.heap = _) S50.cols rfl (j := (0 : Int32)) (v := (.ref r38)) (by decide) (by decide) (Or.inr ⟨_, rfl, Ins.self Fa40⟩) (f := (mkF m 167 #[.val (.ref o0), .val (.int (nn).toInt32), .val (.long (16 : Int64)), .second, .val (.int gw), .val (.int (0 : Int32))] [(.ref r38), (.int (0 : Int32)), (.ref ca)])) rfl rfl (hb hby d9_167)
        have N52 := Fr.snoc X52 N38 (S50.lo 4 (own_a5 (by decide)))
        have K52 : Keep h0 h52 (Wl o0 na pa xa ca af f) := K38.wr W52 (hsb 4 (own_a5 (by decide)))
        have Z52 : n0 ≤ h52.size := Nat.le_trans Z38 (Keep.of_wr W52).1
        have Fa53 : Exa Z h52 o0 "com/example/emberlot/emberlot/Slots" := Fa41.wr W52
        have Fa54 : Fld Z h52 o0 "com/example/emberlot/emberlot/Slots" "expected" "I" (.int E) := Fa42.other W52 (Or.inl (S50.inj 0 4 (own_a5 (by decide)) (own_a5 (by decide)) (by decide)))
        have Fa55 : Fld Z h52 o0 "com/example/emberlot/emberlot/Slots" "nodes" "[Ljava/lang/Object;" (.ref r6) := Fa43.other W52 (Or.inl (S50.inj 0 4 (own_a5 (by decide)) (own_a5 (by decide)) (by decide)))
        have Fa56 : Fld Z h52 o0 "com/example/emberlot/emberlot/Slots" "previous" "[[I" (.ref pa) := Fa44.other W52 (Or.inl (S50.inj 0 4 (own_a5 (by decide)) (own_a5 (by decide)) (by decide)))
        have Fa57 : Fld Z h52 o0 "com/example/emberlot/emberlot/Slots" "next" "[[I" (.ref xa) := Fa45.other W52 (Or.inl (S50.inj 0 4 (own_a5 (by decide)) (own_a5 (by decide)) (by decide)))
        have Fa58 : Fld Z h52 o0 "com/example/emberlot/emberlot/Slots" "columns" "[[I" (.ref ca) := Fa46.other W52 (Or.inl (S50.inj 0 4 (own_a5 (by decide)) (own_a5 (by decide)) (by decide)))
        have Fa59 : Fld Z h52 o0 "com/example/emberlot/emberlot/Slots" "free" "I" (.int fr) := Fa47.other W52 (Or.inl (S50.inj 0 4 (own_a5 (by decide)) (own_a5 (by decide)) (by decide)))
        have Fa60 : Fld Z h52 o0 "com/example/emberlot/emberlot/Slots" "taken" "I" (.int tk) := Fa48.other W52 (Or.inl (S50.inj 0 4 (own_a5 (by decide)) (own_a5 (by decide)) (by decide)))
        have S61 : SlA Z h52 n0 o0 r6 pa xa ca (upd af_ 0 r38) f gw.toNatClampNeg (upd ln_ 0 gw.toNatClampNeg) (fun i => if i < nn then nd i else Value.null) (upd gs_ 0 (fun i => if i < (ln_ 0) then (gs_ 0) i else 0)) := S50.wrR (q := 0) (own_q0 F8.hf.1) fr51 g_r38 Fa39 W52 (Or.inr (Or.inr ⟨rfl, (by decide), rfl⟩))
        have sb62 : SubA h0.size o0 na pa xa ca af f r6 (upd af_ 0 r38) := hsb.int sz_r38
        refine go (u' := T52.setTop (mkF m 168 #[.val (.ref o0), .val (.int (nn).toInt32), .val (.long (16 : Int64)), .second, .val (.int gw), .val (.int (0 : Int32))] [])) st52 ?_
        refine go (u' := T52.setTop (mkF m 171 #[.val (.ref o0), .val (.int (nn).toInt32), .val (.long (16 : Int64)), .second, .val (.int gw), .val (.int ((0 : Int32) + (1 : Int32)))] [])) (fun _ ks_ => XS.iinc X52.here hx rfl (hb hby d9_168) rfl (l' := #[.val (.ref o0), .val (.int (nn).toInt32), .val (.long (16 : Int64)), .second, .val (.int gw), .val (.int ((0 : Int32) + (1 : Int32)))]) rfl ks_) ?_
        refine go (u' := T52.setTop (mkF m 139 #[.val (.ref o0), .val (.int (nn).toInt32), .val (.long (16 : Int64)), .second, .val (.int gw), .val (.int ((0 : Int32) + (1 : Int32)))] [])) (fun _ ks_ => XS.goto X52.here hx rfl (pc0 := 171) (pc' := 139) rfl (hb hby d9_171) (by decide) (by decide) ks_) ?_
        refine go (u' := T52.setTop (mkF m 141 #[.val (.ref o0), .val (.int (nn).toInt32), .val (.long (16 : Int64)), .second, .val (.int gw), .val (.int ((0 : Int32) + (1 : Int32)))] [(.int ((0 : Int32) + (1 : Int32)))])) (fun _ ks_ => XS.iload X52.here hx rfl (hb hby d9_139) rfl  ks_) ?_
        refine go (u' := T52.setTop (mkF m 142 #[.val (.ref o0), .val (.int (nn).toInt32), .val (.long (16 : Int64)), .second, .val (.int gw), .val (.int ((0 : Int32) + (1 : Int32)))] [(.ref o0), (.int ((0 : Int32) + (1 : Int32)))])) (fun _ ks_ => XS.aloadN X52.here hx rfl (hb hby d9_141) rfl rfl ks_) ?_
        obtain ⟨T63, X63, e63, st63⟩ := getF X52 hx hZ hown (host := "") (Or.inl (ww hw 33 rfl)) Via.refl e52 Fa58 (g := (mkF m 142 #[.val (.ref o0), .val (.int (nn).toInt32), .val (.long (16 : Int64)), .second, .val (.int gw), .val (.int ((0 : Int32) + (1 : Int32)))] [(.ref o0), (.int ((0 : Int32) + (1 : Int32)))])) rfl rfl (hb hby d9_142)
        refine go (u' := T63.setTop (mkF m 145 #[.val (.ref o0), .val (.int (nn).toInt32), .val (.long (16 : Int64)), .second, .val (.int gw), .val (.int ((0 : Int32) + (1 : Int32)))] [(.ref ca), (.int ((0 : Int32) + (1 : Int32)))])) st63 ?_
        refine go (u' := T63.setTop (mkF m 146 #[.val (.ref o0), .val (.int (nn).toInt32), .val (.long (16 : Int64)), .second, .val (.int gw), .val (.int ((0 : Int32) + (1 : Int32)))] [(.int (1 : Int32)), (.int ((0 : Int32) + (1 : Int32)))])) (own_alenR X63 hx hZ e63 S61.cols (z := (1 : Int32)) rfl (f := (mkF m 145 #[.val (.ref o0), .val (.int (nn).toInt32), .val (.long (16 : Int64)), .second, .val (.int gw), .val (.int ((0 : Int32) + (1 : Int32)))] [(.ref ca), (.int ((0 : Int32) + (1 : Int32)))])) rfl rfl (hb hby d9_145)) ?_
        refine go (u' := T63.setTop (mkF m 174 #[.val (.ref o0), .val (.int (nn).toInt32), .val (.long (16 : Int64)), .second, .val (.int gw), .val (.int ((0 : Int32) + (1 : Int32)))] [])) (fun _ ks_ => XS.icmpYes X63.here hx rfl (pc0 := 146) (pc' := 174) rfl (hb hby d9_146) rfl (flt (show ¬ (((0 : Int32) + (1 : Int32)) < (1 : Int32)) from (by decide))).2.1 (by decide) (by decide) ks_) ?_
        rw [hG]
        refine g0 X63 hx hlk hret (hb hby d9_174) ?_ (own_rb (B := 9) (u := 2 * 0) (k := 1) (by decide)) (own_rb (B := 144) (u := 32 * 0) (k := 16) (by decide))
        show Q_rm9 Z o0 na pa xa ca af f nn ln nd gs E fr tk mr h0 n0 (none) T63.heap _
        rw [e63]
        exact ⟨r6, (upd af_ 0 r38), gw.toNatClampNeg, (upd ln_ 0 gw.toNatClampNeg), (fun i => if i < nn then nd i else Value.null), (upd gs_ 0 (fun i => if i < (ln_ 0) then (gs_ 0) i else 0)), rfl, N52, K52, Fa53, Fa54, Fa55, Fa56, Fa57, Fa58, Fa59, Fa60, S61, sb62, (own_grown hgw' hgE hgr hiz.2 rfl rfl)⟩
      | succ t ih82 =>
        intro fi af_ ln_ gs_ T33 h33 Ls33 X33 e33 N33 Z33 K33 F33_0 F33_1 F33_2 F33_3 F33_4 F33_5 F33_6 F33_7 F33_8 hi hgr hsb
        have hiv := own_fi F8.hf.2 hi
        have htf := own_t4 F8.hf.2 hi
        refine go (u' := T33.setTop (mkF m 84 #[.val (.ref o0), .val (.int (nn).toInt32), .val (.long (16 : Int64)), .second, .val (.int gw), .val (.int fi)] [(.int fi)])) (fun _ ks_ => XS.iload X33.here hx rfl (hb hby d9_82) rfl  ks_) ?_
        refine go (u' := T33.setTop (mkF m 85 #[.val (.ref o0), .val (.int (nn).toInt32), .val (.long (16 : Int64)), .second, .val (.int gw), .val (.int fi)] [(.ref o0), (.int fi)])) (fun _ ks_ => XS.aloadN X33.here hx rfl (hb hby d9_84) rfl rfl ks_) ?_
        obtain ⟨T64, X64, e64, st64⟩ := getF X33 hx hZ hown (host := "") (Or.inl (ww hw 29 rfl)) Via.refl e33 F33_3 (g := (mkF m 85 #[.val (.ref o0), .val (.int (nn).toInt32), .val (.long (16 : Int64)), .second, .val (.int gw), .val (.int fi)] [(.ref o0), (.int fi)])) rfl rfl (hb hby d9_85)
        refine go (u' := T64.setTop (mkF m 88 #[.val (.ref o0), .val (.int (nn).toInt32), .val (.long (16 : Int64)), .second, .val (.int gw), .val (.int fi)] [(.ref pa), (.int fi)])) st64 ?_
        refine go (u' := T64.setTop (mkF m 89 #[.val (.ref o0), .val (.int (nn).toInt32), .val (.long (16 : Int64)), .second, .val (.int gw), .val (.int fi)] [(.int (f).toInt32), (.int fi)])) (own_alenR X64 hx hZ e64 F33_8.prev (z := (f).toInt32) rfl (f := (mkF m 88 #[.val (.ref o0), .val (.int (nn).toInt32), .val (.long (16 : Int64)), .second, .val (.int gw), .val (.int fi)] [(.ref pa), (.int fi)])) rfl rfl (hb hby d9_88)) ?_
        refine go (u' := T64.setTop (mkF m 92 #[.val (.ref o0), .val (.int (nn).toInt32), .val (.long (16 : Int64)), .second, .val (.int gw), .val (.int fi)] [])) (fun _ ks_ => XS.icmpNo X64.here hx rfl (hb hby d9_89) rfl (tlt hiv.2.2.1).2.1 ks_) ?_
        refine go (u' := T64.setTop (mkF m 93 #[.val (.ref o0), .val (.int (nn).toInt32), .val (.long (16 : Int64)), .second, .val (.int gw), .val (.int fi)] [(.ref o0)])) (fun _ ks_ => XS.aloadN X64.here hx rfl (hb hby d9_92) rfl rfl ks_) ?_
        obtain ⟨T65, X65, e65, st65⟩ := getF X64 hx hZ hown (host := "") (Or.inl (ww hw 29 rfl)) Via.refl e64 F33_3 (g := (mkF m 93 #[.val (.ref o0), .val (.int (nn).toInt32), .val (.long (16 : Int64)), .second, .val (.int gw), .val (.int fi)] [(.ref o0)])) rfl rfl (hb hby d9_93)
        refine go (u' := T65.setTop (mkF m 96 #[.val (.ref o0), .val (.int (nn).toInt32), .val (.long (16 : Int64)), .second, .val (.int gw), .val (.int fi)] [(.ref pa)])) st65 ?_
        refine go (u' := T65.setTop (mkF m 98 #[.val (.ref o0), .val (.int (nn).toInt32), .val (.long (16 : Int64)), .second, .val (.int gw), .val (.int fi)] [(.int fi), (.ref pa)])) (fun _ ks_ => XS.iload X65.here hx rfl (hb hby d9_96) rfl  ks_) ?_
        refine go (u' := T65.setTop (mkF m 99 #[.val (.ref o0), .val (.int (nn).toInt32), .val (.long (16 : Int64)), .second, .val (.int gw), .val (.int fi)] [(.ref o0), (.int fi), (.ref pa)])) (fun _ ks_ => XS.aloadN X65.here hx rfl (hb hby d9_98) rfl rfl ks_) ?_
        obtain ⟨T66, X66, e66, st66⟩ := getF X65 hx hZ hown (host := "") (Or.inl (ww hw 29 rfl)) Via.refl e65 F33_3 (g := (mkF m 99 #[.val (.ref o0), .val (.int (nn).toInt32), .val (.long (16 : Int64)), .second, .val (.int gw), .val (.int fi)] [(.ref o0), (.int fi), (.ref pa)])) rfl rfl (hb hby d9_99)
        refine go (u' := T66.setTop (mkF m 102 #[.val (.ref o0), .val (.int (nn).toInt32), .val (.long (16 : Int64)), .second, .val (.int gw), .val (.int fi)] [(.ref pa), (.int fi), (.ref pa)])) st66 ?_
        refine go (u' := T66.setTop (mkF m 104 #[.val (.ref o0), .val (.int (nn).toInt32), .val (.long (16 : Int64)), .second, .val (.int gw), .val (.int fi)] [(.int fi), (.ref pa), (.int fi), (.ref pa)])) (fun _ ks_ => XS.iload X66.here hx rfl (hb hby d9_102) rfl  ks_) ?_
        refine go (u' := T66.setTop (mkF m 105 #[.val (.ref o0), .val (.int (nn).toInt32), .val (.long (16 : Int64)), .second, .val (.int gw), .val (.int fi)] [(.ref (af_ (1 + 2 * fi.toNatClampNeg))), (.int fi), (.ref pa)])) (own_aaload X66 hx hZ e66 F33_8.prev rfl (j := fi) (v := (.ref (af_ (1 + 2 * fi.toNatClampNeg)))) hiv.1 hiv.2.1 rfl (f := (mkF m 104 #[.val (.ref o0), .val (.int (nn).toInt32), .val (.long (16 : Int64)), .second, .val (.int gw), .val (.int fi)] [(.int fi), (.ref pa), (.int fi), (.ref pa)])) rfl rfl (hb hby d9_104)) ?_
        refine go (u' := T66.setTop (mkF m 107 #[.val (.ref o0), .val (.int (nn).toInt32), .val (.long (16 : Int64)), .second, .val (.int gw), .val (.int fi)] [(.int gw), (.ref (af_ (1 + 2 * fi.toNatClampNeg))), (.int fi), (.ref pa)])) (fun _ ks_ => XS.iload X66.here hx rfl (hb hby d9_105) rfl  ks_) ?_
        obtain ⟨_, _, ⟨T67, L67, k67, n67⟩, -, X67, ⟨Lc67, hQ67, l67, y67, z67⟩, st67⟩ := Jvm.LawKit.callS X66 hx (y := (⟨"java/util/Arrays", "copyOf", "([II)[I"⟩ : MethodName)) hown (mvT hZ (ww hw 92 rfl)) (mvT hZ (ww hw 93 rfl)) (mvT hZ (ww hw 72 rfl)) (mvT hZ (ww hw 94 rfl)) (by decide) (backOf (W := 2) (rm13 l Z a0 hw [] (af_ (1 + 2 * fi.toNatClampNeg)) gw (ln_ (1 + 2 * fi.toNatClampNeg)) (gs_ (1 + 2 * fi.toNatClampNeg)) h33 n0 Z33 (F33_8.ints (1 + 2 * fi.toNatClampNeg) hiv.2.2.2.2.2.1) ⟨own_eqn hgw'.1 (hgr.lp hiv.2.2.2.2.2.1), hgw'.2⟩) hZ (ww hw 94 rfl) (ww hw 72 rfl) (by decide) (by decide)) (g := (mkF m 107 #[.val (.ref o0), .val (.int (nn).toInt32), .val (.long (16 : Int64)), .second, .val (.int gw), .val (.int fi)] [(.int gw), (.ref (af_ (1 + 2 * fi.toNatClampNeg))), (.int fi), (.ref pa)])) rfl (by rw [hml]; rfl) (argsL := [(.ref (af_ (1 + 2 * fi.toNatClampNeg))), (.int gw)]) (rest := [(.int fi), (.ref pa)]) (lenOf pd__40__91_II_41__91_I rfl) rfl (by show 2 * 0 + _ ≤ _; exact Nat.le_of_eq rfl) (hb hby d9_107) (fun _ _ => ⟨rfl, e66, (own_rbt (B := 9) (w := 2) (k := 1) (by decide) (Nat.le_trans (Nat.mul_le_mul_left 2 htf) (by decide))), (own_rbt (B := 144) (w := 32) (k := 16) (by decide) (Nat.le_trans (Nat.mul_le_mul_left 32 htf) (by decide)))⟩)
        dsimp only [Pt.U, Pt.locs, Pt.cells, Pt.slots] at X67 l67 y67 z67 st67 hQ67
        subst l67 y67 z67
        obtain ⟨r67, rfl, N67q, Kq67, Fa68, Fa69, gr_67⟩ := hQ67
        have N67 := Fr.app N33 N67q
        have K67 : Keep h0 T67.heap (Wl o0 na pa xa ca af f) := K33.trans Kq67 all0
        have Z67 : n0 ≤ T67.heap.size := Nat.le_trans Z33 Kq67.1
        have Fa70 : Exa Z T67.heap o0 "com/example/emberlot/emberlot/Slots" := F33_0.keep Kq67
        have Fa71 : Fld Z T67.heap o0 "com/example/emberlot/emberlot/Slots" "expected" "I" (.int E) := F33_1.keep Kq67 nin0
        have Fa72 : Fld Z T67.heap o0 "com/example/emberlot/emberlot/Slots" "nodes" "[Ljava/lang/Object;" (.ref r6) := F33_2.keep Kq67 nin0
        have Fa73 : Fld Z T67.heap o0 "com/example/emberlot/emberlot/Slots" "previous" "[[I" (.ref pa) := F33_3.keep Kq67 nin0
        have Fa74 : Fld Z T67.heap o0 "com/example/emberlot/emberlot/Slots" "next" "[[I" (.ref xa) := F33_4.keep Kq67 nin0
        have Fa75 : Fld Z T67.heap o0 "com/example/emberlot/emberlot/Slots" "columns" "[[I" (.ref ca) := F33_5.keep Kq67 nin0
        have Fa76 : Fld Z T67.heap o0 "com/example/emberlot/emberlot/Slots" "free" "I" (.int fr) := F33_6.keep Kq67 nin0
        have Fa77 : Fld Z T67.heap o0 "com/example/emberlot/emberlot/Slots" "taken" "I" (.int tk) := F33_7.keep Kq67 nin0
        have Fa78 : PI Z T67.heap (af_ (1 + 2 * fi.toNatClampNeg)) .int (ln_ (1 + 2 * fi.toNatClampNeg)) (gs_ (1 + 2 * fi.toNatClampNeg)) := (F33_8.ints (1 + 2 * fi.toNatClampNeg) hiv.2.2.2.2.2.1).keep Kq67 nin0
        have S79 : SlA Z T67.heap n0 o0 r6 pa xa ca af_ f gw.toNatClampNeg ln_ (fun i => if i < nn then nd i else Value.null) gs_ := F33_8.keep0 Kq67
        have ne_o0_r67 : o0 ≠ r67 := Nat.ne_of_lt (Nat.lt_of_lt_of_le F33_0.lt gr_67)
        have g_r67 : n0 ≤ r67 := Nat.le_trans Z33 gr_67
        have sz_r67 : h0.size ≤ r67 := Nat.le_trans K33.1 gr_67
        refine go (u' := T67.setTop (mkF m 110 #[.val (.ref o0), .val (.int (nn).toInt32), .val (.long (16 : Int64)), .second, .val (.int gw), .val (.int fi)] [(.ref r67), (.int fi), (.ref pa)])) st67 ?_
        have fr80 : ∀ i, i < 6 + 2 * f → r67 ≠ adr o0 r6 pa xa ca af_ i := own_fresh F33_8 gr_67
        obtain ⟨T81, h81, X81, e81, W81, st81⟩ := own_aastore X67 hx hZ (rfl : T67.heap = _) S79.prev rfl (j := fi) (v := (.ref r67)) hiv.1 hiv.2.1 (Or.inr ⟨_, rfl, Ins.self Fa69⟩) (f := (mkF m 110 #[.val (.ref o0), .val (.int (nn).toInt32), .val (.long (16 : Int64)), .second, .val (.int gw), .val (.int fi)] [(.ref r67), (.int fi), (.ref pa)])) rfl rfl (hb hby d9_110)
        have N81 := Fr.snoc X81 N67 (S79.lo 2 (own_a5 (by decide)))
        have K81 : Keep h0 h81 (Wl o0 na pa xa ca af f) := K67.wr W81 (hsb 2 (own_a5 (by decide)))
        have Z81 : n0 ≤ h81.size := Nat.le_trans Z67 (Keep.of_wr W81).1
        have Fa82 : Exa Z h81 o0 "com/example/emberlot/emberlot/Slots" := Fa70.wr W81
        have Fa83 : Fld Z h81 o0 "com/example/emberlot/emberlot/Slots" "expected" "I" (.int E) := Fa71.other W81 (Or.inl (S79.inj 0 2 (own_a5 (by decide)) (own_a5 (by decide)) (by decide)))
        have Fa84 : Fld Z h81 o0 "com/example/emberlot/emberlot/Slots" "nodes" "[Ljava/lang/Object;" (.ref r6) := Fa72.other W81 (Or.inl (S79.inj 0 2 (own_a5 (by decide)) (own_a5 (by decide)) (by decide)))
        have Fa85 : Fld Z h81 o0 "com/example/emberlot/emberlot/Slots" "previous" "[[I" (.ref pa) := Fa73.other W81 (Or.inl (S79.inj 0 2 (own_a5 (by decide)) (own_a5 (by decide)) (by decide)))
        have Fa86 : Fld Z h81 o0 "com/example/emberlot/emberlot/Slots" "next" "[[I" (.ref xa) := Fa74.other W81 (Or.inl (S79.inj 0 2 (own_a5 (by decide)) (own_a5 (by decide)) (by decide)))
        have Fa87 : Fld Z h81 o0 "com/example/emberlot/emberlot/Slots" "columns" "[[I" (.ref ca) := Fa75.other W81 (Or.inl (S79.inj 0 2 (own_a5 (by decide)) (own_a5 (by decide)) (by decide)))
        have Fa88 : Fld Z h81 o0 "com/example/emberlot/emberlot/Slots" "free" "I" (.int fr) := Fa76.other W81 (Or.inl (S79.inj 0 2 (own_a5 (by decide)) (own_a5 (by decide)) (by decide)))
        have Fa89 : Fld Z h81 o0 "com/example/emberlot/emberlot/Slots" "taken" "I" (.int tk) := Fa77.other W81 (Or.inl (S79.inj 0 2 (own_a5 (by decide)) (own_a5 (by decide)) (by decide)))
        have S90 : SlA Z h81 n0 o0 r6 pa xa ca (upd af_ (1 + 2 * fi.toNatClampNeg) r67) f gw.toNatClampNeg (upd ln_ (1 + 2 * fi.toNatClampNeg) gw.toNatClampNeg) (fun i => if i < nn then nd i else Value.null) (upd gs_ (1 + 2 * fi.toNatClampNeg) (fun i => if i < (ln_ (1 + 2 * fi.toNatClampNeg)) then (gs_ (1 + 2 * fi.toNatClampNeg)) i else 0)) := S79.wrR (q := (1 + 2 * fi.toNatClampNeg)) hiv.2.2.2.2.2.1 fr80 g_r67 Fa68 W81 (Or.inl ⟨rfl, hiv.2.1, rfl⟩)
        have sb91 : SubA h0.size o0 na pa xa ca af f r6 (upd af_ (1 + 2 * fi.toNatClampNeg) r67) := hsb.int sz_r67
        refine go (u' := T81.setTop (mkF m 111 #[.val (.ref o0), .val (.int (nn).toInt32), .val (.long (16 : Int64)), .second, .val (.int gw), .val (.int fi)] [])) st81 ?_
        refine go (u' := T81.setTop (mkF m 112 #[.val (.ref o0), .val (.int (nn).toInt32), .val (.long (16 : Int64)), .second, .val (.int gw), .val (.int fi)] [(.ref o0)])) (fun _ ks_ => XS.aloadN X81.here hx rfl (hb hby d9_111) rfl rfl ks_) ?_
        obtain ⟨T92, X92, e92, st92⟩ := getF X81 hx hZ hown (host := "") (Or.inl (ww hw 31 rfl)) Via.refl e81 Fa86 (g := (mkF m 112 #[.val (.ref o0), .val (.int (nn).toInt32), .val (.long (16 : Int64)), .second, .val (.int gw), .val (.int fi)] [(.ref o0)])) rfl rfl (hb hby d9_112)
        refine go (u' := T92.setTop (mkF m 115 #[.val (.ref o0), .val (.int (nn).toInt32), .val (.long (16 : Int64)), .second, .val (.int gw), .val (.int fi)] [(.ref xa)])) st92 ?_
        refine go (u' := T92.setTop (mkF m 117 #[.val (.ref o0), .val (.int (nn).toInt32), .val (.long (16 : Int64)), .second, .val (.int gw), .val (.int fi)] [(.int fi), (.ref xa)])) (fun _ ks_ => XS.iload X92.here hx rfl (hb hby d9_115) rfl  ks_) ?_
        refine go (u' := T92.setTop (mkF m 118 #[.val (.ref o0), .val (.int (nn).toInt32), .val (.long (16 : Int64)), .second, .val (.int gw), .val (.int fi)] [(.ref o0), (.int fi), (.ref xa)])) (fun _ ks_ => XS.aloadN X92.here hx rfl (hb hby d9_117) rfl rfl ks_) ?_
        obtain ⟨T93, X93, e93, st93⟩ := getF X92 hx hZ hown (host := "") (Or.inl (ww hw 31 rfl)) Via.refl e92 Fa86 (g := (mkF m 118 #[.val (.ref o0), .val (.int (nn).toInt32), .val (.long (16 : Int64)), .second, .val (.int gw), .val (.int fi)] [(.ref o0), (.int fi), (.ref xa)])) rfl rfl (hb hby d9_118)
        refine go (u' := T93.setTop (mkF m 121 #[.val (.ref o0), .val (.int (nn).toInt32), .val (.long (16 : Int64)), .second, .val (.int gw), .val (.int fi)] [(.ref xa), (.int fi), (.ref xa)])) st93 ?_
        refine go (u' := T93.setTop (mkF m 123 #[.val (.ref o0), .val (.int (nn).toInt32), .val (.long (16 : Int64)), .second, .val (.int gw), .val (.int fi)] [(.int fi), (.ref xa), (.int fi), (.ref xa)])) (fun _ ks_ => XS.iload X93.here hx rfl (hb hby d9_121) rfl  ks_) ?_
        refine go (u' := T93.setTop (mkF m 124 #[.val (.ref o0), .val (.int (nn).toInt32), .val (.long (16 : Int64)), .second, .val (.int gw), .val (.int fi)] [(.ref ((upd af_ (1 + 2 * fi.toNatClampNeg) r67) (2 + 2 * fi.toNatClampNeg))), (.int fi), (.ref xa)])) (own_aaload X93 hx hZ e93 S90.next rfl (j := fi) (v := (.ref ((upd af_ (1 + 2 * fi.toNatClampNeg) r67) (2 + 2 * fi.toNatClampNeg)))) hiv.1 hiv.2.1 rfl (f := (mkF m 123 #[.val (.ref o0), .val (.int (nn).toInt32), .val (.long (16 : Int64)), .second, .val (.int gw), .val (.int fi)] [(.int fi), (.ref xa), (.int fi), (.ref xa)])) rfl rfl (hb hby d9_123)) ?_
        refine go (u' := T93.setTop (mkF m 126 #[.val (.ref o0), .val (.int (nn).toInt32), .val (.long (16 : Int64)), .second, .val (.int gw), .val (.int fi)] [(.int gw), (.ref ((upd af_ (1 + 2 * fi.toNatClampNeg) r67) (2 + 2 * fi.toNatClampNeg))), (.int fi), (.ref xa)])) (fun _ ks_ => XS.iload X93.here hx rfl (hb hby d9_124) rfl  ks_) ?_
        obtain ⟨_, _, ⟨T94, L94, k94, n94⟩, -, X94, ⟨Lc94, hQ94, l94, y94, z94⟩, st94⟩ := Jvm.LawKit.callS X93 hx (y := (⟨"java/util/Arrays", "copyOf", "([II)[I"⟩ : MethodName)) hown (mvT hZ (ww hw 92 rfl)) (mvT hZ (ww hw 93 rfl)) (mvT hZ (ww hw 72 rfl)) (mvT hZ (ww hw 94 rfl)) (by decide) (backOf (W := 2) (rm13 l Z a0 hw [] ((upd af_ (1 + 2 * fi.toNatClampNeg) r67) (2 + 2 * fi.toNatClampNeg)) gw ((upd ln_ (1 + 2 * fi.toNatClampNeg) gw.toNatClampNeg) (2 + 2 * fi.toNatClampNeg)) ((upd gs_ (1 + 2 * fi.toNatClampNeg) (fun i => if i < (ln_ (1 + 2 * fi.toNatClampNeg)) then (gs_ (1 + 2 * fi.toNatClampNeg)) i else 0)) (2 + 2 * fi.toNatClampNeg)) h81 n0 Z81 (S90.ints (2 + 2 * fi.toNatClampNeg) hiv.2.2.2.2.2.2) ⟨own_eqn hgw'.1 ((own_updln (by omega)).trans (hgr.lx hiv.2.2.2.2.2.2)), hgw'.2⟩) hZ (ww hw 94 rfl) (ww hw 72 rfl) (by decide) (by decide)) (g := (mkF m 126 #[.val (.ref o0), .val (.int (nn).toInt32), .val (.long (16 : Int64)), .second, .val (.int gw), .val (.int fi)] [(.int gw), (.ref ((upd af_ (1 + 2 * fi.toNatClampNeg) r67) (2 + 2 * fi.toNatClampNeg))), (.int fi), (.ref xa)])) rfl (by rw [hml]; rfl) (argsL := [(.ref ((upd af_ (1 + 2 * fi.toNatClampNeg) r67) (2 + 2 * fi.toNatClampNeg))), (.int gw)]) (rest := [(.int fi), (.ref xa)]) (lenOf pd__40__91_II_41__91_I rfl) rfl (by show 2 * 0 + _ ≤ _; exact Nat.le_of_eq rfl) (hb hby d9_126) (fun _ _ => ⟨rfl, e93, (own_rbt (B := 9) (w := 2) (k := 2) (by decide) (Nat.le_trans (Nat.mul_le_mul_left 2 htf) (by decide))), (own_rbt (B := 144) (w := 32) (k := 32) (by decide) (Nat.le_trans (Nat.mul_le_mul_left 32 htf) (by decide)))⟩)
        dsimp only [Pt.U, Pt.locs, Pt.cells, Pt.slots] at X94 l94 y94 z94 st94 hQ94
        subst l94 y94 z94
        obtain ⟨r94, rfl, N94q, Kq94, Fa95, Fa96, gr_94⟩ := hQ94
        have N94 := Fr.app N81 N94q
        have K94 : Keep h0 T94.heap (Wl o0 na pa xa ca af f) := K81.trans Kq94 all0
        have Z94 : n0 ≤ T94.heap.size := Nat.le_trans Z81 Kq94.1
        have Fa97 : Exa Z T94.heap o0 "com/example/emberlot/emberlot/Slots" := Fa82.keep Kq94
        have Fa98 : Fld Z T94.heap o0 "com/example/emberlot/emberlot/Slots" "expected" "I" (.int E) := Fa83.keep Kq94 nin0
        have Fa99 : Fld Z T94.heap o0 "com/example/emberlot/emberlot/Slots" "nodes" "[Ljava/lang/Object;" (.ref r6) := Fa84.keep Kq94 nin0
        have Fa100 : Fld Z T94.heap o0 "com/example/emberlot/emberlot/Slots" "previous" "[[I" (.ref pa) := Fa85.keep Kq94 nin0
        have Fa101 : Fld Z T94.heap o0 "com/example/emberlot/emberlot/Slots" "next" "[[I" (.ref xa) := Fa86.keep Kq94 nin0
        have Fa102 : Fld Z T94.heap o0 "com/example/emberlot/emberlot/Slots" "columns" "[[I" (.ref ca) := Fa87.keep Kq94 nin0
        have Fa103 : Fld Z T94.heap o0 "com/example/emberlot/emberlot/Slots" "free" "I" (.int fr) := Fa88.keep Kq94 nin0
        have Fa104 : Fld Z T94.heap o0 "com/example/emberlot/emberlot/Slots" "taken" "I" (.int tk) := Fa89.keep Kq94 nin0
        have Fa105 : PI Z T94.heap ((upd af_ (1 + 2 * fi.toNatClampNeg) r67) (2 + 2 * fi.toNatClampNeg)) .int ((upd ln_ (1 + 2 * fi.toNatClampNeg) gw.toNatClampNeg) (2 + 2 * fi.toNatClampNeg)) ((upd gs_ (1 + 2 * fi.toNatClampNeg) (fun i => if i < (ln_ (1 + 2 * fi.toNatClampNeg)) then (gs_ (1 + 2 * fi.toNatClampNeg)) i else 0)) (2 + 2 * fi.toNatClampNeg)) := (S90.ints (2 + 2 * fi.toNatClampNeg) hiv.2.2.2.2.2.2).keep Kq94 nin0
        have S106 : SlA Z T94.heap n0 o0 r6 pa xa ca (upd af_ (1 + 2 * fi.toNatClampNeg) r67) f gw.toNatClampNeg (upd ln_ (1 + 2 * fi.toNatClampNeg) gw.toNatClampNeg) (fun i => if i < nn then nd i else Value.null) (upd gs_ (1 + 2 * fi.toNatClampNeg) (fun i => if i < (ln_ (1 + 2 * fi.toNatClampNeg)) then (gs_ (1 + 2 * fi.toNatClampNeg)) i else 0)) := S90.keep0 Kq94
        have ne_o0_r94 : o0 ≠ r94 := Nat.ne_of_lt (Nat.lt_of_lt_of_le Fa82.lt gr_94)
        have g_r94 : n0 ≤ r94 := Nat.le_trans Z81 gr_94
        have sz_r94 : h0.size ≤ r94 := Nat.le_trans K81.1 gr_94
        refine go (u' := T94.setTop (mkF m 129 #[.val (.ref o0), .val (.int (nn).toInt32), .val (.long (16 : Int64)), .second, .val (.int gw), .val (.int fi)] [(.ref r94), (.int fi), (.ref xa)])) st94 ?_
        have fr107 : ∀ i, i < 6 + 2 * f → r94 ≠ adr o0 r6 pa xa ca (upd af_ (1 + 2 * fi.toNatClampNeg) r67) i := own_fresh S90 gr_94
        obtain ⟨T108, h108, X108, e108, W108, st108⟩ := own_aastore X94 hx hZ (rfl : T94.heap = _) S106.next rfl (j := fi) (v := (.ref r94)) hiv.1 hiv.2.1 (Or.inr ⟨_, rfl, Ins.self Fa96⟩) (f := (mkF m 129 #[.val (.ref o0), .val (.int (nn).toInt32), .val (.long (16 : Int64)), .second, .val (.int gw), .val (.int fi)] [(.ref r94), (.int fi), (.ref xa)])) rfl rfl (hb hby d9_129)
        have N108 := Fr.snoc X108 N94 (S106.lo 3 (own_a5 (by decide)))
        have K108 : Keep h0 h108 (Wl o0 na pa xa ca af f) := K94.wr W108 (sb91 3 (own_a5 (by decide)))
        have Z108 : n0 ≤ h108.size := Nat.le_trans Z94 (Keep.of_wr W108).1
        have Fa109 : Exa Z h108 o0 "com/example/emberlot/emberlot/Slots" := Fa97.wr W108
        have Fa110 : Fld Z h108 o0 "com/example/emberlot/emberlot/Slots" "expected" "I" (.int E) := Fa98.other W108 (Or.inl (S106.inj 0 3 (own_a5 (by decide)) (own_a5 (by decide)) (by decide)))
        have Fa111 : Fld Z h108 o0 "com/example/emberlot/emberlot/Slots" "nodes" "[Ljava/lang/Object;" (.ref r6) := Fa99.other W108 (Or.inl (S106.inj 0 3 (own_a5 (by decide)) (own_a5 (by decide)) (by decide)))
        have Fa112 : Fld Z h108 o0 "com/example/emberlot/emberlot/Slots" "previous" "[[I" (.ref pa) := Fa100.other W108 (Or.inl (S106.inj 0 3 (own_a5 (by decide)) (own_a5 (by decide)) (by decide)))
        have Fa113 : Fld Z h108 o0 "com/example/emberlot/emberlot/Slots" "next" "[[I" (.ref xa) := Fa101.other W108 (Or.inl (S106.inj 0 3 (own_a5 (by decide)) (own_a5 (by decide)) (by decide)))
        have Fa114 : Fld Z h108 o0 "com/example/emberlot/emberlot/Slots" "columns" "[[I" (.ref ca) := Fa102.other W108 (Or.inl (S106.inj 0 3 (own_a5 (by decide)) (own_a5 (by decide)) (by decide)))
        have Fa115 : Fld Z h108 o0 "com/example/emberlot/emberlot/Slots" "free" "I" (.int fr) := Fa103.other W108 (Or.inl (S106.inj 0 3 (own_a5 (by decide)) (own_a5 (by decide)) (by decide)))
        have Fa116 : Fld Z h108 o0 "com/example/emberlot/emberlot/Slots" "taken" "I" (.int tk) := Fa104.other W108 (Or.inl (S106.inj 0 3 (own_a5 (by decide)) (own_a5 (by decide)) (by decide)))
        have S117 : SlA Z h108 n0 o0 r6 pa xa ca (upd (upd af_ (1 + 2 * fi.toNatClampNeg) r67) (2 + 2 * fi.toNatClampNeg) r94) f gw.toNatClampNeg (upd (upd ln_ (1 + 2 * fi.toNatClampNeg) gw.toNatClampNeg) (2 + 2 * fi.toNatClampNeg) gw.toNatClampNeg) (fun i => if i < nn then nd i else Value.null) (upd (upd gs_ (1 + 2 * fi.toNatClampNeg) (fun i => if i < (ln_ (1 + 2 * fi.toNatClampNeg)) then (gs_ (1 + 2 * fi.toNatClampNeg)) i else 0)) (2 + 2 * fi.toNatClampNeg) (fun i => if i < ((upd ln_ (1 + 2 * fi.toNatClampNeg) gw.toNatClampNeg) (2 + 2 * fi.toNatClampNeg)) then ((upd gs_ (1 + 2 * fi.toNatClampNeg) (fun i => if i < (ln_ (1 + 2 * fi.toNatClampNeg)) then (gs_ (1 + 2 * fi.toNatClampNeg)) i else 0)) (2 + 2 * fi.toNatClampNeg)) i else 0)) := S106.wrR (q := (2 + 2 * fi.toNatClampNeg)) hiv.2.2.2.2.2.2 fr107 g_r94 Fa95 W108 (Or.inr (Or.inl ⟨rfl, hiv.2.1, rfl⟩))
        have sb118 : SubA h0.size o0 na pa xa ca af f r6 (upd (upd af_ (1 + 2 * fi.toNatClampNeg) r67) (2 + 2 * fi.toNatClampNeg) r94) := sb91.int sz_r94
        refine go (u' := T108.setTop (mkF m 130 #[.val (.ref o0), .val (.int (nn).toInt32), .val (.long (16 : Int64)), .second, .val (.int gw), .val (.int fi)] [])) st108 ?_
        refine go (u' := T108.setTop (mkF m 133 #[.val (.ref o0), .val (.int (nn).toInt32), .val (.long (16 : Int64)), .second, .val (.int gw), .val (.int (fi + (1 : Int32)))] [])) (fun _ ks_ => XS.iinc X108.here hx rfl (hb hby d9_130) rfl (l' := #[.val (.ref o0), .val (.int (nn).toInt32), .val (.long (16 : Int64)), .second, .val (.int gw), .val (.int (fi + (1 : Int32)))]) rfl ks_) ?_
        refine go (u' := T108.setTop (mkF m 82 #[.val (.ref o0), .val (.int (nn).toInt32), .val (.long (16 : Int64)), .second, .val (.int gw), .val (.int (fi + (1 : Int32)))] [])) (fun _ ks_ => XS.goto X108.here hx rfl (pc0 := 133) (pc' := 82) rfl (hb hby d9_133) (by decide) (by decide) ks_) ?_
        exact ih82 ((fi + (1 : Int32))) ((upd (upd af_ (1 + 2 * fi.toNatClampNeg) r67) (2 + 2 * fi.toNatClampNeg) r94)) ((upd (upd ln_ (1 + 2 * fi.toNatClampNeg) gw.toNatClampNeg) (2 + 2 * fi.toNatClampNeg) gw.toNatClampNeg)) ((upd (upd gs_ (1 + 2 * fi.toNatClampNeg) (fun i => if i < (ln_ (1 + 2 * fi.toNatClampNeg)) then (gs_ (1 + 2 * fi.toNatClampNeg)) i else 0)) (2 + 2 * fi.toNatClampNeg) (fun i => if i < ((upd ln_ (1 + 2 * fi.toNatClampNeg) gw.toNatClampNeg) (2 + 2 * fi.toNatClampNeg)) then ((upd gs_ (1 + 2 * fi.toNatClampNeg) (fun i => if i < (ln_ (1 + 2 * fi.toNatClampNeg)) then (gs_ (1 + 2 * fi.toNatClampNeg)) i else 0)) (2 + 2 * fi.toNatClampNeg)) i else 0))) _ _ _ (X108.more (own_e3 htf) (own_e4 htf)) e108 N108 Z108 K108 Fa109 Fa110 Fa111 Fa112 Fa113 Fa114 Fa115 Fa116 S117 hiv.2.2.2.1 (hgr.step hiv.2.2.2.2.1 hiv.2.2.2.2.2.2 rfl rfl (own_cpx (hgr.lp hiv.2.2.2.2.2.1)) (own_cpxU (hgr.lx hiv.2.2.2.2.2.2))) sb118
    exact C82_2 f ((0 : Int32)) af ln gs _ _ _ (X23.more (own_e1 F8.hf.2) (own_e2 F8.hf.2)) e23 N23 Z23 K23 Fa24 Fa25 Fa32 Fa26 Fa27 Fa28 Fa29 Fa30 S31 ⟨by decide, by simp⟩ (Grn.start hln) sb22
  refine go (u' := T2.setTop (mkF m 21 #[.val (.ref o0), .val (.int (nn).toInt32), .val (.long (16 : Int64)), .second, .unset, .unset] [(.int (nn).toInt32)])) (fun _ ks_ => XS.iloadN X2.here hx rfl (hb hby d9_20) rfl  ks_) ?_
  refine go (u' := T2.setTop (mkF m 22 #[.val (.ref o0), .val (.int (nn).toInt32), .val (.long (16 : Int64)), .second, .unset, .unset] [(.ref o0), (.int (nn).toInt32)])) (fun _ ks_ => XS.aloadN X2.here hx rfl (hb hby d9_21) rfl rfl ks_) ?_
  obtain ⟨T119, X119, e119, st119⟩ := getF X2 hx hZ hown (host := "") (Or.inl (ww hw 24 rfl)) Via.refl eq2 F1 (g := (mkF m 22 #[.val (.ref o0), .val (.int (nn).toInt32), .val (.long (16 : Int64)), .second, .unset, .unset] [(.ref o0), (.int (nn).toInt32)])) rfl rfl (hb hby d9_22)
  refine go (u' := T119.setTop (mkF m 25 #[.val (.ref o0), .val (.int (nn).toInt32), .val (.long (16 : Int64)), .second, .unset, .unset] [(.int E), (.int (nn).toInt32)])) st119 ?_
  by_cases c25_1 : (nn).toInt32 < E
  ·
    refine go (u' := T119.setTop (mkF m 28 #[.val (.ref o0), .val (.int (nn).toInt32), .val (.long (16 : Int64)), .second, .unset, .unset] [])) (fun _ ks_ => XS.icmpNo X119.here hx rfl (hb hby d9_25) rfl (tlt c25_1).2.1 ks_) ?_
    refine go (u' := T119.setTop (mkF m 29 #[.val (.ref o0), .val (.int (nn).toInt32), .val (.long (16 : Int64)), .second, .unset, .unset] [(.long (16 : Int64))])) (fun _ ks_ => XS.lloadN X119.here hx rfl (hb hby d9_28) rfl  ks_) ?_
    refine go (u' := T119.setTop (mkF m 30 #[.val (.ref o0), .val (.int (nn).toInt32), .val (.long (16 : Int64)), .second, .unset, .unset] [(.ref o0), (.long (16 : Int64))])) (fun _ ks_ => XS.aloadN X119.here hx rfl (hb hby d9_29) rfl rfl ks_) ?_
    obtain ⟨T120, X120, e120, st120⟩ := getF X119 hx hZ hown (host := "") (Or.inl (ww hw 24 rfl)) Via.refl e119 F1 (g := (mkF m 30 #[.val (.ref o0), .val (.int (nn).toInt32), .val (.long (16 : Int64)), .second, .unset, .unset] [(.ref o0), (.long (16 : Int64))])) rfl rfl (hb hby d9_30)
    refine go (u' := T120.setTop (mkF m 33 #[.val (.ref o0), .val (.int (nn).toInt32), .val (.long (16 : Int64)), .second, .unset, .unset] [(.int E), (.long (16 : Int64))])) st120 ?_
    refine go (u' := T120.setTop (mkF m 34 #[.val (.ref o0), .val (.int (nn).toInt32), .val (.long (16 : Int64)), .second, .unset, .unset] [(.long (E.toInt64)), (.long (16 : Int64))])) (fun _ ks_ => XS.i2l X120.here hx rfl (hb hby d9_33) rfl ks_) ?_
    obtain ⟨_, _, ⟨T121, L121, k121, n121⟩, -, X121, ⟨Lc121, hQ121, l121, y121, z121⟩, st121⟩ := Jvm.LawKit.callS X120 hx (y := (⟨"java/lang/Math", "min", "(JJ)J"⟩ : MethodName)) hown (mvT hZ (ww hw 21 rfl)) (mvT hZ (ww hw 22 rfl)) (mvT hZ (ww hw 18 rfl)) (mvT hZ (ww hw 23 rfl)) (by decide) (backOf (W := 0) (rm4 l Z a0 hw [] (16 : Int64) (E.toInt64) h0 n0 Z0) hZ (ww hw 23 rfl) (ww hw 18 rfl) (by decide) (by decide)) (g := (mkF m 34 #[.val (.ref o0), .val (.int (nn).toInt32), .val (.long (16 : Int64)), .second, .unset, .unset] [(.long (E.toInt64)), (.long (16 : Int64))])) rfl (by rw [hml]; rfl) (argsL := [(.long (16 : Int64)), (.long (E.toInt64))]) (rest := []) (lenOf pd__40_JJ_41_J rfl) rfl (by show 2 * 0 + _ ≤ _; exact Nat.le_of_eq rfl) (hb hby d9_34) (fun _ _ => ⟨rfl, e120, (by decide : 0 + 0 ≤ _), (by decide : 0 + 0 ≤ _)⟩)
    dsimp only [Pt.U, Pt.locs, Pt.cells, Pt.slots] at X121 l121 y121 z121 st121 hQ121
    subst l121 y121 z121
    obtain ⟨rfl, N121q, eq121⟩ := hQ121
    have N121 := Fr.app N2 N121q
    refine go (u' := T121.setTop (mkF m 37 #[.val (.ref o0), .val (.int (nn).toInt32), .val (.long (16 : Int64)), .second, .unset, .unset] [(.long (if (E.toInt64) < (16 : Int64) then (E.toInt64) else (16 : Int64)))])) st121 ?_
    refine go (u' := T121.setTop (mkF m 41 #[.val (.ref o0), .val (.int (nn).toInt32), .val (.long (16 : Int64)), .second, .unset, .unset] [(.long (if (E.toInt64) < (16 : Int64) then (E.toInt64) else (16 : Int64)))])) (fun _ ks_ => XS.goto X121.here hx rfl (pc0 := 37) (pc' := 41) rfl (hb hby d9_37) (by decide) (by decide) ks_) ?_
    exact C41_1 ((if (E.toInt64) < (16 : Int64) then (E.toInt64) else (16 : Int64))) _ _ _ X121 eq121 N121 Z0 (Keep.refl h0 (Wl o0 na pa xa ca af f)) F0 F1 F2 F3 F4 F5 F6 F7 F8 (own_lvA hn4 c25_1)
  ·
    refine go (u' := T119.setTop (mkF m 40 #[.val (.ref o0), .val (.int (nn).toInt32), .val (.long (16 : Int64)), .second, .unset, .unset] [])) (fun _ ks_ => XS.icmpYes X119.here hx rfl (pc0 := 25) (pc' := 40) rfl (hb hby d9_25) rfl (flt c25_1).2.1 (by decide) (by decide) ks_) ?_
    refine go (u' := T119.setTop (mkF m 41 #[.val (.ref o0), .val (.int (nn).toInt32), .val (.long (16 : Int64)), .second, .unset, .unset] [(.long (16 : Int64))])) (fun _ ks_ => XS.lloadN X119.here hx rfl (hb hby d9_40) rfl  ks_) ?_
    exact C41_1 ((16 : Int64)) _ _ _ X119 e119 N2 Z0 (Keep.refl h0 (Wl o0 na pa xa ca af f)) F0 F1 F2 F3 F4 F5 F6 F7 F8 (own_lvB hn4)
theorem own_fp {a f : Nat} (h : a = f) (hf : 0 < f) : 0 < a := h ▸ hf
theorem pn_com_example_emberlot_emberlot_Slots_add_8 : plainFor (⟨"com/example/emberlot/emberlot/Slots", "add", "(Ljava/lang/Object;)I"⟩ : MethodName) = true := by first | exact plainFor_of_name (by first | (simp [plainName, overriddenIn]; done) | decide +kernel) | decide +kernel
def Q_rm8a (Z : State) (o0 : Addr) (o1 : Addr) (na : Addr) (pa : Addr) (xa : Addr) (ca : Addr) (af : Nat → Addr) (f : Nat) (nn : Nat) (ln : Nat → Nat) (nd : Nat → Value) (gs : Nat → Nat → Int32) (E : Int32) (fr : Int32) (tk : Int32) (h0 : Heap) (n0 : Nat) (v : Option Value) (h : Heap) (L : List Loc) : Prop := ∃ gs1 : Nat → Nat → Int32, v = some (.int fr) ∧ Fr n0 L ∧ Keep h0 h (Wl o0 na pa xa ca af f) ∧ (Exa Z h o0 "com/example/emberlot/emberlot/Slots") ∧ (Fld Z h o0 "com/example/emberlot/emberlot/Slots" "expected" "I" (.int E)) ∧ (Fld Z h o0 "com/example/emberlot/emberlot/Slots" "nodes" "[Ljava/lang/Object;" (.ref na)) ∧ (Fld Z h o0 "com/example/emberlot/emberlot/Slots" "previous" "[[I" (.ref pa)) ∧ (Fld Z h o0 "com/example/emberlot/emberlot/Slots" "next" "[[I" (.ref xa)) ∧ (Fld Z h o0 "com/example/emberlot/emberlot/Slots" "columns" "[[I" (.ref ca)) ∧ (Fld Z h o0 "com/example/emberlot/emberlot/Slots" "free" "I" (.int (gs 2 fr.toNatClampNeg))) ∧ (Fld Z h o0 "com/example/emberlot/emberlot/Slots" "taken" "I" (.int tk)) ∧ (SlA Z h n0 o0 na pa xa ca af f nn ln (upd nd (fr).toNatClampNeg (.ref o1)) gs1) ∧ (gs1 0 = gs 0) ∧ (gs1 2 = upd (gs 2) fr.toNatClampNeg (-1))
set_option maxRecDepth 65536 in
set_option maxHeartbeats 4000000 in
theorem ef_rm8a (m : MethodId) (o0 : Addr) (o1 : Addr) : entryFrame m #[(.ref o0), (.ref o1)] 4 = mkF m 0 #[.val (.ref o0), .val (.ref o1), .unset, .unset] [] := by first | (simp [entryFrame, mkF, argsToLocals, Value.category, maxLocals]; done) | rfl
theorem d8_0 : decode prog_50_method_2_code 0 = .ok (.aload_n 0, 1) := by decide +kernel
theorem d8_1 : decode prog_50_method_2_code 1 = .ok (.getfield 15, 3) := by decide +kernel
theorem d8_4 : decode prog_50_method_2_code 4 = .ok (.iconst (-1), 1) := by decide +kernel
theorem d8_5 : decode prog_50_method_2_code 5 = .ok (.if_icmp .eq 23, 3) := by decide +kernel
theorem d8_8 : decode prog_50_method_2_code 8 = .ok (.aload_n 0, 1) := by decide +kernel
theorem d8_9 : decode prog_50_method_2_code 9 = .ok (.getfield 15, 3) := by decide +kernel
theorem d8_12 : decode prog_50_method_2_code 12 = .ok (.istore_n 2, 1) := by decide +kernel
theorem d8_13 : decode prog_50_method_2_code 13 = .ok (.aload_n 0, 1) := by decide +kernel
theorem d8_14 : decode prog_50_method_2_code 14 = .ok (.aload_n 0, 1) := by decide +kernel
theorem d8_15 : decode prog_50_method_2_code 15 = .ok (.getfield 38, 3) := by decide +kernel
theorem d8_18 : decode prog_50_method_2_code 18 = .ok (.iconst 0, 1) := by decide +kernel
theorem d8_19 : decode prog_50_method_2_code 19 = .ok (.aaload, 1) := by decide +kernel
theorem d8_20 : decode prog_50_method_2_code 20 = .ok (.iload_n 2, 1) := by decide +kernel
theorem d8_21 : decode prog_50_method_2_code 21 = .ok (.iaload, 1) := by decide +kernel
theorem d8_22 : decode prog_50_method_2_code 22 = .ok (.putfield 15, 3) := by decide +kernel
theorem d8_25 : decode prog_50_method_2_code 25 = .ok (.goto 31, 3) := by decide +kernel
theorem d8_56 : decode prog_50_method_2_code 56 = .ok (.aload_n 0, 1) := by decide +kernel
theorem d8_57 : decode prog_50_method_2_code 57 = .ok (.getfield 9, 3) := by decide +kernel
theorem d8_60 : decode prog_50_method_2_code 60 = .ok (.iload_n 2, 1) := by decide +kernel
theorem d8_61 : decode prog_50_method_2_code 61 = .ok (.aload_n 1, 1) := by decide +kernel
theorem d8_62 : decode prog_50_method_2_code 62 = .ok (.aastore, 1) := by decide +kernel
theorem d8_63 : decode prog_50_method_2_code 63 = .ok (.iconst 0, 1) := by decide +kernel
theorem d8_64 : decode prog_50_method_2_code 64 = .ok (.istore_n 3, 1) := by decide +kernel
theorem d8_65 : decode prog_50_method_2_code 65 = .ok (.iload_n 3, 1) := by decide +kernel
theorem d8_66 : decode prog_50_method_2_code 66 = .ok (.aload_n 0, 1) := by decide +kernel
theorem d8_67 : decode prog_50_method_2_code 67 = .ok (.getfield 35, 3) := by decide +kernel
theorem d8_70 : decode prog_50_method_2_code 70 = .ok (.arraylength, 1) := by decide +kernel
theorem d8_71 : decode prog_50_method_2_code 71 = .ok (.if_icmp .ge 27, 3) := by decide +kernel
theorem d8_74 : decode prog_50_method_2_code 74 = .ok (.aload_n 0, 1) := by decide +kernel
theorem d8_75 : decode prog_50_method_2_code 75 = .ok (.getfield 35, 3) := by decide +kernel
theorem d8_78 : decode prog_50_method_2_code 78 = .ok (.iload_n 3, 1) := by decide +kernel
theorem d8_79 : decode prog_50_method_2_code 79 = .ok (.aaload, 1) := by decide +kernel
theorem d8_80 : decode prog_50_method_2_code 80 = .ok (.iload_n 2, 1) := by decide +kernel
theorem d8_81 : decode prog_50_method_2_code 81 = .ok (.iconst (-1), 1) := by decide +kernel
theorem d8_82 : decode prog_50_method_2_code 82 = .ok (.iastore, 1) := by decide +kernel
theorem d8_83 : decode prog_50_method_2_code 83 = .ok (.aload_n 0, 1) := by decide +kernel
theorem d8_84 : decode prog_50_method_2_code 84 = .ok (.getfield 38, 3) := by decide +kernel
theorem d8_87 : decode prog_50_method_2_code 87 = .ok (.iload_n 3, 1) := by decide +kernel
theorem d8_88 : decode prog_50_method_2_code 88 = .ok (.aaload, 1) := by decide +kernel
theorem d8_89 : decode prog_50_method_2_code 89 = .ok (.iload_n 2, 1) := by decide +kernel
theorem d8_90 : decode prog_50_method_2_code 90 = .ok (.iconst (-1), 1) := by decide +kernel
theorem d8_91 : decode prog_50_method_2_code 91 = .ok (.iastore, 1) := by decide +kernel
theorem d8_92 : decode prog_50_method_2_code 92 = .ok (.iinc 3 1, 3) := by decide +kernel
theorem d8_95 : decode prog_50_method_2_code 95 = .ok (.goto (-30), 3) := by decide +kernel
theorem d8_98 : decode prog_50_method_2_code 98 = .ok (.iload_n 2, 1) := by decide +kernel
theorem d8_99 : decode prog_50_method_2_code 99 = .ok (.ireturn, 1) := by decide +kernel
set_option maxRecDepth 65536 in
set_option maxHeartbeats 40000000 in
theorem rm8a (l : Launch) (Z : State) (a0 : Array Value) (hw : ∀ d ∈ tables_1, d.before a0 Z = true) (ws : List Jvm.Cond) (o0 : Addr) (o1 : Addr) (na : Addr) (pa : Addr) (xa : Addr) (ca : Addr) (af : Nat → Addr) (f : Nat) (nn : Nat) (ln : Nat → Nat) (nd : Nat → Value) (gs : Nat → Nat → Int32) (E : Int32) (fr : Int32) (tk : Int32) (h0 : Heap) (n0 : Nat) (Z0 : n0 ≤ h0.size) (F0 : Exa Z h0 o0 "com/example/emberlot/emberlot/Slots") (F1 : Fld Z h0 o0 "com/example/emberlot/emberlot/Slots" "expected" "I" (.int E)) (F2 : Fld Z h0 o0 "com/example/emberlot/emberlot/Slots" "nodes" "[Ljava/lang/Object;" (.ref na)) (F3 : Fld Z h0 o0 "com/example/emberlot/emberlot/Slots" "previous" "[[I" (.ref pa)) (F4 : Fld Z h0 o0 "com/example/emberlot/emberlot/Slots" "next" "[[I" (.ref xa)) (F5 : Fld Z h0 o0 "com/example/emberlot/emberlot/Slots" "columns" "[[I" (.ref ca)) (F6 : Fld Z h0 o0 "com/example/emberlot/emberlot/Slots" "free" "I" (.int fr)) (F7 : Fld Z h0 o0 "com/example/emberlot/emberlot/Slots" "taken" "I" (.int tk)) (F8 : SlA Z h0 n0 o0 na pa xa ca af f nn ln nd gs) (F9 : Exa Z h0 o1 "java/lang/Integer") (hln : ∀ q, q < 1 + 2 * f → ln q = nn) (hfr : ¬ fr = (-1 : Int32)) (hj : ¬ fr < 0 ∧ fr.toNatClampNeg < nn) :
    MetFree l (⟨"com/example/emberlot/emberlot/Slots", "add", "(Ljava/lang/Object;)I"⟩ : MethodName) (head1 (Jvm.Cond.code (⟨"com/example/emberlot/emberlot/Slots", "add", "(Ljava/lang/Object;)I"⟩ : MethodName) prog_50_method_2_code 4 (some .int) :: ws) ({ frames := 0, cells := 0, slots := 0, locals := 0 } : Room)) (fun a U => a = #[(.ref o0), (.ref o1)] ∧ Z.Warmed39 U.vm ∧ U.heap = h0) (fun _ _ _ _ _ => True) (fun _ U o U' => ∃ v L, o = .returned v ∧ Q_rm8a Z o0 o1 na pa xa ca af f nn ln nd gs E fr tk h0 n0 v U'.heap L ∧ FrameEnd U o U' L ({ frames := 0, cells := 0, slots := 0, locals := 0 } : Room).cells ({ frames := 0, cells := 0, slots := 0, locals := 0 } : Room).slots) := by
  refine body pn_com_example_emberlot_emberlot_Slots_add_8 ?_
  intro p e s m below meth c s₁ hx hby hml hown hnm hret hlk hZ e0 X0
  replace hml : c.maxLocals = 4 := hml
  replace hown : s.vm.findClass "com/example/emberlot/emberlot/Slots" = some m.cls := hown
  replace hnm : meth.name = "add" := hnm
  replace hret : meth.sig.returnType = (some .int) := hret
  have N0 := Fr.nil n0
  rw [ef_rm8a]
  obtain ⟨G, hG⟩ : ∃ G, G = End (Q_rm8a Z o0 o1 na pa xa ca af f nn ln nd gs E fr tk h0 n0) s ({ frames := 0, cells := 0, slots := 0, locals := 0 } : Room).cells ({ frames := 0, cells := 0, slots := 0, locals := 0 } : Room).slots := ⟨_, rfl⟩
  rw [← hG]
  have sb0 : SubA h0.size o0 na pa xa ca af f na af := SubA.refl _
  refine go (u' := s₁.setTop (mkF m 1 #[.val (.ref o0), .val (.ref o1), .unset, .unset] [(.ref o0)])) (fun _ ks_ => XS.aloadN X0.here hx rfl (hb hby d8_0) rfl rfl ks_) ?_
  obtain ⟨T1, X1, e1, st1⟩ := getF X0 hx hZ hown (host := "") (Or.inl (ww hw 14 rfl)) Via.refl e0 F6 (g := (mkF m 1 #[.val (.ref o0), .val (.ref o1), .unset, .unset] [(.ref o0)])) rfl rfl (hb hby d8_1)
  refine go (u' := T1.setTop (mkF m 4 #[.val (.ref o0), .val (.ref o1), .unset, .unset] [(.int fr)])) st1 ?_
  refine go (u' := T1.setTop (mkF m 5 #[.val (.ref o0), .val (.ref o1), .unset, .unset] [(.int (-1 : Int32)), (.int fr)])) (fun _ ks_ => XS.iconst X1.here hx rfl (hb hby d8_4) ks_) ?_
  refine go (u' := T1.setTop (mkF m 8 #[.val (.ref o0), .val (.ref o1), .unset, .unset] [])) (fun _ ks_ => XS.icmpNo X1.here hx rfl (hb hby d8_5) rfl (feq hfr).1 ks_) ?_
  refine go (u' := T1.setTop (mkF m 9 #[.val (.ref o0), .val (.ref o1), .unset, .unset] [(.ref o0)])) (fun _ ks_ => XS.aloadN X1.here hx rfl (hb hby d8_8) rfl rfl ks_) ?_
  obtain ⟨T2, X2, e2, st2⟩ := getF X1 hx hZ hown (host := "") (Or.inl (ww hw 14 rfl)) Via.refl e1 F6 (g := (mkF m 9 #[.val (.ref o0), .val (.ref o1), .unset, .unset] [(.ref o0)])) rfl rfl (hb hby d8_9)
  refine go (u' := T2.setTop (mkF m 12 #[.val (.ref o0), .val (.ref o1), .unset, .unset] [(.int fr)])) st2 ?_
  refine go (u' := T2.setTop (mkF m 13 #[.val (.ref o0), .val (.ref o1), .val (.int fr), .unset] [])) (fun _ ks_ => XS.istoreN X2.here hx rfl (hb hby d8_12) rfl  (l' := #[.val (.ref o0), .val (.ref o1), .val (.int fr), .unset]) rfl ks_) ?_
  refine go (u' := T2.setTop (mkF m 14 #[.val (.ref o0), .val (.ref o1), .val (.int fr), .unset] [(.ref o0)])) (fun _ ks_ => XS.aloadN X2.here hx rfl (hb hby d8_13) rfl rfl ks_) ?_
  refine go (u' := T2.setTop (mkF m 15 #[.val (.ref o0), .val (.ref o1), .val (.int fr), .unset] [(.ref o0), (.ref o0)])) (fun _ ks_ => XS.aloadN X2.here hx rfl (hb hby d8_14) rfl rfl ks_) ?_
  obtain ⟨T3, X3, e3, st3⟩ := getF X2 hx hZ hown (host := "") (Or.inl (ww hw 31 rfl)) Via.refl e2 F4 (g := (mkF m 15 #[.val (.ref o0), .val (.ref o1), .val (.int fr), .unset] [(.ref o0), (.ref o0)])) rfl rfl (hb hby d8_15)
  refine go (u' := T3.setTop (mkF m 18 #[.val (.ref o0), .val (.ref o1), .val (.int fr), .unset] [(.ref xa), (.ref o0)])) st3 ?_
  refine go (u' := T3.setTop (mkF m 19 #[.val (.ref o0), .val (.ref o1), .val (.int fr), .unset] [(.int (0 : Int32)), (.ref xa), (.ref o0)])) (fun _ ks_ => XS.iconst X3.here hx rfl (hb hby d8_18) ks_) ?_
  refine go (u' := T3.setTop (mkF m 20 #[.val (.ref o0), .val (.ref o1), .val (.int fr), .unset] [(.ref (af 2)), (.ref o0)])) (own_aaload X3 hx hZ e3 F8.next rfl (j := (0 : Int32)) (v := (.ref (af 2))) (by decide) (own_f0 F8.hf.1) rfl (f := (mkF m 19 #[.val (.ref o0), .val (.ref o1), .val (.int fr), .unset] [(.int (0 : Int32)), (.ref xa), (.ref o0)])) rfl rfl (hb hby d8_19)) ?_
  refine go (u' := T3.setTop (mkF m 21 #[.val (.ref o0), .val (.ref o1), .val (.int fr), .unset] [(.int fr), (.ref (af 2)), (.ref o0)])) (fun _ ks_ => XS.iloadN X3.here hx rfl (hb hby d8_20) rfl  ks_) ?_
  refine go (u' := T3.setTop (mkF m 22 #[.val (.ref o0), .val (.ref o1), .val (.int fr), .unset] [(.int ((gs 2) fr.toNatClampNeg)), (.ref o0)])) (own_iaload X3 hx hZ e3 (F8.ints 2 (own_q2 F8.hf.1)) (j := fr) (v := ((gs 2) fr.toNatClampNeg)) hj.1 (own_lnlt hln (own_q2 F8.hf.1) hj.2) rfl (f := (mkF m 21 #[.val (.ref o0), .val (.ref o1), .val (.int fr), .unset] [(.int fr), (.ref (af 2)), (.ref o0)])) rfl rfl (hb hby d8_21)) ?_
  obtain ⟨T4, h4, X4, e4, W4, st4⟩ := putF X3 hx hZ hown (host := "") (Or.inl (ww hw 14 rfl)) Via.refl e3 F6 F0 (Or.inl (ww hw 15 rfl)) (ww hw 1 rfl) (ty := .int) (by decide) rfl rfl (g := (mkF m 22 #[.val (.ref o0), .val (.ref o1), .val (.int fr), .unset] [(.int ((gs 2) fr.toNatClampNeg)), (.ref o0)])) rfl rfl (hb hby d8_22)
  have N4 := Fr.snoc X4 N0 (F8.lo 0 (own_a5 (by decide)))
  have K4 : Keep h0 h4 (Wl o0 na pa xa ca af f) := (Keep.refl h0 (Wl o0 na pa xa ca af f)).wr W4 (sb0 0 (own_a5 (by decide)))
  have Z4 : n0 ≤ h4.size := Nat.le_trans Z0 (Keep.of_wr W4).1
  have Fa5 : Exa Z h4 o0 "com/example/emberlot/emberlot/Slots" := F0.wr W4
  have Fa6 : Fld Z h4 o0 "com/example/emberlot/emberlot/Slots" "expected" "I" (.int E) := F1.other W4 (Or.inr (slot_ne (Or.inr (ww hw 25 rfl)) (Or.inl (ww hw 15 rfl)) (by decide) (t := .int) (t' := .int) (by decide) (by decide)))
  have Fa7 : Fld Z h4 o0 "com/example/emberlot/emberlot/Slots" "nodes" "[Ljava/lang/Object;" (.ref na) := F2.other W4 (Or.inr (slot_ne (Or.inl (ww hw 13 rfl)) (Or.inl (ww hw 15 rfl)) (by decide) (t := (.array (.object "java/lang/Object"))) (t' := .int) (by decide) (by decide)))
  have Fa8 : Fld Z h4 o0 "com/example/emberlot/emberlot/Slots" "previous" "[[I" (.ref pa) := F3.other W4 (Or.inr (slot_ne (Or.inr (ww hw 30 rfl)) (Or.inl (ww hw 15 rfl)) (by decide) (t := (.array (.array .int))) (t' := .int) (by decide) (by decide)))
  have Fa9 : Fld Z h4 o0 "com/example/emberlot/emberlot/Slots" "next" "[[I" (.ref xa) := F4.other W4 (Or.inr (slot_ne (Or.inr (ww hw 32 rfl)) (Or.inl (ww hw 15 rfl)) (by decide) (t := (.array (.array .int))) (t' := .int) (by decide) (by decide)))
  have Fa10 : Fld Z h4 o0 "com/example/emberlot/emberlot/Slots" "columns" "[[I" (.ref ca) := F5.other W4 (Or.inr (slot_ne (Or.inr (ww hw 34 rfl)) (Or.inl (ww hw 15 rfl)) (by decide) (t := (.array (.array .int))) (t' := .int) (by decide) (by decide)))
  have Fa11 : Fld Z h4 o0 "com/example/emberlot/emberlot/Slots" "taken" "I" (.int tk) := F7.other W4 (Or.inr (slot_ne (Or.inl (ww hw 64 rfl)) (Or.inl (ww hw 15 rfl)) (by decide) (t := .int) (t' := .int) (by decide) (by decide)))
  have Fa12 : Exa Z h4 o1 "java/lang/Integer" := F9.wr W4
  have S13 : SlA Z h4 n0 o0 na pa xa ca af f nn ln nd gs := F8.wrO W4
  have Fa14 : Fld Z h4 o0 "com/example/emberlot/emberlot/Slots" "free" "I" (.int ((gs 2) fr.toNatClampNeg)) := F6.same W4
  refine go (u' := T4.setTop (mkF m 25 #[.val (.ref o0), .val (.ref o1), .val (.int fr), .unset] [])) st4 ?_
  refine go (u' := T4.setTop (mkF m 56 #[.val (.ref o0), .val (.ref o1), .val (.int fr), .unset] [])) (fun _ ks_ => XS.goto X4.here hx rfl (pc0 := 25) (pc' := 56) rfl (hb hby d8_25) (by decide) (by decide) ks_) ?_
  have hjs : ¬ fr < 0 ∧ fr.toNatClampNeg < nn := hj
  have hls : ∀ q, q < 1 + 2 * f → ln q = nn := hln
  refine go (u' := T4.setTop (mkF m 57 #[.val (.ref o0), .val (.ref o1), .val (.int fr), .unset] [(.ref o0)])) (fun _ ks_ => XS.aloadN X4.here hx rfl (hb hby d8_56) rfl rfl ks_) ?_
  obtain ⟨T15, X15, e15, st15⟩ := getF X4 hx hZ hown (host := "") (Or.inl (ww hw 12 rfl)) Via.refl e4 Fa7 (g := (mkF m 57 #[.val (.ref o0), .val (.ref o1), .val (.int fr), .unset] [(.ref o0)])) rfl rfl (hb hby d8_57)
  refine go (u' := T15.setTop (mkF m 60 #[.val (.ref o0), .val (.ref o1), .val (.int fr), .unset] [(.ref na)])) st15 ?_
  refine go (u' := T15.setTop (mkF m 61 #[.val (.ref o0), .val (.ref o1), .val (.int fr), .unset] [(.int fr), (.ref na)])) (fun _ ks_ => XS.iloadN X15.here hx rfl (hb hby d8_60) rfl  ks_) ?_
  refine go (u' := T15.setTop (mkF m 62 #[.val (.ref o0), .val (.ref o1), .val (.int fr), .unset] [(.ref o1), (.int fr), (.ref na)])) (fun _ ks_ => XS.aloadN X15.here hx rfl (hb hby d8_61) rfl rfl ks_) ?_
  obtain ⟨T16, h16, X16, e16, W16, st16⟩ := own_aastore X15 hx hZ e15 S13.nodes rfl (j := fr) (v := (.ref o1)) hjs.1 hjs.2 (Or.inr ⟨_, rfl, Ins.of_exa Fa12 (ww hw 57 rfl)⟩) (f := (mkF m 62 #[.val (.ref o0), .val (.ref o1), .val (.int fr), .unset] [(.ref o1), (.int fr), (.ref na)])) rfl rfl (hb hby d8_62)
  have N16 := Fr.snoc X16 N4 (S13.lo 1 (own_a5 (by decide)))
  have K16 : Keep h0 h16 (Wl o0 na pa xa ca af f) := K4.wr W16 (sb0 1 (own_a5 (by decide)))
  have Z16 : n0 ≤ h16.size := Nat.le_trans Z4 (Keep.of_wr W16).1
  have Fa17 : Exa Z h16 o0 "com/example/emberlot/emberlot/Slots" := Fa5.wr W16
  have Fa18 : Fld Z h16 o0 "com/example/emberlot/emberlot/Slots" "expected" "I" (.int E) := Fa6.other W16 (Or.inl (S13.inj 0 1 (own_a5 (by decide)) (own_a5 (by decide)) (by decide)))
  have Fa19 : Fld Z h16 o0 "com/example/emberlot/emberlot/Slots" "nodes" "[Ljava/lang/Object;" (.ref na) := Fa7.other W16 (Or.inl (S13.inj 0 1 (own_a5 (by decide)) (own_a5 (by decide)) (by decide)))
  have Fa20 : Fld Z h16 o0 "com/example/emberlot/emberlot/Slots" "previous" "[[I" (.ref pa) := Fa8.other W16 (Or.inl (S13.inj 0 1 (own_a5 (by decide)) (own_a5 (by decide)) (by decide)))
  have Fa21 : Fld Z h16 o0 "com/example/emberlot/emberlot/Slots" "next" "[[I" (.ref xa) := Fa9.other W16 (Or.inl (S13.inj 0 1 (own_a5 (by decide)) (own_a5 (by decide)) (by decide)))
  have Fa22 : Fld Z h16 o0 "com/example/emberlot/emberlot/Slots" "columns" "[[I" (.ref ca) := Fa10.other W16 (Or.inl (S13.inj 0 1 (own_a5 (by decide)) (own_a5 (by decide)) (by decide)))
  have Fa23 : Fld Z h16 o0 "com/example/emberlot/emberlot/Slots" "free" "I" (.int ((gs 2) fr.toNatClampNeg)) := Fa14.other W16 (Or.inl (S13.inj 0 1 (own_a5 (by decide)) (own_a5 (by decide)) (by decide)))
  have Fa24 : Fld Z h16 o0 "com/example/emberlot/emberlot/Slots" "taken" "I" (.int tk) := Fa11.other W16 (Or.inl (S13.inj 0 1 (own_a5 (by decide)) (own_a5 (by decide)) (by decide)))
  have Fa25 : Exa Z h16 o1 "java/lang/Integer" := Fa12.wr W16
  have S26 : SlA Z h16 n0 o0 na pa xa ca af f nn ln (upd nd (fr).toNatClampNeg (.ref o1)) gs := S13.wrN hjs.2 (Or.inr ⟨_, rfl, Ins.of_exa Fa12 (ww hw 57 rfl)⟩) W16
  refine go (u' := T16.setTop (mkF m 63 #[.val (.ref o0), .val (.ref o1), .val (.int fr), .unset] [])) st16 ?_
  refine go (u' := T16.setTop (mkF m 64 #[.val (.ref o0), .val (.ref o1), .val (.int fr), .unset] [(.int (0 : Int32))])) (fun _ ks_ => XS.iconst X16.here hx rfl (hb hby d8_63) ks_) ?_
  refine go (u' := T16.setTop (mkF m 65 #[.val (.ref o0), .val (.ref o1), .val (.int fr), .val (.int (0 : Int32))] [])) (fun _ ks_ => XS.istoreN X16.here hx rfl (hb hby d8_64) rfl  (l' := #[.val (.ref o0), .val (.ref o1), .val (.int fr), .val (.int (0 : Int32))]) rfl ks_) ?_
  have C65_1 : ∀ (t : Nat) (fi : Int32) (gs_ : Nat → Nat → Int32) (T27 : State) (h27 : Heap) (Ls27 : List Loc), (Stand p l e ({ frames := 0, cells := 0, slots := 0, locals := 0 } : Room) s m #[(.ref o0), (.ref o1)] below meth c T27 Ls27 0 0) → (T27.heap = h27) → (Fr n0 Ls27) → (n0 ≤ h27.size) → (Keep h0 h27 (Wl o0 na pa xa ca af f)) → (Exa Z h27 o0 "com/example/emberlot/emberlot/Slots") → (Fld Z h27 o0 "com/example/emberlot/emberlot/Slots" "expected" "I" (.int E)) → (Fld Z h27 o0 "com/example/emberlot/emberlot/Slots" "nodes" "[Ljava/lang/Object;" (.ref na)) → (Fld Z h27 o0 "com/example/emberlot/emberlot/Slots" "previous" "[[I" (.ref pa)) → (Fld Z h27 o0 "com/example/emberlot/emberlot/Slots" "next" "[[I" (.ref xa)) → (Fld Z h27 o0 "com/example/emberlot/emberlot/Slots" "columns" "[[I" (.ref ca)) → (Fld Z h27 o0 "com/example/emberlot/emberlot/Slots" "free" "I" (.int ((gs 2) fr.toNatClampNeg))) → (Fld Z h27 o0 "com/example/emberlot/emberlot/Slots" "taken" "I" (.int tk)) → (Exa Z h27 o1 "java/lang/Integer") → (SlA Z h27 n0 o0 na pa xa ca af f nn ln (upd nd (fr).toNatClampNeg (.ref o1)) gs_) → (0 ≤ fi.toInt ∧ fi.toInt + (t : Nat) = f) → (Afl fi.toNatClampNeg fr.toNatClampNeg gs gs_) → Go p.tables e below G (T27.setTop (mkF m 65 #[.val (.ref o0), .val (.ref o1), .val (.int fr), .val (.int fi)] [])) := by
    intro t
    induction t with
    | zero =>
      intro fi gs_ T27 h27 Ls27 X27 e27 N27 Z27 K27 F27_0 F27_1 F27_2 F27_3 F27_4 F27_5 F27_6 F27_7 F27_8 F27_9 hi hA
      have hiz := own_fz F8.hf.2 hi
      refine go (u' := T27.setTop (mkF m 66 #[.val (.ref o0), .val (.ref o1), .val (.int fr), .val (.int fi)] [(.int fi)])) (fun _ ks_ => XS.iloadN X27.here hx rfl (hb hby d8_65) rfl  ks_) ?_
      refine go (u' := T27.setTop (mkF m 67 #[.val (.ref o0), .val (.ref o1), .val (.int fr), .val (.int fi)] [(.ref o0), (.int fi)])) (fun _ ks_ => XS.aloadN X27.here hx rfl (hb hby d8_66) rfl rfl ks_) ?_
      obtain ⟨T28, X28, e28, st28⟩ := getF X27 hx hZ hown (host := "") (Or.inl (ww hw 29 rfl)) Via.refl e27 F27_3 (g := (mkF m 67 #[.val (.ref o0), .val (.ref o1), .val (.int fr), .val (.int fi)] [(.ref o0), (.int fi)])) rfl rfl (hb hby d8_67)
      refine go (u' := T28.setTop (mkF m 70 #[.val (.ref o0), .val (.ref o1), .val (.int fr), .val (.int fi)] [(.ref pa), (.int fi)])) st28 ?_
      refine go (u' := T28.setTop (mkF m 71 #[.val (.ref o0), .val (.ref o1), .val (.int fr), .val (.int fi)] [(.int (f).toInt32), (.int fi)])) (own_alenR X28 hx hZ e28 F27_9.prev (z := (f).toInt32) rfl (f := (mkF m 70 #[.val (.ref o0), .val (.ref o1), .val (.int fr), .val (.int fi)] [(.ref pa), (.int fi)])) rfl rfl (hb hby d8_70)) ?_
      refine go (u' := T28.setTop (mkF m 98 #[.val (.ref o0), .val (.ref o1), .val (.int fr), .val (.int fi)] [])) (fun _ ks_ => XS.icmpYes X28.here hx rfl (pc0 := 71) (pc' := 98) rfl (hb hby d8_71) rfl (flt hiz.1).2.1 (by decide) (by decide) ks_) ?_
      refine go (u' := T28.setTop (mkF m 99 #[.val (.ref o0), .val (.ref o1), .val (.int fr), .val (.int fi)] [(.int fr)])) (fun _ ks_ => XS.iloadN X28.here hx rfl (hb hby d8_98) rfl  ks_) ?_
      rw [hG]
      refine gI X28 hx hlk hret (hb hby d8_99) ?_ (Nat.le_of_ble_eq_true rfl) (Nat.le_of_ble_eq_true rfl)
      show Q_rm8a Z o0 o1 na pa xa ca af f nn ln nd gs E fr tk h0 n0 (some (.int fr)) T28.heap _
      rw [e28]
      exact ⟨gs_, rfl, N27, K27, F27_0, F27_1, F27_2, F27_3, F27_4, F27_5, (by have q := F27_6; simpa [hi, hA] using q), F27_7, F27_9, hA.1, (hA.2.2 (own_fp hiz.2 F8.hf.1))⟩
    | succ t ih65 =>
      intro fi gs_ T27 h27 Ls27 X27 e27 N27 Z27 K27 F27_0 F27_1 F27_2 F27_3 F27_4 F27_5 F27_6 F27_7 F27_8 F27_9 hi hA
      have hiv := own_fi F8.hf.2 hi
      refine go (u' := T27.setTop (mkF m 66 #[.val (.ref o0), .val (.ref o1), .val (.int fr), .val (.int fi)] [(.int fi)])) (fun _ ks_ => XS.iloadN X27.here hx rfl (hb hby d8_65) rfl  ks_) ?_
      refine go (u' := T27.setTop (mkF m 67 #[.val (.ref o0), .val (.ref o1), .val (.int fr), .val (.int fi)] [(.ref o0), (.int fi)])) (fun _ ks_ => XS.aloadN X27.here hx rfl (hb hby d8_66) rfl rfl ks_) ?_
      obtain ⟨T29, X29, e29, st29⟩ := getF X27 hx hZ hown (host := "") (Or.inl (ww hw 29 rfl)) Via.refl e27 F27_3 (g := (mkF m 67 #[.val (.ref o0), .val (.ref o1), .val (.int fr), .val (.int fi)] [(.ref o0), (.int fi)])) rfl rfl (hb hby d8_67)
      refine go (u' := T29.setTop (mkF m 70 #[.val (.ref o0), .val (.ref o1), .val (.int fr), .val (.int fi)] [(.ref pa), (.int fi)])) st29 ?_
      refine go (u' := T29.setTop (mkF m 71 #[.val (.ref o0), .val (.ref o1), .val (.int fr), .val (.int fi)] [(.int (f).toInt32), (.int fi)])) (own_alenR X29 hx hZ e29 F27_9.prev (z := (f).toInt32) rfl (f := (mkF m 70 #[.val (.ref o0), .val (.ref o1), .val (.int fr), .val (.int fi)] [(.ref pa), (.int fi)])) rfl rfl (hb hby d8_70)) ?_
      refine go (u' := T29.setTop (mkF m 74 #[.val (.ref o0), .val (.ref o1), .val (.int fr), .val (.int fi)] [])) (fun _ ks_ => XS.icmpNo X29.here hx rfl (hb hby d8_71) rfl (tlt hiv.2.2.1).2.1 ks_) ?_
      refine go (u' := T29.setTop (mkF m 75 #[.val (.ref o0), .val (.ref o1), .val (.int fr), .val (.int fi)] [(.ref o0)])) (fun _ ks_ => XS.aloadN X29.here hx rfl (hb hby d8_74) rfl rfl ks_) ?_
      obtain ⟨T30, X30, e30, st30⟩ := getF X29 hx hZ hown (host := "") (Or.inl (ww hw 29 rfl)) Via.refl e29 F27_3 (g := (mkF m 75 #[.val (.ref o0), .val (.ref o1), .val (.int fr), .val (.int fi)] [(.ref o0)])) rfl rfl (hb hby d8_75)
      refine go (u' := T30.setTop (mkF m 78 #[.val (.ref o0), .val (.ref o1), .val (.int fr), .val (.int fi)] [(.ref pa)])) st30 ?_
      refine go (u' := T30.setTop (mkF m 79 #[.val (.ref o0), .val (.ref o1), .val (.int fr), .val (.int fi)] [(.int fi), (.ref pa)])) (fun _ ks_ => XS.iloadN X30.here hx rfl (hb hby d8_78) rfl  ks_) ?_
      refine go (u' := T30.setTop (mkF m 80 #[.val (.ref o0), .val (.ref o1), .val (.int fr), .val (.int fi)] [(.ref (af (1 + 2 * fi.toNatClampNeg)))])) (own_aaload X30 hx hZ e30 F27_9.prev rfl (j := fi) (v := (.ref (af (1 + 2 * fi.toNatClampNeg)))) hiv.1 hiv.2.1 rfl (f := (mkF m 79 #[.val (.ref o0), .val (.ref o1), .val (.int fr), .val (.int fi)] [(.int fi), (.ref pa)])) rfl rfl (hb hby d8_79)) ?_
      refine go (u' := T30.setTop (mkF m 81 #[.val (.ref o0), .val (.ref o1), .val (.int fr), .val (.int fi)] [(.int fr), (.ref (af (1 + 2 * fi.toNatClampNeg)))])) (fun _ ks_ => XS.iloadN X30.here hx rfl (hb hby d8_80) rfl  ks_) ?_
      refine go (u' := T30.setTop (mkF m 82 #[.val (.ref o0), .val (.ref o1), .val (.int fr), .val (.int fi)] [(.int (-1 : Int32)), (.int fr), (.ref (af (1 + 2 * fi.toNatClampNeg)))])) (fun _ ks_ => XS.iconst X30.here hx rfl (hb hby d8_81) ks_) ?_
      obtain ⟨T31, h31, X31, e31, W31, st31⟩ := own_iastore X30 hx hZ e30 (F27_9.ints (1 + 2 * fi.toNatClampNeg) hiv.2.2.2.2.2.1) (j := fr) (x := (-1 : Int32)) hjs.1 (own_lnlt hls hiv.2.2.2.2.2.1 hjs.2) (f := (mkF m 82 #[.val (.ref o0), .val (.ref o1), .val (.int fr), .val (.int fi)] [(.int (-1 : Int32)), (.int fr), (.ref (af (1 + 2 * fi.toNatClampNeg)))])) rfl rfl (hb hby d8_82)
      have N31 := Fr.snoc X31 N27 (F27_9.lo ((1 + 2 * fi.toNatClampNeg) + 5) (own_q5 hiv.2.2.2.2.2.1))
      have K31 : Keep h0 h31 (Wl o0 na pa xa ca af f) := K27.wr W31 (sb0 ((1 + 2 * fi.toNatClampNeg) + 5) (own_q5 hiv.2.2.2.2.2.1))
      have Z31 : n0 ≤ h31.size := Nat.le_trans Z27 (Keep.of_wr W31).1
      have Fa32 : Exa Z h31 o0 "com/example/emberlot/emberlot/Slots" := F27_0.wr W31
      have Fa33 : Fld Z h31 o0 "com/example/emberlot/emberlot/Slots" "expected" "I" (.int E) := F27_1.other W31 (Or.inl (F27_9.inj 0 ((1 + 2 * fi.toNatClampNeg) + 5) (own_a5 (by decide)) (own_q5 hiv.2.2.2.2.2.1) (own_ne5 (by decide))))
      have Fa34 : Fld Z h31 o0 "com/example/emberlot/emberlot/Slots" "nodes" "[Ljava/lang/Object;" (.ref na) := F27_2.other W31 (Or.inl (F27_9.inj 0 ((1 + 2 * fi.toNatClampNeg) + 5) (own_a5 (by decide)) (own_q5 hiv.2.2.2.2.2.1) (own_ne5 (by decide))))
      have Fa35 : Fld Z h31 o0 "com/example/emberlot/emberlot/Slots" "previous" "[[I" (.ref pa) := F27_3.other W31 (Or.inl (F27_9.inj 0 ((1 + 2 * fi.toNatClampNeg) + 5) (own_a5 (by decide)) (own_q5 hiv.2.2.2.2.2.1) (own_ne5 (by decide))))
      have Fa36 : Fld Z h31 o0 "com/example/emberlot/emberlot/Slots" "next" "[[I" (.ref xa) := F27_4.other W31 (Or.inl (F27_9.inj 0 ((1 + 2 * fi.toNatClampNeg) + 5) (own_a5 (by decide)) (own_q5 hiv.2.2.2.2.2.1) (own_ne5 (by decide))))
      have Fa37 : Fld Z h31 o0 "com/example/emberlot/emberlot/Slots" "columns" "[[I" (.ref ca) := F27_5.other W31 (Or.inl (F27_9.inj 0 ((1 + 2 * fi.toNatClampNeg) + 5) (own_a5 (by decide)) (own_q5 hiv.2.2.2.2.2.1) (own_ne5 (by decide))))
      have Fa38 : Fld Z h31 o0 "com/example/emberlot/emberlot/Slots" "free" "I" (.int ((gs 2) fr.toNatClampNeg)) := F27_6.other W31 (Or.inl (F27_9.inj 0 ((1 + 2 * fi.toNatClampNeg) + 5) (own_a5 (by decide)) (own_q5 hiv.2.2.2.2.2.1) (own_ne5 (by decide))))
      have Fa39 : Fld Z h31 o0 "com/example/emberlot/emberlot/Slots" "taken" "I" (.int tk) := F27_7.other W31 (Or.inl (F27_9.inj 0 ((1 + 2 * fi.toNatClampNeg) + 5) (own_a5 (by decide)) (own_q5 hiv.2.2.2.2.2.1) (own_ne5 (by decide))))
      have Fa40 : Exa Z h31 o1 "java/lang/Integer" := F27_8.wr W31
      have S41 : SlA Z h31 n0 o0 na pa xa ca af f nn ln (upd nd (fr).toNatClampNeg (.ref o1)) (upd gs_ (1 + 2 * fi.toNatClampNeg) (upd (gs_ (1 + 2 * fi.toNatClampNeg)) (fr).toNatClampNeg (-1 : Int32))) := F27_9.wrI (q := (1 + 2 * fi.toNatClampNeg)) (j := fr) hiv.2.2.2.2.2.1 (own_lnlt hls hiv.2.2.2.2.2.1 hjs.2) W31
      refine go (u' := T31.setTop (mkF m 83 #[.val (.ref o0), .val (.ref o1), .val (.int fr), .val (.int fi)] [])) st31 ?_
      refine go (u' := T31.setTop (mkF m 84 #[.val (.ref o0), .val (.ref o1), .val (.int fr), .val (.int fi)] [(.ref o0)])) (fun _ ks_ => XS.aloadN X31.here hx rfl (hb hby d8_83) rfl rfl ks_) ?_
      obtain ⟨T42, X42, e42, st42⟩ := getF X31 hx hZ hown (host := "") (Or.inl (ww hw 31 rfl)) Via.refl e31 Fa36 (g := (mkF m 84 #[.val (.ref o0), .val (.ref o1), .val (.int fr), .val (.int fi)] [(.ref o0)])) rfl rfl (hb hby d8_84)
      refine go (u' := T42.setTop (mkF m 87 #[.val (.ref o0), .val (.ref o1), .val (.int fr), .val (.int fi)] [(.ref xa)])) st42 ?_
      refine go (u' := T42.setTop (mkF m 88 #[.val (.ref o0), .val (.ref o1), .val (.int fr), .val (.int fi)] [(.int fi), (.ref xa)])) (fun _ ks_ => XS.iloadN X42.here hx rfl (hb hby d8_87) rfl  ks_) ?_
      refine go (u' := T42.setTop (mkF m 89 #[.val (.ref o0), .val (.ref o1), .val (.int fr), .val (.int fi)] [(.ref (af (2 + 2 * fi.toNatClampNeg)))])) (own_aaload X42 hx hZ e42 S41.next rfl (j := fi) (v := (.ref (af (2 + 2 * fi.toNatClampNeg)))) hiv.1 hiv.2.1 rfl (f := (mkF m 88 #[.val (.ref o0), .val (.ref o1), .val (.int fr), .val (.int fi)] [(.int fi), (.ref xa)])) rfl rfl (hb hby d8_88)) ?_
      refine go (u' := T42.setTop (mkF m 90 #[.val (.ref o0), .val (.ref o1), .val (.int fr), .val (.int fi)] [(.int fr), (.ref (af (2 + 2 * fi.toNatClampNeg)))])) (fun _ ks_ => XS.iloadN X42.here hx rfl (hb hby d8_89) rfl  ks_) ?_
      refine go (u' := T42.setTop (mkF m 91 #[.val (.ref o0), .val (.ref o1), .val (.int fr), .val (.int fi)] [(.int (-1 : Int32)), (.int fr), (.ref (af (2 + 2 * fi.toNatClampNeg)))])) (fun _ ks_ => XS.iconst X42.here hx rfl (hb hby d8_90) ks_) ?_
      obtain ⟨T43, h43, X43, e43, W43, st43⟩ := own_iastore X42 hx hZ e42 (S41.ints (2 + 2 * fi.toNatClampNeg) hiv.2.2.2.2.2.2) (j := fr) (x := (-1 : Int32)) hjs.1 (own_lnlt hls hiv.2.2.2.2.2.2 hjs.2) (f := (mkF m 91 #[.val (.ref o0), .val (.ref o1), .val (.int fr), .val (.int fi)] [(.int (-1 : Int32)), (.int fr), (.ref (af (2 + 2 * fi.toNatClampNeg)))])) rfl rfl (hb hby d8_91)
      have N43 := Fr.snoc X43 N31 (S41.lo ((2 + 2 * fi.toNatClampNeg) + 5) (own_q5 hiv.2.2.2.2.2.2))
      have K43 : Keep h0 h43 (Wl o0 na pa xa ca af f) := K31.wr W43 (sb0 ((2 + 2 * fi.toNatClampNeg) + 5) (own_q5 hiv.2.2.2.2.2.2))
      have Z43 : n0 ≤ h43.size := Nat.le_trans Z31 (Keep.of_wr W43).1
      have Fa44 : Exa Z h43 o0 "com/example/emberlot/emberlot/Slots" := Fa32.wr W43
      have Fa45 : Fld Z h43 o0 "com/example/emberlot/emberlot/Slots" "expected" "I" (.int E) := Fa33.other W43 (Or.inl (S41.inj 0 ((2 + 2 * fi.toNatClampNeg) + 5) (own_a5 (by decide)) (own_q5 hiv.2.2.2.2.2.2) (own_ne5 (by decide))))
      have Fa46 : Fld Z h43 o0 "com/example/emberlot/emberlot/Slots" "nodes" "[Ljava/lang/Object;" (.ref na) := Fa34.other W43 (Or.inl (S41.inj 0 ((2 + 2 * fi.toNatClampNeg) + 5) (own_a5 (by decide)) (own_q5 hiv.2.2.2.2.2.2) (own_ne5 (by decide))))
      have Fa47 : Fld Z h43 o0 "com/example/emberlot/emberlot/Slots" "previous" "[[I" (.ref pa) := Fa35.other W43 (Or.inl (S41.inj 0 ((2 + 2 * fi.toNatClampNeg) + 5) (own_a5 (by decide)) (own_q5 hiv.2.2.2.2.2.2) (own_ne5 (by decide))))
      have Fa48 : Fld Z h43 o0 "com/example/emberlot/emberlot/Slots" "next" "[[I" (.ref xa) := Fa36.other W43 (Or.inl (S41.inj 0 ((2 + 2 * fi.toNatClampNeg) + 5) (own_a5 (by decide)) (own_q5 hiv.2.2.2.2.2.2) (own_ne5 (by decide))))
      have Fa49 : Fld Z h43 o0 "com/example/emberlot/emberlot/Slots" "columns" "[[I" (.ref ca) := Fa37.other W43 (Or.inl (S41.inj 0 ((2 + 2 * fi.toNatClampNeg) + 5) (own_a5 (by decide)) (own_q5 hiv.2.2.2.2.2.2) (own_ne5 (by decide))))
      have Fa50 : Fld Z h43 o0 "com/example/emberlot/emberlot/Slots" "free" "I" (.int ((gs 2) fr.toNatClampNeg)) := Fa38.other W43 (Or.inl (S41.inj 0 ((2 + 2 * fi.toNatClampNeg) + 5) (own_a5 (by decide)) (own_q5 hiv.2.2.2.2.2.2) (own_ne5 (by decide))))
      have Fa51 : Fld Z h43 o0 "com/example/emberlot/emberlot/Slots" "taken" "I" (.int tk) := Fa39.other W43 (Or.inl (S41.inj 0 ((2 + 2 * fi.toNatClampNeg) + 5) (own_a5 (by decide)) (own_q5 hiv.2.2.2.2.2.2) (own_ne5 (by decide))))
      have Fa52 : Exa Z h43 o1 "java/lang/Integer" := Fa40.wr W43
      have S53 : SlA Z h43 n0 o0 na pa xa ca af f nn ln (upd nd (fr).toNatClampNeg (.ref o1)) (upd (upd gs_ (1 + 2 * fi.toNatClampNeg) (upd (gs_ (1 + 2 * fi.toNatClampNeg)) (fr).toNatClampNeg (-1 : Int32))) (2 + 2 * fi.toNatClampNeg) (upd ((upd gs_ (1 + 2 * fi.toNatClampNeg) (upd (gs_ (1 + 2 * fi.toNatClampNeg)) (fr).toNatClampNeg (-1 : Int32))) (2 + 2 * fi.toNatClampNeg)) (fr).toNatClampNeg (-1 : Int32))) := S41.wrI (q := (2 + 2 * fi.toNatClampNeg)) (j := fr) hiv.2.2.2.2.2.2 (own_lnlt hls hiv.2.2.2.2.2.2 hjs.2) W43
      refine go (u' := T43.setTop (mkF m 92 #[.val (.ref o0), .val (.ref o1), .val (.int fr), .val (.int fi)] [])) st43 ?_
      refine go (u' := T43.setTop (mkF m 95 #[.val (.ref o0), .val (.ref o1), .val (.int fr), .val (.int (fi + (1 : Int32)))] [])) (fun _ ks_ => XS.iinc X43.here hx rfl (hb hby d8_92) rfl (l' := #[.val (.ref o0), .val (.ref o1), .val (.int fr), .val (.int (fi + (1 : Int32)))]) rfl ks_) ?_
      refine go (u' := T43.setTop (mkF m 65 #[.val (.ref o0), .val (.ref o1), .val (.int fr), .val (.int (fi + (1 : Int32)))] [])) (fun _ ks_ => XS.goto X43.here hx rfl (pc0 := 95) (pc' := 65) rfl (hb hby d8_95) (by decide) (by decide) ks_) ?_
      exact ih65 ((fi + (1 : Int32))) ((upd (upd gs_ (1 + 2 * fi.toNatClampNeg) (upd (gs_ (1 + 2 * fi.toNatClampNeg)) (fr).toNatClampNeg (-1 : Int32))) (2 + 2 * fi.toNatClampNeg) (upd ((upd gs_ (1 + 2 * fi.toNatClampNeg) (upd (gs_ (1 + 2 * fi.toNatClampNeg)) (fr).toNatClampNeg (-1 : Int32))) (2 + 2 * fi.toNatClampNeg)) (fr).toNatClampNeg (-1 : Int32)))) _ _ _ X43 e43 N43 Z43 K43 Fa44 Fa45 Fa46 Fa47 Fa48 Fa49 Fa50 Fa51 Fa52 S53 hiv.2.2.2.1 (hA.step hiv.2.2.2.2.1)
  exact C65_1 f ((0 : Int32)) gs _ _ _ X16 e16 N16 Z16 K16 Fa17 Fa18 Fa19 Fa20 Fa21 Fa22 Fa23 Fa24 Fa25 S26 ⟨by decide, by simp⟩ Afl.start
def Q_rm8n (Z : State) (o0 : Addr) (o1 : Addr) (na : Addr) (pa : Addr) (xa : Addr) (ca : Addr) (af : Nat → Addr) (f : Nat) (nn : Nat) (ln : Nat → Nat) (nd : Nat → Value) (gs : Nat → Nat → Int32) (E : Int32) (fr : Int32) (tk : Int32) (h0 : Heap) (n0 : Nat) (v : Option Value) (h : Heap) (L : List Loc) : Prop := ∃ na1 : Addr, ∃ af1 : Nat → Addr, ∃ n1 : Nat, ∃ ln1 : Nat → Nat, ∃ nd1 : Nat → Value, ∃ gs1 : Nat → Nat → Int32, v = some (.int tk) ∧ Fr n0 L ∧ Keep h0 h (Wl o0 na pa xa ca af f) ∧ (Exa Z h o0 "com/example/emberlot/emberlot/Slots") ∧ (Fld Z h o0 "com/example/emberlot/emberlot/Slots" "expected" "I" (.int E)) ∧ (Fld Z h o0 "com/example/emberlot/emberlot/Slots" "nodes" "[Ljava/lang/Object;" (.ref na1)) ∧ (Fld Z h o0 "com/example/emberlot/emberlot/Slots" "previous" "[[I" (.ref pa)) ∧ (Fld Z h o0 "com/example/emberlot/emberlot/Slots" "next" "[[I" (.ref xa)) ∧ (Fld Z h o0 "com/example/emberlot/emberlot/Slots" "columns" "[[I" (.ref ca)) ∧ (Fld Z h o0 "com/example/emberlot/emberlot/Slots" "free" "I" (.int fr)) ∧ (Fld Z h o0 "com/example/emberlot/emberlot/Slots" "taken" "I" (.int (tk + (1 : Int32)))) ∧ (SlA Z h n0 o0 na1 pa xa ca af1 f n1 ln1 nd1 gs1) ∧ (SubA h0.size o0 na pa xa ca af f na1 af1) ∧ (Added f tk.toNatClampNeg nd gs o1 n1 ln1 nd1 gs1) ∧ (n1 = nn)
set_option maxRecDepth 65536 in
set_option maxHeartbeats 4000000 in
theorem ef_rm8n (m : MethodId) (o0 : Addr) (o1 : Addr) : entryFrame m #[(.ref o0), (.ref o1)] 4 = mkF m 0 #[.val (.ref o0), .val (.ref o1), .unset, .unset] [] := by first | (simp [entryFrame, mkF, argsToLocals, Value.category, maxLocals]; done) | rfl
theorem d8_28 : decode prog_50_method_2_code 28 = .ok (.aload_n 0, 1) := by decide +kernel
theorem d8_29 : decode prog_50_method_2_code 29 = .ok (.getfield 44, 3) := by decide +kernel
theorem d8_32 : decode prog_50_method_2_code 32 = .ok (.aload_n 0, 1) := by decide +kernel
theorem d8_33 : decode prog_50_method_2_code 33 = .ok (.getfield 9, 3) := by decide +kernel
theorem d8_36 : decode prog_50_method_2_code 36 = .ok (.arraylength, 1) := by decide +kernel
theorem d8_37 : decode prog_50_method_2_code 37 = .ok (.if_icmp .ne 7, 3) := by decide +kernel
theorem d8_44 : decode prog_50_method_2_code 44 = .ok (.aload_n 0, 1) := by decide +kernel
theorem d8_45 : decode prog_50_method_2_code 45 = .ok (.dup, 1) := by decide +kernel
theorem d8_46 : decode prog_50_method_2_code 46 = .ok (.getfield 44, 3) := by decide +kernel
theorem d8_49 : decode prog_50_method_2_code 49 = .ok (.dup_x1, 1) := by decide +kernel
theorem d8_50 : decode prog_50_method_2_code 50 = .ok (.iconst 1, 1) := by decide +kernel
theorem d8_51 : decode prog_50_method_2_code 51 = .ok (.iadd, 1) := by decide +kernel
theorem d8_52 : decode prog_50_method_2_code 52 = .ok (.putfield 44, 3) := by decide +kernel
theorem d8_55 : decode prog_50_method_2_code 55 = .ok (.istore_n 2, 1) := by decide +kernel
set_option maxRecDepth 65536 in
set_option maxHeartbeats 40000000 in
theorem rm8n (l : Launch) (Z : State) (a0 : Array Value) (hw : ∀ d ∈ tables_1, d.before a0 Z = true) (ws : List Jvm.Cond) (o0 : Addr) (o1 : Addr) (na : Addr) (pa : Addr) (xa : Addr) (ca : Addr) (af : Nat → Addr) (f : Nat) (nn : Nat) (ln : Nat → Nat) (nd : Nat → Value) (gs : Nat → Nat → Int32) (E : Int32) (fr : Int32) (tk : Int32) (h0 : Heap) (n0 : Nat) (Z0 : n0 ≤ h0.size) (F0 : Exa Z h0 o0 "com/example/emberlot/emberlot/Slots") (F1 : Fld Z h0 o0 "com/example/emberlot/emberlot/Slots" "expected" "I" (.int E)) (F2 : Fld Z h0 o0 "com/example/emberlot/emberlot/Slots" "nodes" "[Ljava/lang/Object;" (.ref na)) (F3 : Fld Z h0 o0 "com/example/emberlot/emberlot/Slots" "previous" "[[I" (.ref pa)) (F4 : Fld Z h0 o0 "com/example/emberlot/emberlot/Slots" "next" "[[I" (.ref xa)) (F5 : Fld Z h0 o0 "com/example/emberlot/emberlot/Slots" "columns" "[[I" (.ref ca)) (F6 : Fld Z h0 o0 "com/example/emberlot/emberlot/Slots" "free" "I" (.int fr)) (F7 : Fld Z h0 o0 "com/example/emberlot/emberlot/Slots" "taken" "I" (.int tk)) (F8 : SlA Z h0 n0 o0 na pa xa ca af f nn ln nd gs) (F9 : Exa Z h0 o1 "java/lang/Integer") (hln : ∀ q, q < 1 + 2 * f → ln q = nn) (hfr : fr = (-1 : Int32)) (htk : ¬ tk = (nn).toInt32) (hj : ¬ tk < 0 ∧ tk.toNatClampNeg < nn) (h16 : nn ≤ 16) :
    MetFree l (⟨"com/example/emberlot/emberlot/Slots", "add", "(Ljava/lang/Object;)I"⟩ : MethodName) (head1 (Jvm.Cond.code (⟨"com/example/emberlot/emberlot/Slots", "add", "(Ljava/lang/Object;)I"⟩ : MethodName) prog_50_method_2_code 4 (some .int) :: ws) ({ frames := 0, cells := 0, slots := 0, locals := 0 } : Room)) (fun a U => a = #[(.ref o0), (.ref o1)] ∧ Z.Warmed39 U.vm ∧ U.heap = h0) (fun _ _ _ _ _ => True) (fun _ U o U' => ∃ v L, o = .returned v ∧ Q_rm8n Z o0 o1 na pa xa ca af f nn ln nd gs E fr tk h0 n0 v U'.heap L ∧ FrameEnd U o U' L ({ frames := 0, cells := 0, slots := 0, locals := 0 } : Room).cells ({ frames := 0, cells := 0, slots := 0, locals := 0 } : Room).slots) := by
  refine body pn_com_example_emberlot_emberlot_Slots_add_8 ?_
  intro p e s m below meth c s₁ hx hby hml hown hnm hret hlk hZ e0 X0
  replace hml : c.maxLocals = 4 := hml
  replace hown : s.vm.findClass "com/example/emberlot/emberlot/Slots" = some m.cls := hown
  replace hnm : meth.name = "add" := hnm
  replace hret : meth.sig.returnType = (some .int) := hret
  have N0 := Fr.nil n0
  rw [ef_rm8n]
  obtain ⟨G, hG⟩ : ∃ G, G = End (Q_rm8n Z o0 o1 na pa xa ca af f nn ln nd gs E fr tk h0 n0) s ({ frames := 0, cells := 0, slots := 0, locals := 0 } : Room).cells ({ frames := 0, cells := 0, slots := 0, locals := 0 } : Room).slots := ⟨_, rfl⟩
  rw [← hG]
  have sb0 : SubA h0.size o0 na pa xa ca af f na af := SubA.refl _
  refine go (u' := s₁.setTop (mkF m 1 #[.val (.ref o0), .val (.ref o1), .unset, .unset] [(.ref o0)])) (fun _ ks_ => XS.aloadN X0.here hx rfl (hb hby d8_0) rfl rfl ks_) ?_
  obtain ⟨T1, X1, e1, st1⟩ := getF X0 hx hZ hown (host := "") (Or.inl (ww hw 14 rfl)) Via.refl e0 F6 (g := (mkF m 1 #[.val (.ref o0), .val (.ref o1), .unset, .unset] [(.ref o0)])) rfl rfl (hb hby d8_1)
  refine go (u' := T1.setTop (mkF m 4 #[.val (.ref o0), .val (.ref o1), .unset, .unset] [(.int fr)])) st1 ?_
  refine go (u' := T1.setTop (mkF m 5 #[.val (.ref o0), .val (.ref o1), .unset, .unset] [(.int (-1 : Int32)), (.int fr)])) (fun _ ks_ => XS.iconst X1.here hx rfl (hb hby d8_4) ks_) ?_
  refine go (u' := T1.setTop (mkF m 28 #[.val (.ref o0), .val (.ref o1), .unset, .unset] [])) (fun _ ks_ => XS.icmpYes X1.here hx rfl (pc0 := 5) (pc' := 28) rfl (hb hby d8_5) rfl (teq hfr).1 (by decide) (by decide) ks_) ?_
  refine go (u' := T1.setTop (mkF m 29 #[.val (.ref o0), .val (.ref o1), .unset, .unset] [(.ref o0)])) (fun _ ks_ => XS.aloadN X1.here hx rfl (hb hby d8_28) rfl rfl ks_) ?_
  obtain ⟨T2, X2, e2, st2⟩ := getF X1 hx hZ hown (host := "") (Or.inl (ww hw 63 rfl)) Via.refl e1 F7 (g := (mkF m 29 #[.val (.ref o0), .val (.ref o1), .unset, .unset] [(.ref o0)])) rfl rfl (hb hby d8_29)
  refine go (u' := T2.setTop (mkF m 32 #[.val (.ref o0), .val (.ref o1), .unset, .unset] [(.int tk)])) st2 ?_
  refine go (u' := T2.setTop (mkF m 33 #[.val (.ref o0), .val (.ref o1), .unset, .unset] [(.ref o0), (.int tk)])) (fun _ ks_ => XS.aloadN X2.here hx rfl (hb hby d8_32) rfl rfl ks_) ?_
  obtain ⟨T3, X3, e3, st3⟩ := getF X2 hx hZ hown (host := "") (Or.inl (ww hw 12 rfl)) Via.refl e2 F2 (g := (mkF m 33 #[.val (.ref o0), .val (.ref o1), .unset, .unset] [(.ref o0), (.int tk)])) rfl rfl (hb hby d8_33)
  refine go (u' := T3.setTop (mkF m 36 #[.val (.ref o0), .val (.ref o1), .unset, .unset] [(.ref na), (.int tk)])) st3 ?_
  refine go (u' := T3.setTop (mkF m 37 #[.val (.ref o0), .val (.ref o1), .unset, .unset] [(.int (nn).toInt32), (.int tk)])) (own_alenR X3 hx hZ e3 F8.nodes (z := (nn).toInt32) rfl (f := (mkF m 36 #[.val (.ref o0), .val (.ref o1), .unset, .unset] [(.ref na), (.int tk)])) rfl rfl (hb hby d8_36)) ?_
  refine go (u' := T3.setTop (mkF m 44 #[.val (.ref o0), .val (.ref o1), .unset, .unset] [])) (fun _ ks_ => XS.icmpYes X3.here hx rfl (pc0 := 37) (pc' := 44) rfl (hb hby d8_37) rfl (feq htk).2 (by decide) (by decide) ks_) ?_
  refine go (u' := T3.setTop (mkF m 45 #[.val (.ref o0), .val (.ref o1), .unset, .unset] [(.ref o0)])) (fun _ ks_ => XS.aloadN X3.here hx rfl (hb hby d8_44) rfl rfl ks_) ?_
  refine go (u' := T3.setTop (mkF m 46 #[.val (.ref o0), .val (.ref o1), .unset, .unset] [(.ref o0), (.ref o0)])) (fun _ ks_ => XS.dup X3.here hx rfl (hb hby d8_45) rfl rfl ks_) ?_
  obtain ⟨T4, X4, e4, st4⟩ := getF X3 hx hZ hown (host := "") (Or.inl (ww hw 63 rfl)) Via.refl e3 F7 (g := (mkF m 46 #[.val (.ref o0), .val (.ref o1), .unset, .unset] [(.ref o0), (.ref o0)])) rfl rfl (hb hby d8_46)
  refine go (u' := T4.setTop (mkF m 49 #[.val (.ref o0), .val (.ref o1), .unset, .unset] [(.int tk), (.ref o0)])) st4 ?_
  refine go (u' := T4.setTop (mkF m 50 #[.val (.ref o0), .val (.ref o1), .unset, .unset] [(.int tk), (.ref o0), (.int tk)])) (fun _ ks_ => XS.dupX1 X4.here hx rfl (hb hby d8_49) rfl rfl rfl ks_) ?_
  refine go (u' := T4.setTop (mkF m 51 #[.val (.ref o0), .val (.ref o1), .unset, .unset] [(.int (1 : Int32)), (.int tk), (.ref o0), (.int tk)])) (fun _ ks_ => XS.iconst X4.here hx rfl (hb hby d8_50) ks_) ?_
  refine go (u' := T4.setTop (mkF m 52 #[.val (.ref o0), .val (.ref o1), .unset, .unset] [(.int (tk + (1 : Int32))), (.ref o0), (.int tk)])) (fun _ ks_ => XS.iadd X4.here hx rfl (hb hby d8_51) rfl ks_) ?_
  obtain ⟨T5, h5, X5, e5, W5, st5⟩ := putF X4 hx hZ hown (host := "") (Or.inl (ww hw 63 rfl)) Via.refl e4 F7 F0 (Or.inl (ww hw 64 rfl)) (ww hw 1 rfl) (ty := .int) (by decide) rfl rfl (g := (mkF m 52 #[.val (.ref o0), .val (.ref o1), .unset, .unset] [(.int (tk + (1 : Int32))), (.ref o0), (.int tk)])) rfl rfl (hb hby d8_52)
  have N5 := Fr.snoc X5 N0 (F8.lo 0 (own_a5 (by decide)))
  have K5 : Keep h0 h5 (Wl o0 na pa xa ca af f) := (Keep.refl h0 (Wl o0 na pa xa ca af f)).wr W5 (sb0 0 (own_a5 (by decide)))
  have Z5 : n0 ≤ h5.size := Nat.le_trans Z0 (Keep.of_wr W5).1
  have Fa6 : Exa Z h5 o0 "com/example/emberlot/emberlot/Slots" := F0.wr W5
  have Fa7 : Fld Z h5 o0 "com/example/emberlot/emberlot/Slots" "expected" "I" (.int E) := F1.other W5 (Or.inr (slot_ne (Or.inr (ww hw 25 rfl)) (Or.inl (ww hw 64 rfl)) (by decide) (t := .int) (t' := .int) (by decide) (by decide)))
  have Fa8 : Fld Z h5 o0 "com/example/emberlot/emberlot/Slots" "nodes" "[Ljava/lang/Object;" (.ref na) := F2.other W5 (Or.inr (slot_ne (Or.inl (ww hw 13 rfl)) (Or.inl (ww hw 64 rfl)) (by decide) (t := (.array (.object "java/lang/Object"))) (t' := .int) (by decide) (by decide)))
  have Fa9 : Fld Z h5 o0 "com/example/emberlot/emberlot/Slots" "previous" "[[I" (.ref pa) := F3.other W5 (Or.inr (slot_ne (Or.inr (ww hw 30 rfl)) (Or.inl (ww hw 64 rfl)) (by decide) (t := (.array (.array .int))) (t' := .int) (by decide) (by decide)))
  have Fa10 : Fld Z h5 o0 "com/example/emberlot/emberlot/Slots" "next" "[[I" (.ref xa) := F4.other W5 (Or.inr (slot_ne (Or.inr (ww hw 32 rfl)) (Or.inl (ww hw 64 rfl)) (by decide) (t := (.array (.array .int))) (t' := .int) (by decide) (by decide)))
  have Fa11 : Fld Z h5 o0 "com/example/emberlot/emberlot/Slots" "columns" "[[I" (.ref ca) := F5.other W5 (Or.inr (slot_ne (Or.inr (ww hw 34 rfl)) (Or.inl (ww hw 64 rfl)) (by decide) (t := (.array (.array .int))) (t' := .int) (by decide) (by decide)))
  have Fa12 : Fld Z h5 o0 "com/example/emberlot/emberlot/Slots" "free" "I" (.int fr) := F6.other W5 (Or.inr (slot_ne (Or.inl (ww hw 15 rfl)) (Or.inl (ww hw 64 rfl)) (by decide) (t := .int) (t' := .int) (by decide) (by decide)))
  have Fa13 : Exa Z h5 o1 "java/lang/Integer" := F9.wr W5
  have S14 : SlA Z h5 n0 o0 na pa xa ca af f nn ln nd gs := F8.wrO W5
  have Fa15 : Fld Z h5 o0 "com/example/emberlot/emberlot/Slots" "taken" "I" (.int (tk + (1 : Int32))) := F7.same W5
  refine go (u' := T5.setTop (mkF m 55 #[.val (.ref o0), .val (.ref o1), .unset, .unset] [(.int tk)])) st5 ?_
  refine go (u' := T5.setTop (mkF m 56 #[.val (.ref o0), .val (.ref o1), .val (.int tk), .unset] [])) (fun _ ks_ => XS.istoreN X5.here hx rfl (hb hby d8_55) rfl  (l' := #[.val (.ref o0), .val (.ref o1), .val (.int tk), .unset]) rfl ks_) ?_
  have hjs : ¬ tk < 0 ∧ tk.toNatClampNeg < nn := hj
  have hls : ∀ q, q < 1 + 2 * f → ln q = nn := hln
  refine go (u' := T5.setTop (mkF m 57 #[.val (.ref o0), .val (.ref o1), .val (.int tk), .unset] [(.ref o0)])) (fun _ ks_ => XS.aloadN X5.here hx rfl (hb hby d8_56) rfl rfl ks_) ?_
  obtain ⟨T16, X16, e16, st16⟩ := getF X5 hx hZ hown (host := "") (Or.inl (ww hw 12 rfl)) Via.refl e5 Fa8 (g := (mkF m 57 #[.val (.ref o0), .val (.ref o1), .val (.int tk), .unset] [(.ref o0)])) rfl rfl (hb hby d8_57)
  refine go (u' := T16.setTop (mkF m 60 #[.val (.ref o0), .val (.ref o1), .val (.int tk), .unset] [(.ref na)])) st16 ?_
  refine go (u' := T16.setTop (mkF m 61 #[.val (.ref o0), .val (.ref o1), .val (.int tk), .unset] [(.int tk), (.ref na)])) (fun _ ks_ => XS.iloadN X16.here hx rfl (hb hby d8_60) rfl  ks_) ?_
  refine go (u' := T16.setTop (mkF m 62 #[.val (.ref o0), .val (.ref o1), .val (.int tk), .unset] [(.ref o1), (.int tk), (.ref na)])) (fun _ ks_ => XS.aloadN X16.here hx rfl (hb hby d8_61) rfl rfl ks_) ?_
  obtain ⟨T17, h17, X17, e17, W17, st17⟩ := own_aastore X16 hx hZ e16 S14.nodes rfl (j := tk) (v := (.ref o1)) hjs.1 hjs.2 (Or.inr ⟨_, rfl, Ins.of_exa Fa13 (ww hw 57 rfl)⟩) (f := (mkF m 62 #[.val (.ref o0), .val (.ref o1), .val (.int tk), .unset] [(.ref o1), (.int tk), (.ref na)])) rfl rfl (hb hby d8_62)
  have N17 := Fr.snoc X17 N5 (S14.lo 1 (own_a5 (by decide)))
  have K17 : Keep h0 h17 (Wl o0 na pa xa ca af f) := K5.wr W17 (sb0 1 (own_a5 (by decide)))
  have Z17 : n0 ≤ h17.size := Nat.le_trans Z5 (Keep.of_wr W17).1
  have Fa18 : Exa Z h17 o0 "com/example/emberlot/emberlot/Slots" := Fa6.wr W17
  have Fa19 : Fld Z h17 o0 "com/example/emberlot/emberlot/Slots" "expected" "I" (.int E) := Fa7.other W17 (Or.inl (S14.inj 0 1 (own_a5 (by decide)) (own_a5 (by decide)) (by decide)))
  have Fa20 : Fld Z h17 o0 "com/example/emberlot/emberlot/Slots" "nodes" "[Ljava/lang/Object;" (.ref na) := Fa8.other W17 (Or.inl (S14.inj 0 1 (own_a5 (by decide)) (own_a5 (by decide)) (by decide)))
  have Fa21 : Fld Z h17 o0 "com/example/emberlot/emberlot/Slots" "previous" "[[I" (.ref pa) := Fa9.other W17 (Or.inl (S14.inj 0 1 (own_a5 (by decide)) (own_a5 (by decide)) (by decide)))
  have Fa22 : Fld Z h17 o0 "com/example/emberlot/emberlot/Slots" "next" "[[I" (.ref xa) := Fa10.other W17 (Or.inl (S14.inj 0 1 (own_a5 (by decide)) (own_a5 (by decide)) (by decide)))
  have Fa23 : Fld Z h17 o0 "com/example/emberlot/emberlot/Slots" "columns" "[[I" (.ref ca) := Fa11.other W17 (Or.inl (S14.inj 0 1 (own_a5 (by decide)) (own_a5 (by decide)) (by decide)))
  have Fa24 : Fld Z h17 o0 "com/example/emberlot/emberlot/Slots" "free" "I" (.int fr) := Fa12.other W17 (Or.inl (S14.inj 0 1 (own_a5 (by decide)) (own_a5 (by decide)) (by decide)))
  have Fa25 : Fld Z h17 o0 "com/example/emberlot/emberlot/Slots" "taken" "I" (.int (tk + (1 : Int32))) := Fa15.other W17 (Or.inl (S14.inj 0 1 (own_a5 (by decide)) (own_a5 (by decide)) (by decide)))
  have Fa26 : Exa Z h17 o1 "java/lang/Integer" := Fa13.wr W17
  have S27 : SlA Z h17 n0 o0 na pa xa ca af f nn ln (upd nd (tk).toNatClampNeg (.ref o1)) gs := S14.wrN hjs.2 (Or.inr ⟨_, rfl, Ins.of_exa Fa13 (ww hw 57 rfl)⟩) W17
  refine go (u' := T17.setTop (mkF m 63 #[.val (.ref o0), .val (.ref o1), .val (.int tk), .unset] [])) st17 ?_
  refine go (u' := T17.setTop (mkF m 64 #[.val (.ref o0), .val (.ref o1), .val (.int tk), .unset] [(.int (0 : Int32))])) (fun _ ks_ => XS.iconst X17.here hx rfl (hb hby d8_63) ks_) ?_
  refine go (u' := T17.setTop (mkF m 65 #[.val (.ref o0), .val (.ref o1), .val (.int tk), .val (.int (0 : Int32))] [])) (fun _ ks_ => XS.istoreN X17.here hx rfl (hb hby d8_64) rfl  (l' := #[.val (.ref o0), .val (.ref o1), .val (.int tk), .val (.int (0 : Int32))]) rfl ks_) ?_
  have C65_1 : ∀ (t : Nat) (fi : Int32) (gs_ : Nat → Nat → Int32) (T28 : State) (h28 : Heap) (Ls28 : List Loc), (Stand p l e ({ frames := 0, cells := 0, slots := 0, locals := 0 } : Room) s m #[(.ref o0), (.ref o1)] below meth c T28 Ls28 0 0) → (T28.heap = h28) → (Fr n0 Ls28) → (n0 ≤ h28.size) → (Keep h0 h28 (Wl o0 na pa xa ca af f)) → (Exa Z h28 o0 "com/example/emberlot/emberlot/Slots") → (Fld Z h28 o0 "com/example/emberlot/emberlot/Slots" "expected" "I" (.int E)) → (Fld Z h28 o0 "com/example/emberlot/emberlot/Slots" "nodes" "[Ljava/lang/Object;" (.ref na)) → (Fld Z h28 o0 "com/example/emberlot/emberlot/Slots" "previous" "[[I" (.ref pa)) → (Fld Z h28 o0 "com/example/emberlot/emberlot/Slots" "next" "[[I" (.ref xa)) → (Fld Z h28 o0 "com/example/emberlot/emberlot/Slots" "columns" "[[I" (.ref ca)) → (Fld Z h28 o0 "com/example/emberlot/emberlot/Slots" "free" "I" (.int fr)) → (Fld Z h28 o0 "com/example/emberlot/emberlot/Slots" "taken" "I" (.int (tk + (1 : Int32)))) → (Exa Z h28 o1 "java/lang/Integer") → (SlA Z h28 n0 o0 na pa xa ca af f nn ln (upd nd (tk).toNatClampNeg (.ref o1)) gs_) → (0 ≤ fi.toInt ∧ fi.toInt + (t : Nat) = f) → (Afl fi.toNatClampNeg tk.toNatClampNeg gs gs_) → Go p.tables e below G (T28.setTop (mkF m 65 #[.val (.ref o0), .val (.ref o1), .val (.int tk), .val (.int fi)] [])) := by
    intro t
    induction t with
    | zero =>
      intro fi gs_ T28 h28 Ls28 X28 e28 N28 Z28 K28 F28_0 F28_1 F28_2 F28_3 F28_4 F28_5 F28_6 F28_7 F28_8 F28_9 hi hA
      have hiz := own_fz F8.hf.2 hi
      refine go (u' := T28.setTop (mkF m 66 #[.val (.ref o0), .val (.ref o1), .val (.int tk), .val (.int fi)] [(.int fi)])) (fun _ ks_ => XS.iloadN X28.here hx rfl (hb hby d8_65) rfl  ks_) ?_
      refine go (u' := T28.setTop (mkF m 67 #[.val (.ref o0), .val (.ref o1), .val (.int tk), .val (.int fi)] [(.ref o0), (.int fi)])) (fun _ ks_ => XS.aloadN X28.here hx rfl (hb hby d8_66) rfl rfl ks_) ?_
      obtain ⟨T29, X29, e29, st29⟩ := getF X28 hx hZ hown (host := "") (Or.inl (ww hw 29 rfl)) Via.refl e28 F28_3 (g := (mkF m 67 #[.val (.ref o0), .val (.ref o1), .val (.int tk), .val (.int fi)] [(.ref o0), (.int fi)])) rfl rfl (hb hby d8_67)
      refine go (u' := T29.setTop (mkF m 70 #[.val (.ref o0), .val (.ref o1), .val (.int tk), .val (.int fi)] [(.ref pa), (.int fi)])) st29 ?_
      refine go (u' := T29.setTop (mkF m 71 #[.val (.ref o0), .val (.ref o1), .val (.int tk), .val (.int fi)] [(.int (f).toInt32), (.int fi)])) (own_alenR X29 hx hZ e29 F28_9.prev (z := (f).toInt32) rfl (f := (mkF m 70 #[.val (.ref o0), .val (.ref o1), .val (.int tk), .val (.int fi)] [(.ref pa), (.int fi)])) rfl rfl (hb hby d8_70)) ?_
      refine go (u' := T29.setTop (mkF m 98 #[.val (.ref o0), .val (.ref o1), .val (.int tk), .val (.int fi)] [])) (fun _ ks_ => XS.icmpYes X29.here hx rfl (pc0 := 71) (pc' := 98) rfl (hb hby d8_71) rfl (flt hiz.1).2.1 (by decide) (by decide) ks_) ?_
      refine go (u' := T29.setTop (mkF m 99 #[.val (.ref o0), .val (.ref o1), .val (.int tk), .val (.int fi)] [(.int tk)])) (fun _ ks_ => XS.iloadN X29.here hx rfl (hb hby d8_98) rfl  ks_) ?_
      rw [hG]
      refine gI X29 hx hlk hret (hb hby d8_99) ?_ (Nat.le_of_ble_eq_true rfl) (Nat.le_of_ble_eq_true rfl)
      show Q_rm8n Z o0 o1 na pa xa ca af f nn ln nd gs E fr tk h0 n0 (some (.int tk)) T29.heap _
      rw [e29]
      exact ⟨na, af, nn, ln, (upd nd (tk).toNatClampNeg (.ref o1)), gs_, rfl, N28, K28, F28_0, F28_1, F28_2, F28_3, F28_4, F28_5, F28_6, F28_7, F28_9, sb0, (own_addedN hj.2 h16 hln hA hiz.2 F8.hf.1), rfl⟩
    | succ t ih65 =>
      intro fi gs_ T28 h28 Ls28 X28 e28 N28 Z28 K28 F28_0 F28_1 F28_2 F28_3 F28_4 F28_5 F28_6 F28_7 F28_8 F28_9 hi hA
      have hiv := own_fi F8.hf.2 hi
      refine go (u' := T28.setTop (mkF m 66 #[.val (.ref o0), .val (.ref o1), .val (.int tk), .val (.int fi)] [(.int fi)])) (fun _ ks_ => XS.iloadN X28.here hx rfl (hb hby d8_65) rfl  ks_) ?_
      refine go (u' := T28.setTop (mkF m 67 #[.val (.ref o0), .val (.ref o1), .val (.int tk), .val (.int fi)] [(.ref o0), (.int fi)])) (fun _ ks_ => XS.aloadN X28.here hx rfl (hb hby d8_66) rfl rfl ks_) ?_
      obtain ⟨T30, X30, e30, st30⟩ := getF X28 hx hZ hown (host := "") (Or.inl (ww hw 29 rfl)) Via.refl e28 F28_3 (g := (mkF m 67 #[.val (.ref o0), .val (.ref o1), .val (.int tk), .val (.int fi)] [(.ref o0), (.int fi)])) rfl rfl (hb hby d8_67)
      refine go (u' := T30.setTop (mkF m 70 #[.val (.ref o0), .val (.ref o1), .val (.int tk), .val (.int fi)] [(.ref pa), (.int fi)])) st30 ?_
      refine go (u' := T30.setTop (mkF m 71 #[.val (.ref o0), .val (.ref o1), .val (.int tk), .val (.int fi)] [(.int (f).toInt32), (.int fi)])) (own_alenR X30 hx hZ e30 F28_9.prev (z := (f).toInt32) rfl (f := (mkF m 70 #[.val (.ref o0), .val (.ref o1), .val (.int tk), .val (.int fi)] [(.ref pa), (.int fi)])) rfl rfl (hb hby d8_70)) ?_
      refine go (u' := T30.setTop (mkF m 74 #[.val (.ref o0), .val (.ref o1), .val (.int tk), .val (.int fi)] [])) (fun _ ks_ => XS.icmpNo X30.here hx rfl (hb hby d8_71) rfl (tlt hiv.2.2.1).2.1 ks_) ?_
      refine go (u' := T30.setTop (mkF m 75 #[.val (.ref o0), .val (.ref o1), .val (.int tk), .val (.int fi)] [(.ref o0)])) (fun _ ks_ => XS.aloadN X30.here hx rfl (hb hby d8_74) rfl rfl ks_) ?_
      obtain ⟨T31, X31, e31, st31⟩ := getF X30 hx hZ hown (host := "") (Or.inl (ww hw 29 rfl)) Via.refl e30 F28_3 (g := (mkF m 75 #[.val (.ref o0), .val (.ref o1), .val (.int tk), .val (.int fi)] [(.ref o0)])) rfl rfl (hb hby d8_75)
      refine go (u' := T31.setTop (mkF m 78 #[.val (.ref o0), .val (.ref o1), .val (.int tk), .val (.int fi)] [(.ref pa)])) st31 ?_
      refine go (u' := T31.setTop (mkF m 79 #[.val (.ref o0), .val (.ref o1), .val (.int tk), .val (.int fi)] [(.int fi), (.ref pa)])) (fun _ ks_ => XS.iloadN X31.here hx rfl (hb hby d8_78) rfl  ks_) ?_
      refine go (u' := T31.setTop (mkF m 80 #[.val (.ref o0), .val (.ref o1), .val (.int tk), .val (.int fi)] [(.ref (af (1 + 2 * fi.toNatClampNeg)))])) (own_aaload X31 hx hZ e31 F28_9.prev rfl (j := fi) (v := (.ref (af (1 + 2 * fi.toNatClampNeg)))) hiv.1 hiv.2.1 rfl (f := (mkF m 79 #[.val (.ref o0), .val (.ref o1), .val (.int tk), .val (.int fi)] [(.int fi), (.ref pa)])) rfl rfl (hb hby d8_79)) ?_
      refine go (u' := T31.setTop (mkF m 81 #[.val (.ref o0), .val (.ref o1), .val (.int tk), .val (.int fi)] [(.int tk), (.ref (af (1 + 2 * fi.toNatClampNeg)))])) (fun _ ks_ => XS.iloadN X31.here hx rfl (hb hby d8_80) rfl  ks_) ?_
      refine go (u' := T31.setTop (mkF m 82 #[.val (.ref o0), .val (.ref o1), .val (.int tk), .val (.int fi)] [(.int (-1 : Int32)), (.int tk), (.ref (af (1 + 2 * fi.toNatClampNeg)))])) (fun _ ks_ => XS.iconst X31.here hx rfl (hb hby d8_81) ks_) ?_
      obtain ⟨T32, h32, X32, e32, W32, st32⟩ := own_iastore X31 hx hZ e31 (F28_9.ints (1 + 2 * fi.toNatClampNeg) hiv.2.2.2.2.2.1) (j := tk) (x := (-1 : Int32)) hjs.1 (own_lnlt hls hiv.2.2.2.2.2.1 hjs.2) (f := (mkF m 82 #[.val (.ref o0), .val (.ref o1), .val (.int tk), .val (.int fi)] [(.int (-1 : Int32)), (.int tk), (.ref (af (1 + 2 * fi.toNatClampNeg)))])) rfl rfl (hb hby d8_82)
      have N32 := Fr.snoc X32 N28 (F28_9.lo ((1 + 2 * fi.toNatClampNeg) + 5) (own_q5 hiv.2.2.2.2.2.1))
      have K32 : Keep h0 h32 (Wl o0 na pa xa ca af f) := K28.wr W32 (sb0 ((1 + 2 * fi.toNatClampNeg) + 5) (own_q5 hiv.2.2.2.2.2.1))
      have Z32 : n0 ≤ h32.size := Nat.le_trans Z28 (Keep.of_wr W32).1
      have Fa33 : Exa Z h32 o0 "com/example/emberlot/emberlot/Slots" := F28_0.wr W32
      have Fa34 : Fld Z h32 o0 "com/example/emberlot/emberlot/Slots" "expected" "I" (.int E) := F28_1.other W32 (Or.inl (F28_9.inj 0 ((1 + 2 * fi.toNatClampNeg) + 5) (own_a5 (by decide)) (own_q5 hiv.2.2.2.2.2.1) (own_ne5 (by decide))))
      have Fa35 : Fld Z h32 o0 "com/example/emberlot/emberlot/Slots" "nodes" "[Ljava/lang/Object;" (.ref na) := F28_2.other W32 (Or.inl (F28_9.inj 0 ((1 + 2 * fi.toNatClampNeg) + 5) (own_a5 (by decide)) (own_q5 hiv.2.2.2.2.2.1) (own_ne5 (by decide))))
      have Fa36 : Fld Z h32 o0 "com/example/emberlot/emberlot/Slots" "previous" "[[I" (.ref pa) := F28_3.other W32 (Or.inl (F28_9.inj 0 ((1 + 2 * fi.toNatClampNeg) + 5) (own_a5 (by decide)) (own_q5 hiv.2.2.2.2.2.1) (own_ne5 (by decide))))
      have Fa37 : Fld Z h32 o0 "com/example/emberlot/emberlot/Slots" "next" "[[I" (.ref xa) := F28_4.other W32 (Or.inl (F28_9.inj 0 ((1 + 2 * fi.toNatClampNeg) + 5) (own_a5 (by decide)) (own_q5 hiv.2.2.2.2.2.1) (own_ne5 (by decide))))
      have Fa38 : Fld Z h32 o0 "com/example/emberlot/emberlot/Slots" "columns" "[[I" (.ref ca) := F28_5.other W32 (Or.inl (F28_9.inj 0 ((1 + 2 * fi.toNatClampNeg) + 5) (own_a5 (by decide)) (own_q5 hiv.2.2.2.2.2.1) (own_ne5 (by decide))))
      have Fa39 : Fld Z h32 o0 "com/example/emberlot/emberlot/Slots" "free" "I" (.int fr) := F28_6.other W32 (Or.inl (F28_9.inj 0 ((1 + 2 * fi.toNatClampNeg) + 5) (own_a5 (by decide)) (own_q5 hiv.2.2.2.2.2.1) (own_ne5 (by decide))))
      have Fa40 : Fld Z h32 o0 "com/example/emberlot/emberlot/Slots" "taken" "I" (.int (tk + (1 : Int32))) := F28_7.other W32 (Or.inl (F28_9.inj 0 ((1 + 2 * fi.toNatClampNeg) + 5) (own_a5 (by decide)) (own_q5 hiv.2.2.2.2.2.1) (own_ne5 (by decide))))
      have Fa41 : Exa Z h32 o1 "java/lang/Integer" := F28_8.wr W32
      have S42 : SlA Z h32 n0 o0 na pa xa ca af f nn ln (upd nd (tk).toNatClampNeg (.ref o1)) (upd gs_ (1 + 2 * fi.toNatClampNeg) (upd (gs_ (1 + 2 * fi.toNatClampNeg)) (tk).toNatClampNeg (-1 : Int32))) := F28_9.wrI (q := (1 + 2 * fi.toNatClampNeg)) (j := tk) hiv.2.2.2.2.2.1 (own_lnlt hls hiv.2.2.2.2.2.1 hjs.2) W32
      refine go (u' := T32.setTop (mkF m 83 #[.val (.ref o0), .val (.ref o1), .val (.int tk), .val (.int fi)] [])) st32 ?_
      refine go (u' := T32.setTop (mkF m 84 #[.val (.ref o0), .val (.ref o1), .val (.int tk), .val (.int fi)] [(.ref o0)])) (fun _ ks_ => XS.aloadN X32.here hx rfl (hb hby d8_83) rfl rfl ks_) ?_
      obtain ⟨T43, X43, e43, st43⟩ := getF X32 hx hZ hown (host := "") (Or.inl (ww hw 31 rfl)) Via.refl e32 Fa37 (g := (mkF m 84 #[.val (.ref o0), .val (.ref o1), .val (.int tk), .val (.int fi)] [(.ref o0)])) rfl rfl (hb hby d8_84)
      refine go (u' := T43.setTop (mkF m 87 #[.val (.ref o0), .val (.ref o1), .val (.int tk), .val (.int fi)] [(.ref xa)])) st43 ?_
      refine go (u' := T43.setTop (mkF m 88 #[.val (.ref o0), .val (.ref o1), .val (.int tk), .val (.int fi)] [(.int fi), (.ref xa)])) (fun _ ks_ => XS.iloadN X43.here hx rfl (hb hby d8_87) rfl  ks_) ?_
      refine go (u' := T43.setTop (mkF m 89 #[.val (.ref o0), .val (.ref o1), .val (.int tk), .val (.int fi)] [(.ref (af (2 + 2 * fi.toNatClampNeg)))])) (own_aaload X43 hx hZ e43 S42.next rfl (j := fi) (v := (.ref (af (2 + 2 * fi.toNatClampNeg)))) hiv.1 hiv.2.1 rfl (f := (mkF m 88 #[.val (.ref o0), .val (.ref o1), .val (.int tk), .val (.int fi)] [(.int fi), (.ref xa)])) rfl rfl (hb hby d8_88)) ?_
      refine go (u' := T43.setTop (mkF m 90 #[.val (.ref o0), .val (.ref o1), .val (.int tk), .val (.int fi)] [(.int tk), (.ref (af (2 + 2 * fi.toNatClampNeg)))])) (fun _ ks_ => XS.iloadN X43.here hx rfl (hb hby d8_89) rfl  ks_) ?_
      refine go (u' := T43.setTop (mkF m 91 #[.val (.ref o0), .val (.ref o1), .val (.int tk), .val (.int fi)] [(.int (-1 : Int32)), (.int tk), (.ref (af (2 + 2 * fi.toNatClampNeg)))])) (fun _ ks_ => XS.iconst X43.here hx rfl (hb hby d8_90) ks_) ?_
      obtain ⟨T44, h44, X44, e44, W44, st44⟩ := own_iastore X43 hx hZ e43 (S42.ints (2 + 2 * fi.toNatClampNeg) hiv.2.2.2.2.2.2) (j := tk) (x := (-1 : Int32)) hjs.1 (own_lnlt hls hiv.2.2.2.2.2.2 hjs.2) (f := (mkF m 91 #[.val (.ref o0), .val (.ref o1), .val (.int tk), .val (.int fi)] [(.int (-1 : Int32)), (.int tk), (.ref (af (2 + 2 * fi.toNatClampNeg)))])) rfl rfl (hb hby d8_91)
      have N44 := Fr.snoc X44 N32 (S42.lo ((2 + 2 * fi.toNatClampNeg) + 5) (own_q5 hiv.2.2.2.2.2.2))
      have K44 : Keep h0 h44 (Wl o0 na pa xa ca af f) := K32.wr W44 (sb0 ((2 + 2 * fi.toNatClampNeg) + 5) (own_q5 hiv.2.2.2.2.2.2))
      have Z44 : n0 ≤ h44.size := Nat.le_trans Z32 (Keep.of_wr W44).1
      have Fa45 : Exa Z h44 o0 "com/example/emberlot/emberlot/Slots" := Fa33.wr W44
      have Fa46 : Fld Z h44 o0 "com/example/emberlot/emberlot/Slots" "expected" "I" (.int E) := Fa34.other W44 (Or.inl (S42.inj 0 ((2 + 2 * fi.toNatClampNeg) + 5) (own_a5 (by decide)) (own_q5 hiv.2.2.2.2.2.2) (own_ne5 (by decide))))
      have Fa47 : Fld Z h44 o0 "com/example/emberlot/emberlot/Slots" "nodes" "[Ljava/lang/Object;" (.ref na) := Fa35.other W44 (Or.inl (S42.inj 0 ((2 + 2 * fi.toNatClampNeg) + 5) (own_a5 (by decide)) (own_q5 hiv.2.2.2.2.2.2) (own_ne5 (by decide))))
      have Fa48 : Fld Z h44 o0 "com/example/emberlot/emberlot/Slots" "previous" "[[I" (.ref pa) := Fa36.other W44 (Or.inl (S42.inj 0 ((2 + 2 * fi.toNatClampNeg) + 5) (own_a5 (by decide)) (own_q5 hiv.2.2.2.2.2.2) (own_ne5 (by decide))))
      have Fa49 : Fld Z h44 o0 "com/example/emberlot/emberlot/Slots" "next" "[[I" (.ref xa) := Fa37.other W44 (Or.inl (S42.inj 0 ((2 + 2 * fi.toNatClampNeg) + 5) (own_a5 (by decide)) (own_q5 hiv.2.2.2.2.2.2) (own_ne5 (by decide))))
      have Fa50 : Fld Z h44 o0 "com/example/emberlot/emberlot/Slots" "columns" "[[I" (.ref ca) := Fa38.other W44 (Or.inl (S42.inj 0 ((2 + 2 * fi.toNatClampNeg) + 5) (own_a5 (by decide)) (own_q5 hiv.2.2.2.2.2.2) (own_ne5 (by decide))))
      have Fa51 : Fld Z h44 o0 "com/example/emberlot/emberlot/Slots" "free" "I" (.int fr) := Fa39.other W44 (Or.inl (S42.inj 0 ((2 + 2 * fi.toNatClampNeg) + 5) (own_a5 (by decide)) (own_q5 hiv.2.2.2.2.2.2) (own_ne5 (by decide))))
      have Fa52 : Fld Z h44 o0 "com/example/emberlot/emberlot/Slots" "taken" "I" (.int (tk + (1 : Int32))) := Fa40.other W44 (Or.inl (S42.inj 0 ((2 + 2 * fi.toNatClampNeg) + 5) (own_a5 (by decide)) (own_q5 hiv.2.2.2.2.2.2) (own_ne5 (by decide))))
      have Fa53 : Exa Z h44 o1 "java/lang/Integer" := Fa41.wr W44
      have S54 : SlA Z h44 n0 o0 na pa xa ca af f nn ln (upd nd (tk).toNatClampNeg (.ref o1)) (upd (upd gs_ (1 + 2 * fi.toNatClampNeg) (upd (gs_ (1 + 2 * fi.toNatClampNeg)) (tk).toNatClampNeg (-1 : Int32))) (2 + 2 * fi.toNatClampNeg) (upd ((upd gs_ (1 + 2 * fi.toNatClampNeg) (upd (gs_ (1 + 2 * fi.toNatClampNeg)) (tk).toNatClampNeg (-1 : Int32))) (2 + 2 * fi.toNatClampNeg)) (tk).toNatClampNeg (-1 : Int32))) := S42.wrI (q := (2 + 2 * fi.toNatClampNeg)) (j := tk) hiv.2.2.2.2.2.2 (own_lnlt hls hiv.2.2.2.2.2.2 hjs.2) W44
      refine go (u' := T44.setTop (mkF m 92 #[.val (.ref o0), .val (.ref o1), .val (.int tk), .val (.int fi)] [])) st44 ?_
      refine go (u' := T44.setTop (mkF m 95 #[.val (.ref o0), .val (.ref o1), .val (.int tk), .val (.int (fi + (1 : Int32)))] [])) (fun _ ks_ => XS.iinc X44.here hx rfl (hb hby d8_92) rfl (l' := #[.val (.ref o0), .val (.ref o1), .val (.int tk), .val (.int (fi + (1 : Int32)))]) rfl ks_) ?_
      refine go (u' := T44.setTop (mkF m 65 #[.val (.ref o0), .val (.ref o1), .val (.int tk), .val (.int (fi + (1 : Int32)))] [])) (fun _ ks_ => XS.goto X44.here hx rfl (pc0 := 95) (pc' := 65) rfl (hb hby d8_95) (by decide) (by decide) ks_) ?_
      exact ih65 ((fi + (1 : Int32))) ((upd (upd gs_ (1 + 2 * fi.toNatClampNeg) (upd (gs_ (1 + 2 * fi.toNatClampNeg)) (tk).toNatClampNeg (-1 : Int32))) (2 + 2 * fi.toNatClampNeg) (upd ((upd gs_ (1 + 2 * fi.toNatClampNeg) (upd (gs_ (1 + 2 * fi.toNatClampNeg)) (tk).toNatClampNeg (-1 : Int32))) (2 + 2 * fi.toNatClampNeg)) (tk).toNatClampNeg (-1 : Int32)))) _ _ _ X44 e44 N44 Z44 K44 Fa45 Fa46 Fa47 Fa48 Fa49 Fa50 Fa51 Fa52 Fa53 S54 hiv.2.2.2.1 (hA.step hiv.2.2.2.2.1)
  exact C65_1 f ((0 : Int32)) gs _ _ _ X17 e17 N17 Z17 K17 Fa18 Fa19 Fa20 Fa21 Fa22 Fa23 Fa24 Fa25 Fa26 S27 ⟨by decide, by simp⟩ Afl.start
def Q_rm8 (Z : State) (o0 : Addr) (o1 : Addr) (na : Addr) (pa : Addr) (xa : Addr) (ca : Addr) (af : Nat → Addr) (f : Nat) (nn : Nat) (ln : Nat → Nat) (nd : Nat → Value) (gs : Nat → Nat → Int32) (E : Int32) (fr : Int32) (tk : Int32) (mr : Addr) (h0 : Heap) (n0 : Nat) (v : Option Value) (h : Heap) (L : List Loc) : Prop := ∃ na1 : Addr, ∃ af1 : Nat → Addr, ∃ n1 : Nat, ∃ ln1 : Nat → Nat, ∃ nd1 : Nat → Value, ∃ gs1 : Nat → Nat → Int32, v = some (.int tk) ∧ Fr n0 L ∧ Keep h0 h (Wl o0 na pa xa ca af f) ∧ (Exa Z h o0 "com/example/emberlot/emberlot/Slots") ∧ (Fld Z h o0 "com/example/emberlot/emberlot/Slots" "expected" "I" (.int E)) ∧ (Fld Z h o0 "com/example/emberlot/emberlot/Slots" "nodes" "[Ljava/lang/Object;" (.ref na1)) ∧ (Fld Z h o0 "com/example/emberlot/emberlot/Slots" "previous" "[[I" (.ref pa)) ∧ (Fld Z h o0 "com/example/emberlot/emberlot/Slots" "next" "[[I" (.ref xa)) ∧ (Fld Z h o0 "com/example/emberlot/emberlot/Slots" "columns" "[[I" (.ref ca)) ∧ (Fld Z h o0 "com/example/emberlot/emberlot/Slots" "free" "I" (.int fr)) ∧ (Fld Z h o0 "com/example/emberlot/emberlot/Slots" "taken" "I" (.int (tk + (1 : Int32)))) ∧ (SlA Z h n0 o0 na1 pa xa ca af1 f n1 ln1 nd1 gs1) ∧ (SubA h0.size o0 na pa xa ca af f na1 af1) ∧ (Added f tk.toNatClampNeg nd gs o1 n1 ln1 nd1 gs1) ∧ (n1 = 16 ∨ ((n1 : Int) = E.toInt ∧ (nn : Int) < E.toInt))
set_option maxRecDepth 65536 in
set_option maxHeartbeats 4000000 in
theorem ef_rm8 (m : MethodId) (o0 : Addr) (o1 : Addr) : entryFrame m #[(.ref o0), (.ref o1)] 4 = mkF m 0 #[.val (.ref o0), .val (.ref o1), .unset, .unset] [] := by first | (simp [entryFrame, mkF, argsToLocals, Value.category, maxLocals]; done) | rfl
theorem d8_40 : decode prog_50_method_2_code 40 = .ok (.aload_n 0, 1) := by decide +kernel
theorem d8_41 : decode prog_50_method_2_code 41 = .ok (.invokevirtual 47, 3) := by decide +kernel
set_option maxRecDepth 65536 in
set_option maxHeartbeats 40000000 in
theorem rm8 (l : Launch) (Z : State) (a0 : Array Value) (hw : ∀ d ∈ tables_1, d.before a0 Z = true) (ws : List Jvm.Cond) (o0 : Addr) (o1 : Addr) (na : Addr) (pa : Addr) (xa : Addr) (ca : Addr) (af : Nat → Addr) (f : Nat) (nn : Nat) (ln : Nat → Nat) (nd : Nat → Value) (gs : Nat → Nat → Int32) (E : Int32) (fr : Int32) (tk : Int32) (mr : Addr) (h0 : Heap) (n0 : Nat) (Z0 : n0 ≤ h0.size) (F0 : Exa Z h0 o0 "com/example/emberlot/emberlot/Slots") (F1 : Fld Z h0 o0 "com/example/emberlot/emberlot/Slots" "expected" "I" (.int E)) (F2 : Fld Z h0 o0 "com/example/emberlot/emberlot/Slots" "nodes" "[Ljava/lang/Object;" (.ref na)) (F3 : Fld Z h0 o0 "com/example/emberlot/emberlot/Slots" "previous" "[[I" (.ref pa)) (F4 : Fld Z h0 o0 "com/example/emberlot/emberlot/Slots" "next" "[[I" (.ref xa)) (F5 : Fld Z h0 o0 "com/example/emberlot/emberlot/Slots" "columns" "[[I" (.ref ca)) (F6 : Fld Z h0 o0 "com/example/emberlot/emberlot/Slots" "free" "I" (.int fr)) (F7 : Fld Z h0 o0 "com/example/emberlot/emberlot/Slots" "taken" "I" (.int tk)) (F8 : SlA Z h0 n0 o0 na pa xa ca af f nn ln nd gs) (F9 : Exa Z h0 o1 "java/lang/Integer") (hln : ∀ q, q < 1 + 2 * f → ln q = nn) (hfr : fr = (-1 : Int32)) (htk : tk = (nn).toInt32) (hn4 : nn ≤ 4) (hE : 0 < E.toInt) (hM : Mr Z "[Ljava/lang/Object;" mr) :
    MetFree l (⟨"com/example/emberlot/emberlot/Slots", "add", "(Ljava/lang/Object;)I"⟩ : MethodName) (head1 (Jvm.Cond.code (⟨"com/example/emberlot/emberlot/Slots", "add", "(Ljava/lang/Object;)I"⟩ : MethodName) prog_50_method_2_code 4 (some .int) :: ws) ({ frames := 4, cells := 10, slots := 160, locals := 86 } : Room)) (fun a U => a = #[(.ref o0), (.ref o1)] ∧ Z.Warmed39 U.vm ∧ U.heap = h0) (fun _ _ _ _ _ => True) (fun _ U o U' => ∃ v L, o = .returned v ∧ Q_rm8 Z o0 o1 na pa xa ca af f nn ln nd gs E fr tk mr h0 n0 v U'.heap L ∧ FrameEnd U o U' L ({ frames := 4, cells := 10, slots := 160, locals := 86 } : Room).cells ({ frames := 4, cells := 10, slots := 160, locals := 86 } : Room).slots) := by
  refine body pn_com_example_emberlot_emberlot_Slots_add_8 ?_
  intro p e s m below meth c s₁ hx hby hml hown hnm hret hlk hZ e0 X0
  replace hml : c.maxLocals = 4 := hml
  replace hown : s.vm.findClass "com/example/emberlot/emberlot/Slots" = some m.cls := hown
  replace hnm : meth.name = "add" := hnm
  replace hret : meth.sig.returnType = (some .int) := hret
  have N0 := Fr.nil n0
  rw [ef_rm8]
  obtain ⟨G, hG⟩ : ∃ G, G = End (Q_rm8 Z o0 o1 na pa xa ca af f nn ln nd gs E fr tk mr h0 n0) s ({ frames := 4, cells := 10, slots := 160, locals := 86 } : Room).cells ({ frames := 4, cells := 10, slots := 160, locals := 86 } : Room).slots := ⟨_, rfl⟩
  rw [← hG]
  have sb0 : SubA h0.size o0 na pa xa ca af f na af := SubA.refl _
  refine go (u' := s₁.setTop (mkF m 1 #[.val (.ref o0), .val (.ref o1), .unset, .unset] [(.ref o0)])) (fun _ ks_ => XS.aloadN X0.here hx rfl (hb hby d8_0) rfl rfl ks_) ?_
  obtain ⟨T1, X1, e1, st1⟩ := getF X0 hx hZ hown (host := "") (Or.inl (ww hw 14 rfl)) Via.refl e0 F6 (g := (mkF m 1 #[.val (.ref o0), .val (.ref o1), .unset, .unset] [(.ref o0)])) rfl rfl (hb hby d8_1)
  refine go (u' := T1.setTop (mkF m 4 #[.val (.ref o0), .val (.ref o1), .unset, .unset] [(.int fr)])) st1 ?_
  refine go (u' := T1.setTop (mkF m 5 #[.val (.ref o0), .val (.ref o1), .unset, .unset] [(.int (-1 : Int32)), (.int fr)])) (fun _ ks_ => XS.iconst X1.here hx rfl (hb hby d8_4) ks_) ?_
  refine go (u' := T1.setTop (mkF m 28 #[.val (.ref o0), .val (.ref o1), .unset, .unset] [])) (fun _ ks_ => XS.icmpYes X1.here hx rfl (pc0 := 5) (pc' := 28) rfl (hb hby d8_5) rfl (teq hfr).1 (by decide) (by decide) ks_) ?_
  refine go (u' := T1.setTop (mkF m 29 #[.val (.ref o0), .val (.ref o1), .unset, .unset] [(.ref o0)])) (fun _ ks_ => XS.aloadN X1.here hx rfl (hb hby d8_28) rfl rfl ks_) ?_
  obtain ⟨T2, X2, e2, st2⟩ := getF X1 hx hZ hown (host := "") (Or.inl (ww hw 63 rfl)) Via.refl e1 F7 (g := (mkF m 29 #[.val (.ref o0), .val (.ref o1), .unset, .unset] [(.ref o0)])) rfl rfl (hb hby d8_29)
  refine go (u' := T2.setTop (mkF m 32 #[.val (.ref o0), .val (.ref o1), .unset, .unset] [(.int tk)])) st2 ?_
  refine go (u' := T2.setTop (mkF m 33 #[.val (.ref o0), .val (.ref o1), .unset, .unset] [(.ref o0), (.int tk)])) (fun _ ks_ => XS.aloadN X2.here hx rfl (hb hby d8_32) rfl rfl ks_) ?_
  obtain ⟨T3, X3, e3, st3⟩ := getF X2 hx hZ hown (host := "") (Or.inl (ww hw 12 rfl)) Via.refl e2 F2 (g := (mkF m 33 #[.val (.ref o0), .val (.ref o1), .unset, .unset] [(.ref o0), (.int tk)])) rfl rfl (hb hby d8_33)
  refine go (u' := T3.setTop (mkF m 36 #[.val (.ref o0), .val (.ref o1), .unset, .unset] [(.ref na), (.int tk)])) st3 ?_
  refine go (u' := T3.setTop (mkF m 37 #[.val (.ref o0), .val (.ref o1), .unset, .unset] [(.int (nn).toInt32), (.int tk)])) (own_alenR X3 hx hZ e3 F8.nodes (z := (nn).toInt32) rfl (f := (mkF m 36 #[.val (.ref o0), .val (.ref o1), .unset, .unset] [(.ref na), (.int tk)])) rfl rfl (hb hby d8_36)) ?_
  refine go (u' := T3.setTop (mkF m 40 #[.val (.ref o0), .val (.ref o1), .unset, .unset] [])) (fun _ ks_ => XS.icmpNo X3.here hx rfl (hb hby d8_37) rfl (teq htk).2 ks_) ?_
  refine go (u' := T3.setTop (mkF m 41 #[.val (.ref o0), .val (.ref o1), .unset, .unset] [(.ref o0)])) (fun _ ks_ => XS.aloadN X3.here hx rfl (hb hby d8_40) rfl rfl ks_) ?_
  obtain ⟨cq4, q4, q4'⟩ := F0.cell
  obtain ⟨_, _, ⟨T4, L4, k4, n4⟩, -, X4, ⟨Lc4, hQ4, l4, y4, z4⟩, st4⟩ := X3.privateBack hx (y := (⟨"com/example/emberlot/emberlot/Slots", "grow", "()V"⟩ : MethodName)) hown (mvT hZ (ww hw 65 rfl)) (mvT hZ (ww hw 66 rfl)) (own_selP (y := (⟨"com/example/emberlot/emberlot/Slots", "grow", "()V"⟩ : MethodName)) (z := (⟨"com/example/emberlot/emberlot/Slots", "add", "(Ljava/lang/Object;)I"⟩ : MethodName)) rfl (mvT hZ (ww hw 61 rfl)) (mvT hZ (ww hw 60 rfl)) (Cond.privateMethod_at (mvP hZ (ww hw 67 rfl) (args := #[]))) (mvT hZ (ww hw 66 rfl)) (by decide)) (Cond.privateMethod_at (mvP hZ (ww hw 67 rfl) (args := #[]))) (mvT hZ (ww hw 68 rfl)) (by decide) (backOf (W := 0) (rm9 l Z a0 hw [] o0 na pa xa ca af f nn ln nd gs E fr tk mr h0 n0 Z0 F0 F1 F2 F3 F4 F5 F6 F7 F8 hln hn4 hE hM) hZ (ww hw 68 rfl) (ww hw 2 rfl) (by decide) (by decide)) (g := (mkF m 41 #[.val (.ref o0), .val (.ref o1), .unset, .unset] [(.ref o0)])) rfl (by rw [hml]; rfl) (Steps.refl _) (a := o0) (by rw [e3]; exact q4) q4' (argsL := []) (rest := []) (lenOf pd__40__41_V rfl) rfl (by show 2 * 0 + _ ≤ _; exact Nat.le_of_eq rfl) (hb hby d8_41) (fun _ _ => ⟨rfl, e3, (by decide : 0 + 10 ≤ _), (by decide : 0 + 160 ≤ _)⟩)
  dsimp only [Pt.U, Pt.locs, Pt.cells, Pt.slots] at X4 l4 y4 z4 st4 hQ4
  subst l4 y4 z4
  obtain ⟨na14, af14, n14, ln14, nd14, gs14, rfl, N4q, Kq4, Fa5, Fa6, Fa7, Fa8, Fa9, Fa10, Fa11, Fa12, Fa13, sub_4, grn_4⟩ := hQ4
  have N4 := Fr.app N0 N4q
  have K4 : Keep h0 T4.heap (Wl o0 na pa xa ca af f) := (Keep.refl h0 (Wl o0 na pa xa ca af f)).trans Kq4 (own_WlSub sb0)
  have Z4 : n0 ≤ T4.heap.size := Nat.le_trans Z0 Kq4.1
  have Fa14 : Exa Z T4.heap o0 "com/example/emberlot/emberlot/Slots" := F0.keep Kq4
  have Fa15 : Exa Z T4.heap o1 "java/lang/Integer" := F9.keep Kq4
  refine goT (u' := T4.setTop (mkF m 44 #[.val (.ref o0), .val (.ref o1), .unset, .unset] [])) st4 ?_
  refine go (u' := T4.setTop (mkF m 45 #[.val (.ref o0), .val (.ref o1), .unset, .unset] [(.ref o0)])) (fun _ ks_ => XS.aloadN X4.here hx rfl (hb hby d8_44) rfl rfl ks_) ?_
  refine go (u' := T4.setTop (mkF m 46 #[.val (.ref o0), .val (.ref o1), .unset, .unset] [(.ref o0), (.ref o0)])) (fun _ ks_ => XS.dup X4.here hx rfl (hb hby d8_45) rfl rfl ks_) ?_
  obtain ⟨T16, X16, e16, st16⟩ := getF X4 hx hZ hown (host := "") (Or.inl (ww hw 63 rfl)) Via.refl (rfl : T4.heap = _) Fa12 (g := (mkF m 46 #[.val (.ref o0), .val (.ref o1), .unset, .unset] [(.ref o0), (.ref o0)])) rfl rfl (hb hby d8_46)
  refine go (u' := T16.setTop (mkF m 49 #[.val (.ref o0), .val (.ref o1), .unset, .unset] [(.int tk), (.ref o0)])) st16 ?_
  refine go (u' := T16.setTop (mkF m 50 #[.val (.ref o0), .val (.ref o1), .unset, .unset] [(.int tk), (.ref o0), (.int tk)])) (fun _ ks_ => XS.dupX1 X16.here hx rfl (hb hby d8_49) rfl rfl rfl ks_) ?_
  refine go (u' := T16.setTop (mkF m 51 #[.val (.ref o0), .val (.ref o1), .unset, .unset] [(.int (1 : Int32)), (.int tk), (.ref o0), (.int tk)])) (fun _ ks_ => XS.iconst X16.here hx rfl (hb hby d8_50) ks_) ?_
  refine go (u' := T16.setTop (mkF m 52 #[.val (.ref o0), .val (.ref o1), .unset, .unset] [(.int (tk + (1 : Int32))), (.ref o0), (.int tk)])) (fun _ ks_ => XS.iadd X16.here hx rfl (hb hby d8_51) rfl ks_) ?_
  obtain ⟨T17, h17, X17, e17, W17, st17⟩ := putF X16 hx hZ hown (host := "") (Or.inl (ww hw 63 rfl)) Via.refl e16 Fa12 Fa5 (Or.inl (ww hw 64 rfl)) (ww hw 1 rfl) (ty := .int) (by decide) rfl rfl (g := (mkF m 52 #[.val (.ref o0), .val (.ref o1), .unset, .unset] [(.int (tk + (1 : Int32))), (.ref o0), (.int tk)])) rfl rfl (hb hby d8_52)
  have N17 := Fr.snoc X17 N4 (Fa13.lo 0 (own_a5 (by decide)))
  have K17 : Keep h0 h17 (Wl o0 na pa xa ca af f) := K4.wr W17 (sub_4 0 (own_a5 (by decide)))
  have Z17 : n0 ≤ h17.size := Nat.le_trans Z4 (Keep.of_wr W17).1
  have Fa18 : Exa Z h17 o0 "com/example/emberlot/emberlot/Slots" := Fa5.wr W17
  have Fa19 : Exa Z h17 o1 "java/lang/Integer" := Fa15.wr W17
  have Fa20 : Fld Z h17 o0 "com/example/emberlot/emberlot/Slots" "expected" "I" (.int E) := Fa6.other W17 (Or.inr (slot_ne (Or.inr (ww hw 25 rfl)) (Or.inl (ww hw 64 rfl)) (by decide) (t := .int) (t' := .int) (by decide) (by decide)))
  have Fa21 : Fld Z h17 o0 "com/example/emberlot/emberlot/Slots" "nodes" "[Ljava/lang/Object;" (.ref na14) := Fa7.other W17 (Or.inr (slot_ne (Or.inl (ww hw 13 rfl)) (Or.inl (ww hw 64 rfl)) (by decide) (t := (.array (.object "java/lang/Object"))) (t' := .int) (by decide) (by decide)))
  have Fa22 : Fld Z h17 o0 "com/example/emberlot/emberlot/Slots" "previous" "[[I" (.ref pa) := Fa8.other W17 (Or.inr (slot_ne (Or.inr (ww hw 30 rfl)) (Or.inl (ww hw 64 rfl)) (by decide) (t := (.array (.array .int))) (t' := .int) (by decide) (by decide)))
  have Fa23 : Fld Z h17 o0 "com/example/emberlot/emberlot/Slots" "next" "[[I" (.ref xa) := Fa9.other W17 (Or.inr (slot_ne (Or.inr (ww hw 32 rfl)) (Or.inl (ww hw 64 rfl)) (by decide) (t := (.array (.array .int))) (t' := .int) (by decide) (by decide)))
  have Fa24 : Fld Z h17 o0 "com/example/emberlot/emberlot/Slots" "columns" "[[I" (.ref ca) := Fa10.other W17 (Or.inr (slot_ne (Or.inr (ww hw 34 rfl)) (Or.inl (ww hw 64 rfl)) (by decide) (t := (.array (.array .int))) (t' := .int) (by decide) (by decide)))
  have Fa25 : Fld Z h17 o0 "com/example/emberlot/emberlot/Slots" "free" "I" (.int fr) := Fa11.other W17 (Or.inr (slot_ne (Or.inl (ww hw 15 rfl)) (Or.inl (ww hw 64 rfl)) (by decide) (t := .int) (t' := .int) (by decide) (by decide)))
  have S26 : SlA Z h17 n0 o0 na14 pa xa ca af14 f n14 ln14 nd14 gs14 := Fa13.wrO W17
  have Fa27 : Fld Z h17 o0 "com/example/emberlot/emberlot/Slots" "taken" "I" (.int (tk + (1 : Int32))) := Fa12.same W17
  refine go (u' := T17.setTop (mkF m 55 #[.val (.ref o0), .val (.ref o1), .unset, .unset] [(.int tk)])) st17 ?_
  refine go (u' := T17.setTop (mkF m 56 #[.val (.ref o0), .val (.ref o1), .val (.int tk), .unset] [])) (fun _ ks_ => XS.istoreN X17.here hx rfl (hb hby d8_55) rfl  (l' := #[.val (.ref o0), .val (.ref o1), .val (.int tk), .unset]) rfl ks_) ?_
  have hjs : ¬ tk < 0 ∧ tk.toNatClampNeg < n14 := (own_gj hn4 htk grn_4.1.1)
  have hls : ∀ q, q < 1 + 2 * f → ln14 q = n14 := grn_4.2.2.1
  refine go (u' := T17.setTop (mkF m 57 #[.val (.ref o0), .val (.ref o1), .val (.int tk), .unset] [(.ref o0)])) (fun _ ks_ => XS.aloadN X17.here hx rfl (hb hby d8_56) rfl rfl ks_) ?_
  obtain ⟨T28, X28, e28, st28⟩ := getF X17 hx hZ hown (host := "") (Or.inl (ww hw 12 rfl)) Via.refl e17 Fa21 (g := (mkF m 57 #[.val (.ref o0), .val (.ref o1), .val (.int tk), .unset] [(.ref o0)])) rfl rfl (hb hby d8_57)
  refine go (u' := T28.setTop (mkF m 60 #[.val (.ref o0), .val (.ref o1), .val (.int tk), .unset] [(.ref na14)])) st28 ?_
  refine go (u' := T28.setTop (mkF m 61 #[.val (.ref o0), .val (.ref o1), .val (.int tk), .unset] [(.int tk), (.ref na14)])) (fun _ ks_ => XS.iloadN X28.here hx rfl (hb hby d8_60) rfl  ks_) ?_
  refine go (u' := T28.setTop (mkF m 62 #[.val (.ref o0), .val (.ref o1), .val (.int tk), .unset] [(.ref o1), (.int tk), (.ref na14)])) (fun _ ks_ => XS.aloadN X28.here hx rfl (hb hby d8_61) rfl rfl ks_) ?_
  obtain ⟨T29, h29, X29, e29, W29, st29⟩ := own_aastore X28 hx hZ e28 S26.nodes rfl (j := tk) (v := (.ref o1)) hjs.1 hjs.2 (Or.inr ⟨_, rfl, Ins.of_exa Fa19 (ww hw 57 rfl)⟩) (f := (mkF m 62 #[.val (.ref o0), .val (.ref o1), .val (.int tk), .unset] [(.ref o1), (.int tk), (.ref na14)])) rfl rfl (hb hby d8_62)
  have N29 := Fr.snoc X29 N17 (S26.lo 1 (own_a5 (by decide)))
  have K29 : Keep h0 h29 (Wl o0 na pa xa ca af f) := K17.wr W29 (sub_4 1 (own_a5 (by decide)))
  have Z29 : n0 ≤ h29.size := Nat.le_trans Z17 (Keep.of_wr W29).1
  have Fa30 : Exa Z h29 o0 "com/example/emberlot/emberlot/Slots" := Fa18.wr W29
  have Fa31 : Exa Z h29 o1 "java/lang/Integer" := Fa19.wr W29
  have Fa32 : Fld Z h29 o0 "com/example/emberlot/emberlot/Slots" "expected" "I" (.int E) := Fa20.other W29 (Or.inl (S26.inj 0 1 (own_a5 (by decide)) (own_a5 (by decide)) (by decide)))
  have Fa33 : Fld Z h29 o0 "com/example/emberlot/emberlot/Slots" "nodes" "[Ljava/lang/Object;" (.ref na14) := Fa21.other W29 (Or.inl (S26.inj 0 1 (own_a5 (by decide)) (own_a5 (by decide)) (by decide)))
  have Fa34 : Fld Z h29 o0 "com/example/emberlot/emberlot/Slots" "previous" "[[I" (.ref pa) := Fa22.other W29 (Or.inl (S26.inj 0 1 (own_a5 (by decide)) (own_a5 (by decide)) (by decide)))
  have Fa35 : Fld Z h29 o0 "com/example/emberlot/emberlot/Slots" "next" "[[I" (.ref xa) := Fa23.other W29 (Or.inl (S26.inj 0 1 (own_a5 (by decide)) (own_a5 (by decide)) (by decide)))
  have Fa36 : Fld Z h29 o0 "com/example/emberlot/emberlot/Slots" "columns" "[[I" (.ref ca) := Fa24.other W29 (Or.inl (S26.inj 0 1 (own_a5 (by decide)) (own_a5 (by decide)) (by decide)))
  have Fa37 : Fld Z h29 o0 "com/example/emberlot/emberlot/Slots" "free" "I" (.int fr) := Fa25.other W29 (Or.inl (S26.inj 0 1 (own_a5 (by decide)) (own_a5 (by decide)) (by decide)))
  have Fa38 : Fld Z h29 o0 "com/example/emberlot/emberlot/Slots" "taken" "I" (.int (tk + (1 : Int32))) := Fa27.other W29 (Or.inl (S26.inj 0 1 (own_a5 (by decide)) (own_a5 (by decide)) (by decide)))
  have S39 : SlA Z h29 n0 o0 na14 pa xa ca af14 f n14 ln14 (upd nd14 (tk).toNatClampNeg (.ref o1)) gs14 := S26.wrN hjs.2 (Or.inr ⟨_, rfl, Ins.of_exa Fa19 (ww hw 57 rfl)⟩) W29
  refine go (u' := T29.setTop (mkF m 63 #[.val (.ref o0), .val (.ref o1), .val (.int tk), .unset] [])) st29 ?_
  refine go (u' := T29.setTop (mkF m 64 #[.val (.ref o0), .val (.ref o1), .val (.int tk), .unset] [(.int (0 : Int32))])) (fun _ ks_ => XS.iconst X29.here hx rfl (hb hby d8_63) ks_) ?_
  refine go (u' := T29.setTop (mkF m 65 #[.val (.ref o0), .val (.ref o1), .val (.int tk), .val (.int (0 : Int32))] [])) (fun _ ks_ => XS.istoreN X29.here hx rfl (hb hby d8_64) rfl  (l' := #[.val (.ref o0), .val (.ref o1), .val (.int tk), .val (.int (0 : Int32))]) rfl ks_) ?_
  have C65_1 : ∀ (t : Nat) (fi : Int32) (gs_ : Nat → Nat → Int32) (T40 : State) (h40 : Heap) (Ls40 : List Loc), (Stand p l e ({ frames := 4, cells := 10, slots := 160, locals := 86 } : Room) s m #[(.ref o0), (.ref o1)] below meth c T40 Ls40 10 160) → (T40.heap = h40) → (Fr n0 Ls40) → (n0 ≤ h40.size) → (Keep h0 h40 (Wl o0 na pa xa ca af f)) → (Exa Z h40 o0 "com/example/emberlot/emberlot/Slots") → (Exa Z h40 o1 "java/lang/Integer") → (Fld Z h40 o0 "com/example/emberlot/emberlot/Slots" "expected" "I" (.int E)) → (Fld Z h40 o0 "com/example/emberlot/emberlot/Slots" "nodes" "[Ljava/lang/Object;" (.ref na14)) → (Fld Z h40 o0 "com/example/emberlot/emberlot/Slots" "previous" "[[I" (.ref pa)) → (Fld Z h40 o0 "com/example/emberlot/emberlot/Slots" "next" "[[I" (.ref xa)) → (Fld Z h40 o0 "com/example/emberlot/emberlot/Slots" "columns" "[[I" (.ref ca)) → (Fld Z h40 o0 "com/example/emberlot/emberlot/Slots" "free" "I" (.int fr)) → (Fld Z h40 o0 "com/example/emberlot/emberlot/Slots" "taken" "I" (.int (tk + (1 : Int32)))) → (SlA Z h40 n0 o0 na14 pa xa ca af14 f n14 ln14 (upd nd14 (tk).toNatClampNeg (.ref o1)) gs_) → (0 ≤ fi.toInt ∧ fi.toInt + (t : Nat) = f) → (Afl fi.toNatClampNeg tk.toNatClampNeg gs14 gs_) → Go p.tables e below G (T40.setTop (mkF m 65 #[.val (.ref o0), .val (.ref o1), .val (.int tk), .val (.int fi)] [])) := by
    intro t
    induction t with
    | zero =>
      intro fi gs_ T40 h40 Ls40 X40 e40 N40 Z40 K40 F40_0 F40_1 F40_2 F40_3 F40_4 F40_5 F40_6 F40_7 F40_8 F40_9 hi hA
      have hiz := own_fz F8.hf.2 hi
      refine go (u' := T40.setTop (mkF m 66 #[.val (.ref o0), .val (.ref o1), .val (.int tk), .val (.int fi)] [(.int fi)])) (fun _ ks_ => XS.iloadN X40.here hx rfl (hb hby d8_65) rfl  ks_) ?_
      refine go (u' := T40.setTop (mkF m 67 #[.val (.ref o0), .val (.ref o1), .val (.int tk), .val (.int fi)] [(.ref o0), (.int fi)])) (fun _ ks_ => XS.aloadN X40.here hx rfl (hb hby d8_66) rfl rfl ks_) ?_
      obtain ⟨T41, X41, e41, st41⟩ := getF X40 hx hZ hown (host := "") (Or.inl (ww hw 29 rfl)) Via.refl e40 F40_4 (g := (mkF m 67 #[.val (.ref o0), .val (.ref o1), .val (.int tk), .val (.int fi)] [(.ref o0), (.int fi)])) rfl rfl (hb hby d8_67)
      refine go (u' := T41.setTop (mkF m 70 #[.val (.ref o0), .val (.ref o1), .val (.int tk), .val (.int fi)] [(.ref pa), (.int fi)])) st41 ?_
      refine go (u' := T41.setTop (mkF m 71 #[.val (.ref o0), .val (.ref o1), .val (.int tk), .val (.int fi)] [(.int (f).toInt32), (.int fi)])) (own_alenR X41 hx hZ e41 F40_9.prev (z := (f).toInt32) rfl (f := (mkF m 70 #[.val (.ref o0), .val (.ref o1), .val (.int tk), .val (.int fi)] [(.ref pa), (.int fi)])) rfl rfl (hb hby d8_70)) ?_
      refine go (u' := T41.setTop (mkF m 98 #[.val (.ref o0), .val (.ref o1), .val (.int tk), .val (.int fi)] [])) (fun _ ks_ => XS.icmpYes X41.here hx rfl (pc0 := 71) (pc' := 98) rfl (hb hby d8_71) rfl (flt hiz.1).2.1 (by decide) (by decide) ks_) ?_
      refine go (u' := T41.setTop (mkF m 99 #[.val (.ref o0), .val (.ref o1), .val (.int tk), .val (.int fi)] [(.int tk)])) (fun _ ks_ => XS.iloadN X41.here hx rfl (hb hby d8_98) rfl  ks_) ?_
      rw [hG]
      refine gI X41 hx hlk hret (hb hby d8_99) ?_ (Nat.le_of_ble_eq_true rfl) (Nat.le_of_ble_eq_true rfl)
      show Q_rm8 Z o0 o1 na pa xa ca af f nn ln nd gs E fr tk mr h0 n0 (some (.int tk)) T41.heap _
      rw [e41]
      exact ⟨na14, af14, n14, ln14, (upd nd14 (tk).toNatClampNeg (.ref o1)), gs_, rfl, N40, K40, F40_0, F40_2, F40_3, F40_4, F40_5, F40_6, F40_7, F40_8, F40_9, sub_4, (own_addedG hn4 htk ⟨grn_4.1, grn_4.2.2⟩ hA hiz.2 F8.hf.1), grn_4.2.1⟩
    | succ t ih65 =>
      intro fi gs_ T40 h40 Ls40 X40 e40 N40 Z40 K40 F40_0 F40_1 F40_2 F40_3 F40_4 F40_5 F40_6 F40_7 F40_8 F40_9 hi hA
      have hiv := own_fi F8.hf.2 hi
      refine go (u' := T40.setTop (mkF m 66 #[.val (.ref o0), .val (.ref o1), .val (.int tk), .val (.int fi)] [(.int fi)])) (fun _ ks_ => XS.iloadN X40.here hx rfl (hb hby d8_65) rfl  ks_) ?_
      refine go (u' := T40.setTop (mkF m 67 #[.val (.ref o0), .val (.ref o1), .val (.int tk), .val (.int fi)] [(.ref o0), (.int fi)])) (fun _ ks_ => XS.aloadN X40.here hx rfl (hb hby d8_66) rfl rfl ks_) ?_
      obtain ⟨T42, X42, e42, st42⟩ := getF X40 hx hZ hown (host := "") (Or.inl (ww hw 29 rfl)) Via.refl e40 F40_4 (g := (mkF m 67 #[.val (.ref o0), .val (.ref o1), .val (.int tk), .val (.int fi)] [(.ref o0), (.int fi)])) rfl rfl (hb hby d8_67)
      refine go (u' := T42.setTop (mkF m 70 #[.val (.ref o0), .val (.ref o1), .val (.int tk), .val (.int fi)] [(.ref pa), (.int fi)])) st42 ?_
      refine go (u' := T42.setTop (mkF m 71 #[.val (.ref o0), .val (.ref o1), .val (.int tk), .val (.int fi)] [(.int (f).toInt32), (.int fi)])) (own_alenR X42 hx hZ e42 F40_9.prev (z := (f).toInt32) rfl (f := (mkF m 70 #[.val (.ref o0), .val (.ref o1), .val (.int tk), .val (.int fi)] [(.ref pa), (.int fi)])) rfl rfl (hb hby d8_70)) ?_
      refine go (u' := T42.setTop (mkF m 74 #[.val (.ref o0), .val (.ref o1), .val (.int tk), .val (.int fi)] [])) (fun _ ks_ => XS.icmpNo X42.here hx rfl (hb hby d8_71) rfl (tlt hiv.2.2.1).2.1 ks_) ?_
      refine go (u' := T42.setTop (mkF m 75 #[.val (.ref o0), .val (.ref o1), .val (.int tk), .val (.int fi)] [(.ref o0)])) (fun _ ks_ => XS.aloadN X42.here hx rfl (hb hby d8_74) rfl rfl ks_) ?_
      obtain ⟨T43, X43, e43, st43⟩ := getF X42 hx hZ hown (host := "") (Or.inl (ww hw 29 rfl)) Via.refl e42 F40_4 (g := (mkF m 75 #[.val (.ref o0), .val (.ref o1), .val (.int tk), .val (.int fi)] [(.ref o0)])) rfl rfl (hb hby d8_75)
      refine go (u' := T43.setTop (mkF m 78 #[.val (.ref o0), .val (.ref o1), .val (.int tk), .val (.int fi)] [(.ref pa)])) st43 ?_
      refine go (u' := T43.setTop (mkF m 79 #[.val (.ref o0), .val (.ref o1), .val (.int tk), .val (.int fi)] [(.int fi), (.ref pa)])) (fun _ ks_ => XS.iloadN X43.here hx rfl (hb hby d8_78) rfl  ks_) ?_
      refine go (u' := T43.setTop (mkF m 80 #[.val (.ref o0), .val (.ref o1), .val (.int tk), .val (.int fi)] [(.ref (af14 (1 + 2 * fi.toNatClampNeg)))])) (own_aaload X43 hx hZ e43 F40_9.prev rfl (j := fi) (v := (.ref (af14 (1 + 2 * fi.toNatClampNeg)))) hiv.1 hiv.2.1 rfl (f := (mkF m 79 #[.val (.ref o0), .val (.ref o1), .val (.int tk), .val (.int fi)] [(.int fi), (.ref pa)])) rfl rfl (hb hby d8_79)) ?_
      refine go (u' := T43.setTop (mkF m 81 #[.val (.ref o0), .val (.ref o1), .val (.int tk), .val (.int fi)] [(.int tk), (.ref (af14 (1 + 2 * fi.toNatClampNeg)))])) (fun _ ks_ => XS.iloadN X43.here hx rfl (hb hby d8_80) rfl  ks_) ?_
      refine go (u' := T43.setTop (mkF m 82 #[.val (.ref o0), .val (.ref o1), .val (.int tk), .val (.int fi)] [(.int (-1 : Int32)), (.int tk), (.ref (af14 (1 + 2 * fi.toNatClampNeg)))])) (fun _ ks_ => XS.iconst X43.here hx rfl (hb hby d8_81) ks_) ?_
      obtain ⟨T44, h44, X44, e44, W44, st44⟩ := own_iastore X43 hx hZ e43 (F40_9.ints (1 + 2 * fi.toNatClampNeg) hiv.2.2.2.2.2.1) (j := tk) (x := (-1 : Int32)) hjs.1 (own_lnlt hls hiv.2.2.2.2.2.1 hjs.2) (f := (mkF m 82 #[.val (.ref o0), .val (.ref o1), .val (.int tk), .val (.int fi)] [(.int (-1 : Int32)), (.int tk), (.ref (af14 (1 + 2 * fi.toNatClampNeg)))])) rfl rfl (hb hby d8_82)
      have N44 := Fr.snoc X44 N40 (F40_9.lo ((1 + 2 * fi.toNatClampNeg) + 5) (own_q5 hiv.2.2.2.2.2.1))
      have K44 : Keep h0 h44 (Wl o0 na pa xa ca af f) := K40.wr W44 (sub_4 ((1 + 2 * fi.toNatClampNeg) + 5) (own_q5 hiv.2.2.2.2.2.1))
      have Z44 : n0 ≤ h44.size := Nat.le_trans Z40 (Keep.of_wr W44).1
      have Fa45 : Exa Z h44 o0 "com/example/emberlot/emberlot/Slots" := F40_0.wr W44
      have Fa46 : Exa Z h44 o1 "java/lang/Integer" := F40_1.wr W44
      have Fa47 : Fld Z h44 o0 "com/example/emberlot/emberlot/Slots" "expected" "I" (.int E) := F40_2.other W44 (Or.inl (F40_9.inj 0 ((1 + 2 * fi.toNatClampNeg) + 5) (own_a5 (by decide)) (own_q5 hiv.2.2.2.2.2.1) (own_ne5 (by decide))))
      have Fa48 : Fld Z h44 o0 "com/example/emberlot/emberlot/Slots" "nodes" "[Ljava/lang/Object;" (.ref na14) := F40_3.other W44 (Or.inl (F40_9.inj 0 ((1 + 2 * fi.toNatClampNeg) + 5) (own_a5 (by decide)) (own_q5 hiv.2.2.2.2.2.1) (own_ne5 (by decide))))
      have Fa49 : Fld Z h44 o0 "com/example/emberlot/emberlot/Slots" "previous" "[[I" (.ref pa) := F40_4.other W44 (Or.inl (F40_9.inj 0 ((1 + 2 * fi.toNatClampNeg) + 5) (own_a5 (by decide)) (own_q5 hiv.2.2.2.2.2.1) (own_ne5 (by decide))))
      have Fa50 : Fld Z h44 o0 "com/example/emberlot/emberlot/Slots" "next" "[[I" (.ref xa) := F40_5.other W44 (Or.inl (F40_9.inj 0 ((1 + 2 * fi.toNatClampNeg) + 5) (own_a5 (by decide)) (own_q5 hiv.2.2.2.2.2.1) (own_ne5 (by decide))))
      have Fa51 : Fld Z h44 o0 "com/example/emberlot/emberlot/Slots" "columns" "[[I" (.ref ca) := F40_6.other W44 (Or.inl (F40_9.inj 0 ((1 + 2 * fi.toNatClampNeg) + 5) (own_a5 (by decide)) (own_q5 hiv.2.2.2.2.2.1) (own_ne5 (by decide))))
      have Fa52 : Fld Z h44 o0 "com/example/emberlot/emberlot/Slots" "free" "I" (.int fr) := F40_7.other W44 (Or.inl (F40_9.inj 0 ((1 + 2 * fi.toNatClampNeg) + 5) (own_a5 (by decide)) (own_q5 hiv.2.2.2.2.2.1) (own_ne5 (by decide))))
      have Fa53 : Fld Z h44 o0 "com/example/emberlot/emberlot/Slots" "taken" "I" (.int (tk + (1 : Int32))) := F40_8.other W44 (Or.inl (F40_9.inj 0 ((1 + 2 * fi.toNatClampNeg) + 5) (own_a5 (by decide)) (own_q5 hiv.2.2.2.2.2.1) (own_ne5 (by decide))))
      have S54 : SlA Z h44 n0 o0 na14 pa xa ca af14 f n14 ln14 (upd nd14 (tk).toNatClampNeg (.ref o1)) (upd gs_ (1 + 2 * fi.toNatClampNeg) (upd (gs_ (1 + 2 * fi.toNatClampNeg)) (tk).toNatClampNeg (-1 : Int32))) := F40_9.wrI (q := (1 + 2 * fi.toNatClampNeg)) (j := tk) hiv.2.2.2.2.2.1 (own_lnlt hls hiv.2.2.2.2.2.1 hjs.2) W44
      refine go (u' := T44.setTop (mkF m 83 #[.val (.ref o0), .val (.ref o1), .val (.int tk), .val (.int fi)] [])) st44 ?_
      refine go (u' := T44.setTop (mkF m 84 #[.val (.ref o0), .val (.ref o1), .val (.int tk), .val (.int fi)] [(.ref o0)])) (fun _ ks_ => XS.aloadN X44.here hx rfl (hb hby d8_83) rfl rfl ks_) ?_
      obtain ⟨T55, X55, e55, st55⟩ := getF X44 hx hZ hown (host := "") (Or.inl (ww hw 31 rfl)) Via.refl e44 Fa50 (g := (mkF m 84 #[.val (.ref o0), .val (.ref o1), .val (.int tk), .val (.int fi)] [(.ref o0)])) rfl rfl (hb hby d8_84)
      refine go (u' := T55.setTop (mkF m 87 #[.val (.ref o0), .val (.ref o1), .val (.int tk), .val (.int fi)] [(.ref xa)])) st55 ?_
      refine go (u' := T55.setTop (mkF m 88 #[.val (.ref o0), .val (.ref o1), .val (.int tk), .val (.int fi)] [(.int fi), (.ref xa)])) (fun _ ks_ => XS.iloadN X55.here hx rfl (hb hby d8_87) rfl  ks_) ?_
      refine go (u' := T55.setTop (mkF m 89 #[.val (.ref o0), .val (.ref o1), .val (.int tk), .val (.int fi)] [(.ref (af14 (2 + 2 * fi.toNatClampNeg)))])) (own_aaload X55 hx hZ e55 S54.next rfl (j := fi) (v := (.ref (af14 (2 + 2 * fi.toNatClampNeg)))) hiv.1 hiv.2.1 rfl (f := (mkF m 88 #[.val (.ref o0), .val (.ref o1), .val (.int tk), .val (.int fi)] [(.int fi), (.ref xa)])) rfl rfl (hb hby d8_88)) ?_
      refine go (u' := T55.setTop (mkF m 90 #[.val (.ref o0), .val (.ref o1), .val (.int tk), .val (.int fi)] [(.int tk), (.ref (af14 (2 + 2 * fi.toNatClampNeg)))])) (fun _ ks_ => XS.iloadN X55.here hx rfl (hb hby d8_89) rfl  ks_) ?_
      refine go (u' := T55.setTop (mkF m 91 #[.val (.ref o0), .val (.ref o1), .val (.int tk), .val (.int fi)] [(.int (-1 : Int32)), (.int tk), (.ref (af14 (2 + 2 * fi.toNatClampNeg)))])) (fun _ ks_ => XS.iconst X55.here hx rfl (hb hby d8_90) ks_) ?_
      obtain ⟨T56, h56, X56, e56, W56, st56⟩ := own_iastore X55 hx hZ e55 (S54.ints (2 + 2 * fi.toNatClampNeg) hiv.2.2.2.2.2.2) (j := tk) (x := (-1 : Int32)) hjs.1 (own_lnlt hls hiv.2.2.2.2.2.2 hjs.2) (f := (mkF m 91 #[.val (.ref o0), .val (.ref o1), .val (.int tk), .val (.int fi)] [(.int (-1 : Int32)), (.int tk), (.ref (af14 (2 + 2 * fi.toNatClampNeg)))])) rfl rfl (hb hby d8_91)
      have N56 := Fr.snoc X56 N44 (S54.lo ((2 + 2 * fi.toNatClampNeg) + 5) (own_q5 hiv.2.2.2.2.2.2))
      have K56 : Keep h0 h56 (Wl o0 na pa xa ca af f) := K44.wr W56 (sub_4 ((2 + 2 * fi.toNatClampNeg) + 5) (own_q5 hiv.2.2.2.2.2.2))
      have Z56 : n0 ≤ h56.size := Nat.le_trans Z44 (Keep.of_wr W56).1
      have Fa57 : Exa Z h56 o0 "com/example/emberlot/emberlot/Slots" := Fa45.wr W56
      have Fa58 : Exa Z h56 o1 "java/lang/Integer" := Fa46.wr W56
      have Fa59 : Fld Z h56 o0 "com/example/emberlot/emberlot/Slots" "expected" "I" (.int E) := Fa47.other W56 (Or.inl (S54.inj 0 ((2 + 2 * fi.toNatClampNeg) + 5) (own_a5 (by decide)) (own_q5 hiv.2.2.2.2.2.2) (own_ne5 (by decide))))
      have Fa60 : Fld Z h56 o0 "com/example/emberlot/emberlot/Slots" "nodes" "[Ljava/lang/Object;" (.ref na14) := Fa48.other W56 (Or.inl (S54.inj 0 ((2 + 2 * fi.toNatClampNeg) + 5) (own_a5 (by decide)) (own_q5 hiv.2.2.2.2.2.2) (own_ne5 (by decide))))
      have Fa61 : Fld Z h56 o0 "com/example/emberlot/emberlot/Slots" "previous" "[[I" (.ref pa) := Fa49.other W56 (Or.inl (S54.inj 0 ((2 + 2 * fi.toNatClampNeg) + 5) (own_a5 (by decide)) (own_q5 hiv.2.2.2.2.2.2) (own_ne5 (by decide))))
      have Fa62 : Fld Z h56 o0 "com/example/emberlot/emberlot/Slots" "next" "[[I" (.ref xa) := Fa50.other W56 (Or.inl (S54.inj 0 ((2 + 2 * fi.toNatClampNeg) + 5) (own_a5 (by decide)) (own_q5 hiv.2.2.2.2.2.2) (own_ne5 (by decide))))
      have Fa63 : Fld Z h56 o0 "com/example/emberlot/emberlot/Slots" "columns" "[[I" (.ref ca) := Fa51.other W56 (Or.inl (S54.inj 0 ((2 + 2 * fi.toNatClampNeg) + 5) (own_a5 (by decide)) (own_q5 hiv.2.2.2.2.2.2) (own_ne5 (by decide))))
      have Fa64 : Fld Z h56 o0 "com/example/emberlot/emberlot/Slots" "free" "I" (.int fr) := Fa52.other W56 (Or.inl (S54.inj 0 ((2 + 2 * fi.toNatClampNeg) + 5) (own_a5 (by decide)) (own_q5 hiv.2.2.2.2.2.2) (own_ne5 (by decide))))
      have Fa65 : Fld Z h56 o0 "com/example/emberlot/emberlot/Slots" "taken" "I" (.int (tk + (1 : Int32))) := Fa53.other W56 (Or.inl (S54.inj 0 ((2 + 2 * fi.toNatClampNeg) + 5) (own_a5 (by decide)) (own_q5 hiv.2.2.2.2.2.2) (own_ne5 (by decide))))
      have S66 : SlA Z h56 n0 o0 na14 pa xa ca af14 f n14 ln14 (upd nd14 (tk).toNatClampNeg (.ref o1)) (upd (upd gs_ (1 + 2 * fi.toNatClampNeg) (upd (gs_ (1 + 2 * fi.toNatClampNeg)) (tk).toNatClampNeg (-1 : Int32))) (2 + 2 * fi.toNatClampNeg) (upd ((upd gs_ (1 + 2 * fi.toNatClampNeg) (upd (gs_ (1 + 2 * fi.toNatClampNeg)) (tk).toNatClampNeg (-1 : Int32))) (2 + 2 * fi.toNatClampNeg)) (tk).toNatClampNeg (-1 : Int32))) := S54.wrI (q := (2 + 2 * fi.toNatClampNeg)) (j := tk) hiv.2.2.2.2.2.2 (own_lnlt hls hiv.2.2.2.2.2.2 hjs.2) W56
      refine go (u' := T56.setTop (mkF m 92 #[.val (.ref o0), .val (.ref o1), .val (.int tk), .val (.int fi)] [])) st56 ?_
      refine go (u' := T56.setTop (mkF m 95 #[.val (.ref o0), .val (.ref o1), .val (.int tk), .val (.int (fi + (1 : Int32)))] [])) (fun _ ks_ => XS.iinc X56.here hx rfl (hb hby d8_92) rfl (l' := #[.val (.ref o0), .val (.ref o1), .val (.int tk), .val (.int (fi + (1 : Int32)))]) rfl ks_) ?_
      refine go (u' := T56.setTop (mkF m 65 #[.val (.ref o0), .val (.ref o1), .val (.int tk), .val (.int (fi + (1 : Int32)))] [])) (fun _ ks_ => XS.goto X56.here hx rfl (pc0 := 95) (pc' := 65) rfl (hb hby d8_95) (by decide) (by decide) ks_) ?_
      exact ih65 ((fi + (1 : Int32))) ((upd (upd gs_ (1 + 2 * fi.toNatClampNeg) (upd (gs_ (1 + 2 * fi.toNatClampNeg)) (tk).toNatClampNeg (-1 : Int32))) (2 + 2 * fi.toNatClampNeg) (upd ((upd gs_ (1 + 2 * fi.toNatClampNeg) (upd (gs_ (1 + 2 * fi.toNatClampNeg)) (tk).toNatClampNeg (-1 : Int32))) (2 + 2 * fi.toNatClampNeg)) (tk).toNatClampNeg (-1 : Int32)))) _ _ _ X56 e56 N56 Z56 K56 Fa57 Fa58 Fa59 Fa60 Fa61 Fa62 Fa63 Fa64 Fa65 S66 hiv.2.2.2.1 (hA.step hiv.2.2.2.2.1)
  exact C65_1 f ((0 : Int32)) gs14 _ _ _ X29 e29 N29 Z29 K29 Fa30 Fa31 Fa32 Fa33 Fa34 Fa35 Fa36 Fa37 Fa38 S39 ⟨by decide, by simp⟩ Afl.start
theorem own_E {q3 : Int64} : 0 < (((if (2147483639 : Int64) < (if q3 < (1 : Int64) then (1 : Int64) else q3) then (2147483639 : Int64) else (if q3 < (1 : Int64) then (1 : Int64) else q3))).toInt32).toInt := by
  have h1 : (1 : Int64).toInt = 1 := rfl
  have h2 : (2147483639 : Int64).toInt = 2147483639 := rfl
  obtain ⟨M, hM⟩ : ∃ M, M = (if q3 < (1 : Int64) then (1 : Int64) else q3) := ⟨_, rfl⟩
  have h3 : 0 < M.toInt := by
    rw [hM]
    by_cases c : q3 < (1 : Int64)
    · rw [if_pos c, h1]; decide
    · rw [if_neg c]; rw [Int64.lt_iff_toInt_lt] at c; omega
  rw [← hM]
  by_cases c : (2147483639 : Int64) < M
  · rw [if_pos c]; decide
  · rw [if_neg c]; rw [Int64.lt_iff_toInt_lt] at c
    rw [Int64.toInt_toInt32, Int.bmod_eq_of_le (by omega) (by omega)]; exact h3
theorem pn_com_example_emberlot_emberlot_Slots__init__1 : plainFor (⟨"com/example/emberlot/emberlot/Slots", "<init>", "(IIJ)V"⟩ : MethodName) = true := by first | exact plainFor_of_name (by first | (simp [plainName, overriddenIn]; done) | decide +kernel) | decide +kernel
def Q_rm1 (Z : State) (o0 : Addr) (p1 : Int32) (q3 : Int64) (h0 : Heap) (n0 : Nat) (v : Option Value) (h : Heap) (L : List Loc) : Prop := ∃ na : Addr, ∃ pa : Addr, ∃ xa : Addr, ∃ ca : Addr, ∃ E : Int32, v = none ∧ Fr n0 L ∧ Keep h0 h [o0] ∧ (Exa Z h o0 "com/example/emberlot/emberlot/Slots") ∧ (Fld Z h o0 "com/example/emberlot/emberlot/Slots" "expected" "I" (.int E)) ∧ (Fld Z h o0 "com/example/emberlot/emberlot/Slots" "nodes" "[Ljava/lang/Object;" (.ref na)) ∧ (Fld Z h o0 "com/example/emberlot/emberlot/Slots" "previous" "[[I" (.ref pa)) ∧ (Fld Z h o0 "com/example/emberlot/emberlot/Slots" "next" "[[I" (.ref xa)) ∧ (Fld Z h o0 "com/example/emberlot/emberlot/Slots" "columns" "[[I" (.ref ca)) ∧ (Fld Z h o0 "com/example/emberlot/emberlot/Slots" "free" "I" (.int (-1 : Int32))) ∧ (Fld Z h o0 "com/example/emberlot/emberlot/Slots" "taken" "I" (.int (0 : Int32))) ∧ (SlA Z h n0 o0 na pa xa ca (afc pa xa ca) p1.toNatClampNeg 0 (fun _ => 0) (fun _ => Value.null) (fun _ _ => (0 : Int32))) ∧ (0 < E.toInt)
set_option maxRecDepth 65536 in
set_option maxHeartbeats 4000000 in
theorem ef_rm1 (m : MethodId) (o0 : Addr) (p1 : Int32) (q3 : Int64) : entryFrame m #[(.ref o0), (.int p1), (.int (1 : Int32)), (.long q3)] 5 = mkF m 0 #[.val (.ref o0), .val (.int p1), .val (.int (1 : Int32)), .val (.long q3), .second] [] := by first | (simp [entryFrame, mkF, argsToLocals, Value.category, maxLocals]; done) | rfl
theorem d1_0 : decode prog_50_method_1_code 0 = .ok (.aload_n 0, 1) := by decide +kernel
theorem d1_1 : decode prog_50_method_1_code 1 = .ok (.invokespecial 3, 3) := by decide +kernel
theorem d1_4 : decode prog_50_method_1_code 4 = .ok (.aload_n 0, 1) := by decide +kernel
theorem d1_5 : decode prog_50_method_1_code 5 = .ok (.iconst 0, 1) := by decide +kernel
theorem d1_6 : decode prog_50_method_1_code 6 = .ok (.anewarray 4, 3) := by decide +kernel
theorem d1_9 : decode prog_50_method_1_code 9 = .ok (.putfield 9, 3) := by decide +kernel
theorem d1_12 : decode prog_50_method_1_code 12 = .ok (.aload_n 0, 1) := by decide +kernel
theorem d1_13 : decode prog_50_method_1_code 13 = .ok (.iconst (-1), 1) := by decide +kernel
theorem d1_14 : decode prog_50_method_1_code 14 = .ok (.putfield 15, 3) := by decide +kernel
theorem d1_17 : decode prog_50_method_1_code 17 = .ok (.aload_n 0, 1) := by decide +kernel
theorem d1_18 : decode prog_50_method_1_code 18 = .ok (.lload_n 3, 1) := by decide +kernel
theorem d1_19 : decode prog_50_method_1_code 19 = .ok (.lconst 1, 1) := by decide +kernel
theorem d1_20 : decode prog_50_method_1_code 20 = .ok (.invokestatic 19, 3) := by decide +kernel
theorem d1_23 : decode prog_50_method_1_code 23 = .ok (.ldc2_w 25, 3) := by decide +kernel
theorem d1_26 : decode prog_50_method_1_code 26 = .ok (.invokestatic 27, 3) := by decide +kernel
theorem d1_29 : decode prog_50_method_1_code 29 = .ok (.l2i, 1) := by decide +kernel
theorem d1_30 : decode prog_50_method_1_code 30 = .ok (.putfield 30, 3) := by decide +kernel
theorem d1_33 : decode prog_50_method_1_code 33 = .ok (.aload_n 0, 1) := by decide +kernel
theorem d1_34 : decode prog_50_method_1_code 34 = .ok (.iload_n 1, 1) := by decide +kernel
theorem d1_35 : decode prog_50_method_1_code 35 = .ok (.iconst 0, 1) := by decide +kernel
theorem d1_36 : decode prog_50_method_1_code 36 = .ok (.multianewarray 33 2, 4) := by decide +kernel
theorem d1_40 : decode prog_50_method_1_code 40 = .ok (.putfield 35, 3) := by decide +kernel
theorem d1_43 : decode prog_50_method_1_code 43 = .ok (.aload_n 0, 1) := by decide +kernel
theorem d1_44 : decode prog_50_method_1_code 44 = .ok (.iload_n 1, 1) := by decide +kernel
theorem d1_45 : decode prog_50_method_1_code 45 = .ok (.iconst 0, 1) := by decide +kernel
theorem d1_46 : decode prog_50_method_1_code 46 = .ok (.multianewarray 33 2, 4) := by decide +kernel
theorem d1_50 : decode prog_50_method_1_code 50 = .ok (.putfield 38, 3) := by decide +kernel
theorem d1_53 : decode prog_50_method_1_code 53 = .ok (.aload_n 0, 1) := by decide +kernel
theorem d1_54 : decode prog_50_method_1_code 54 = .ok (.iload_n 2, 1) := by decide +kernel
theorem d1_55 : decode prog_50_method_1_code 55 = .ok (.iconst 0, 1) := by decide +kernel
theorem d1_56 : decode prog_50_method_1_code 56 = .ok (.multianewarray 33 2, 4) := by decide +kernel
theorem d1_60 : decode prog_50_method_1_code 60 = .ok (.putfield 41, 3) := by decide +kernel
theorem d1_63 : decode prog_50_method_1_code 63 = .ok (.return_, 1) := by decide +kernel
set_option maxRecDepth 65536 in
set_option maxHeartbeats 40000000 in
theorem rm1 (l : Launch) (Z : State) (a0 : Array Value) (hw : ∀ d ∈ tables_1, d.before a0 Z = true) (ws : List Jvm.Cond) (o0 : Addr) (p1 : Int32) (q3 : Int64) (h0 : Heap) (n0 : Nat) (Z0 : n0 ≤ h0.size) (g_o0 : n0 ≤ o0) (F0 : Exa Z h0 o0 "com/example/emberlot/emberlot/Slots") (F1 : Fld Z h0 o0 "com/example/emberlot/emberlot/Slots" "expected" "I" (.int (0 : Int32))) (F2 : Fld Z h0 o0 "com/example/emberlot/emberlot/Slots" "nodes" "[Ljava/lang/Object;" .null) (F3 : Fld Z h0 o0 "com/example/emberlot/emberlot/Slots" "previous" "[[I" .null) (F4 : Fld Z h0 o0 "com/example/emberlot/emberlot/Slots" "next" "[[I" .null) (F5 : Fld Z h0 o0 "com/example/emberlot/emberlot/Slots" "columns" "[[I" .null) (F6 : Fld Z h0 o0 "com/example/emberlot/emberlot/Slots" "free" "I" (.int (0 : Int32))) (F7 : Fld Z h0 o0 "com/example/emberlot/emberlot/Slots" "taken" "I" (.int (0 : Int32))) (hfam : ¬ p1 < 0 ∧ 0 < p1.toNatClampNeg ∧ p1.toNatClampNeg ≤ 4) :
    MetFree l (⟨"com/example/emberlot/emberlot/Slots", "<init>", "(IIJ)V"⟩ : MethodName) (head1 (Jvm.Cond.code (⟨"com/example/emberlot/emberlot/Slots", "<init>", "(IIJ)V"⟩ : MethodName) prog_50_method_1_code 5 none :: ws) ({ frames := 1, cells := 16, slots := 12, locals := 16 } : Room)) (fun a U => a = #[(.ref o0), (.int p1), (.int (1 : Int32)), (.long q3)] ∧ Z.Warmed39 U.vm ∧ U.heap = h0) (fun _ _ _ _ _ => True) (fun _ U o U' => ∃ v L, o = .returned v ∧ Q_rm1 Z o0 p1 q3 h0 n0 v U'.heap L ∧ FrameEnd U o U' L ({ frames := 1, cells := 16, slots := 12, locals := 16 } : Room).cells ({ frames := 1, cells := 16, slots := 12, locals := 16 } : Room).slots) := by
  refine body pn_com_example_emberlot_emberlot_Slots__init__1 ?_
  intro p e s m below meth c s₁ hx hby hml hown hnm hret hlk hZ e0 X0
  replace hml : c.maxLocals = 5 := hml
  replace hown : s.vm.findClass "com/example/emberlot/emberlot/Slots" = some m.cls := hown
  replace hnm : meth.name = "<init>" := hnm
  replace hret : meth.sig.returnType = none := hret
  have N0 := Fr.nil n0
  rw [ef_rm1]
  obtain ⟨G, hG⟩ : ∃ G, G = End (Q_rm1 Z o0 p1 q3 h0 n0) s ({ frames := 1, cells := 16, slots := 12, locals := 16 } : Room).cells ({ frames := 1, cells := 16, slots := 12, locals := 16 } : Room).slots := ⟨_, rfl⟩
  rw [← hG]
  refine go (u' := s₁.setTop (mkF m 1 #[.val (.ref o0), .val (.int p1), .val (.int (1 : Int32)), .val (.long q3), .second] [(.ref o0)])) (fun _ ks_ => XS.aloadN X0.here hx rfl (hb hby d1_0) rfl rfl ks_) ?_
  obtain ⟨T1, X1, e1, st1⟩ := initO X0 hx hZ hown (ww hw 7 rfl) (ww hw 8 rfl) (ww hw 9 rfl) e0 (g := (mkF m 1 #[.val (.ref o0), .val (.int p1), .val (.int (1 : Int32)), .val (.long q3), .second] [(.ref o0)])) rfl (by rw [hml]; rfl) rfl (hb hby d1_1) (by decide) (W := 0) (by show 2 * 0 + _ ≤ _; exact Nat.le_of_eq rfl) (by decide)
  refine go (u' := T1.setTop (mkF m 4 #[.val (.ref o0), .val (.int p1), .val (.int (1 : Int32)), .val (.long q3), .second] [])) st1 ?_
  refine go (u' := T1.setTop (mkF m 5 #[.val (.ref o0), .val (.int p1), .val (.int (1 : Int32)), .val (.long q3), .second] [(.ref o0)])) (fun _ ks_ => XS.aloadN X1.here hx rfl (hb hby d1_4) rfl rfl ks_) ?_
  refine go (u' := T1.setTop (mkF m 6 #[.val (.ref o0), .val (.int p1), .val (.int (1 : Int32)), .val (.long q3), .second] [(.int (0 : Int32)), (.ref o0)])) (fun _ ks_ => XS.iconst X1.here hx rfl (hb hby d1_5) ks_) ?_
  obtain ⟨T2, h2, k2, X2, e2, E2, A2, Q2, O2, st2⟩ := newRE X1 hx hZ hown (ww hw 10 rfl) (ww hw 11 rfl) e1 (g := (mkF m 6 #[.val (.ref o0), .val (.int p1), .val (.int (1 : Int32)), .val (.long q3), .second] [(.int (0 : Int32)), (.ref o0)])) rfl (hb hby d1_6) rfl (by decide) (cap := 0) (by decide) (by decide) (by decide) (by decide) (ad := "[Ljava/lang/Object;") rfl
  obtain ⟨b2, g2⟩ : ∃ z, z = h0.size := ⟨_, rfl⟩
  rw [← g2] at A2 Q2 st2
  have ne_o0_b2 : o0 ≠ b2 := Nat.ne_of_lt (Nat.lt_of_lt_of_le F0.lt (Nat.le_of_eq g2.symm))
  have g_b2 : n0 ≤ b2 := Nat.le_trans Z0 (Nat.le_of_eq g2.symm)
  have sz_b2 : h0.size ≤ b2 := Nat.le_trans (Keep.refl h0 [o0]).1 (Nat.le_of_eq g2.symm)
  have K2 : Keep h0 h2 [o0] := (Keep.refl h0 [o0]).ext E2
  have Fa3 : Exa Z h2 o0 "com/example/emberlot/emberlot/Slots" := F0.ext E2
  have Fa4 : Fld Z h2 o0 "com/example/emberlot/emberlot/Slots" "expected" "I" (.int (0 : Int32)) := F1.ext E2
  have Fa5 : Fld Z h2 o0 "com/example/emberlot/emberlot/Slots" "nodes" "[Ljava/lang/Object;" .null := F2.ext E2
  have Fa6 : Fld Z h2 o0 "com/example/emberlot/emberlot/Slots" "previous" "[[I" .null := F3.ext E2
  have Fa7 : Fld Z h2 o0 "com/example/emberlot/emberlot/Slots" "next" "[[I" .null := F4.ext E2
  have Fa8 : Fld Z h2 o0 "com/example/emberlot/emberlot/Slots" "columns" "[[I" .null := F5.ext E2
  have Fa9 : Fld Z h2 o0 "com/example/emberlot/emberlot/Slots" "free" "I" (.int (0 : Int32)) := F6.ext E2
  have Fa10 : Fld Z h2 o0 "com/example/emberlot/emberlot/Slots" "taken" "I" (.int (0 : Int32)) := F7.ext E2
  have Z2 : n0 ≤ h2.size := Nat.le_trans Z0 E2.1
  have lt_o0_b2 : o0 < b2 := Nat.lt_of_lt_of_le F0.lt (Nat.le_of_eq g2.symm)
  have Fa11 : PR Z h2 b2 (.object "java/lang/Object") "java/lang/Object" 0 (fun _ => Value.null) := PR.new A2 O2 (by decide)
  refine go (u' := T2.setTop (mkF m 9 #[.val (.ref o0), .val (.int p1), .val (.int (1 : Int32)), .val (.long q3), .second] [(.ref b2), (.ref o0)])) st2 ?_
  obtain ⟨T12, h12, X12, e12, W12, st12⟩ := putF X2 hx hZ hown (host := "") (Or.inl (ww hw 12 rfl)) Via.refl e2 Fa5 Fa3 (Or.inl (ww hw 13 rfl)) (ww hw 1 rfl) (ty := (.array (.object "java/lang/Object"))) (by decide) rfl rfl (g := (mkF m 9 #[.val (.ref o0), .val (.int p1), .val (.int (1 : Int32)), .val (.long q3), .second] [(.ref b2), (.ref o0)])) rfl rfl (hb hby d1_9)
  have N12 := Fr.snoc X12 N0 g_o0
  have K12 : Keep h0 h12 [o0] := K2.wr W12 (Or.inl (List.mem_of_getElem? (i := 0) rfl))
  have Z12 : n0 ≤ h12.size := Nat.le_trans Z2 (Keep.of_wr W12).1
  have Fa13 : Exa Z h12 o0 "com/example/emberlot/emberlot/Slots" := Fa3.wr W12
  have Fa14 : Fld Z h12 o0 "com/example/emberlot/emberlot/Slots" "expected" "I" (.int (0 : Int32)) := Fa4.other W12 (Or.inr (slot_ne (Or.inr (ww hw 25 rfl)) (Or.inl (ww hw 13 rfl)) (by decide) (t := .int) (t' := (.array (.object "java/lang/Object"))) (by decide) (by decide)))
  have Fa15 : Fld Z h12 o0 "com/example/emberlot/emberlot/Slots" "previous" "[[I" .null := Fa6.other W12 (Or.inr (slot_ne (Or.inr (ww hw 30 rfl)) (Or.inl (ww hw 13 rfl)) (by decide) (t := (.array (.array .int))) (t' := (.array (.object "java/lang/Object"))) (by decide) (by decide)))
  have Fa16 : Fld Z h12 o0 "com/example/emberlot/emberlot/Slots" "next" "[[I" .null := Fa7.other W12 (Or.inr (slot_ne (Or.inr (ww hw 32 rfl)) (Or.inl (ww hw 13 rfl)) (by decide) (t := (.array (.array .int))) (t' := (.array (.object "java/lang/Object"))) (by decide) (by decide)))
  have Fa17 : Fld Z h12 o0 "com/example/emberlot/emberlot/Slots" "columns" "[[I" .null := Fa8.other W12 (Or.inr (slot_ne (Or.inr (ww hw 34 rfl)) (Or.inl (ww hw 13 rfl)) (by decide) (t := (.array (.array .int))) (t' := (.array (.object "java/lang/Object"))) (by decide) (by decide)))
  have Fa18 : Fld Z h12 o0 "com/example/emberlot/emberlot/Slots" "free" "I" (.int (0 : Int32)) := Fa9.other W12 (Or.inr (slot_ne (Or.inl (ww hw 15 rfl)) (Or.inl (ww hw 13 rfl)) (by decide) (t := .int) (t' := (.array (.object "java/lang/Object"))) (by decide) (by decide)))
  have Fa19 : Fld Z h12 o0 "com/example/emberlot/emberlot/Slots" "taken" "I" (.int (0 : Int32)) := Fa10.other W12 (Or.inr (slot_ne (Or.inl (ww hw 64 rfl)) (Or.inl (ww hw 13 rfl)) (by decide) (t := .int) (t' := (.array (.object "java/lang/Object"))) (by decide) (by decide)))
  have Fa20 : PR Z h12 b2 (.object "java/lang/Object") "java/lang/Object" 0 (fun _ => Value.null) := Fa11.other W12 (Ne.symm ne_o0_b2)
  have Fa21 : Exa Z h12 b2 "[Ljava/lang/Object;" := Q2.wr W12
  have Fa22 : Fld Z h12 o0 "com/example/emberlot/emberlot/Slots" "nodes" "[Ljava/lang/Object;" (.ref b2) := Fa5.same W12
  refine go (u' := T12.setTop (mkF m 12 #[.val (.ref o0), .val (.int p1), .val (.int (1 : Int32)), .val (.long q3), .second] [])) st12 ?_
  refine go (u' := T12.setTop (mkF m 13 #[.val (.ref o0), .val (.int p1), .val (.int (1 : Int32)), .val (.long q3), .second] [(.ref o0)])) (fun _ ks_ => XS.aloadN X12.here hx rfl (hb hby d1_12) rfl rfl ks_) ?_
  refine go (u' := T12.setTop (mkF m 14 #[.val (.ref o0), .val (.int p1), .val (.int (1 : Int32)), .val (.long q3), .second] [(.int (-1 : Int32)), (.ref o0)])) (fun _ ks_ => XS.iconst X12.here hx rfl (hb hby d1_13) ks_) ?_
  obtain ⟨T23, h23, X23, e23, W23, st23⟩ := putF X12 hx hZ hown (host := "") (Or.inl (ww hw 14 rfl)) Via.refl e12 Fa18 Fa13 (Or.inl (ww hw 15 rfl)) (ww hw 1 rfl) (ty := .int) (by decide) rfl rfl (g := (mkF m 14 #[.val (.ref o0), .val (.int p1), .val (.int (1 : Int32)), .val (.long q3), .second] [(.int (-1 : Int32)), (.ref o0)])) rfl rfl (hb hby d1_14)
  have N23 := Fr.snoc X23 N12 g_o0
  have K23 : Keep h0 h23 [o0] := K12.wr W23 (Or.inl (List.mem_of_getElem? (i := 0) rfl))
  have Z23 : n0 ≤ h23.size := Nat.le_trans Z12 (Keep.of_wr W23).1
  have Fa24 : Exa Z h23 o0 "com/example/emberlot/emberlot/Slots" := Fa13.wr W23
  have Fa25 : Fld Z h23 o0 "com/example/emberlot/emberlot/Slots" "expected" "I" (.int (0 : Int32)) := Fa14.other W23 (Or.inr (slot_ne (Or.inr (ww hw 25 rfl)) (Or.inl (ww hw 15 rfl)) (by decide) (t := .int) (t' := .int) (by decide) (by decide)))
  have Fa26 : Fld Z h23 o0 "com/example/emberlot/emberlot/Slots" "nodes" "[Ljava/lang/Object;" (.ref b2) := Fa22.other W23 (Or.inr (slot_ne (Or.inl (ww hw 13 rfl)) (Or.inl (ww hw 15 rfl)) (by decide) (t := (.array (.object "java/lang/Object"))) (t' := .int) (by decide) (by decide)))
  have Fa27 : Fld Z h23 o0 "com/example/emberlot/emberlot/Slots" "previous" "[[I" .null := Fa15.other W23 (Or.inr (slot_ne (Or.inr (ww hw 30 rfl)) (Or.inl (ww hw 15 rfl)) (by decide) (t := (.array (.array .int))) (t' := .int) (by decide) (by decide)))
  have Fa28 : Fld Z h23 o0 "com/example/emberlot/emberlot/Slots" "next" "[[I" .null := Fa16.other W23 (Or.inr (slot_ne (Or.inr (ww hw 32 rfl)) (Or.inl (ww hw 15 rfl)) (by decide) (t := (.array (.array .int))) (t' := .int) (by decide) (by decide)))
  have Fa29 : Fld Z h23 o0 "com/example/emberlot/emberlot/Slots" "columns" "[[I" .null := Fa17.other W23 (Or.inr (slot_ne (Or.inr (ww hw 34 rfl)) (Or.inl (ww hw 15 rfl)) (by decide) (t := (.array (.array .int))) (t' := .int) (by decide) (by decide)))
  have Fa30 : Fld Z h23 o0 "com/example/emberlot/emberlot/Slots" "taken" "I" (.int (0 : Int32)) := Fa19.other W23 (Or.inr (slot_ne (Or.inl (ww hw 64 rfl)) (Or.inl (ww hw 15 rfl)) (by decide) (t := .int) (t' := .int) (by decide) (by decide)))
  have Fa31 : PR Z h23 b2 (.object "java/lang/Object") "java/lang/Object" 0 (fun _ => Value.null) := Fa20.other W23 (Ne.symm ne_o0_b2)
  have Fa32 : Exa Z h23 b2 "[Ljava/lang/Object;" := Fa21.wr W23
  have Fa33 : Fld Z h23 o0 "com/example/emberlot/emberlot/Slots" "free" "I" (.int (-1 : Int32)) := Fa18.same W23
  refine go (u' := T23.setTop (mkF m 17 #[.val (.ref o0), .val (.int p1), .val (.int (1 : Int32)), .val (.long q3), .second] [])) st23 ?_
  refine go (u' := T23.setTop (mkF m 18 #[.val (.ref o0), .val (.int p1), .val (.int (1 : Int32)), .val (.long q3), .second] [(.ref o0)])) (fun _ ks_ => XS.aloadN X23.here hx rfl (hb hby d1_17) rfl rfl ks_) ?_
  refine go (u' := T23.setTop (mkF m 19 #[.val (.ref o0), .val (.int p1), .val (.int (1 : Int32)), .val (.long q3), .second] [(.long q3), (.ref o0)])) (fun _ ks_ => XS.lloadN X23.here hx rfl (hb hby d1_18) rfl  ks_) ?_
  refine go (u' := T23.setTop (mkF m 20 #[.val (.ref o0), .val (.int p1), .val (.int (1 : Int32)), .val (.long q3), .second] [(.long (1 : Int64)), (.long q3), (.ref o0)])) (fun _ ks_ => XS.lconst X23.here hx rfl (hb hby d1_19) ks_) ?_
  obtain ⟨_, _, ⟨T34, L34, k34, n34⟩, -, X34, ⟨Lc34, hQ34, l34, y34, z34⟩, st34⟩ := Jvm.LawKit.callS X23 hx (y := (⟨"java/lang/Math", "max", "(JJ)J"⟩ : MethodName)) hown (mvT hZ (ww hw 16 rfl)) (mvT hZ (ww hw 17 rfl)) (mvT hZ (ww hw 18 rfl)) (mvT hZ (ww hw 19 rfl)) (by decide) (backOf (W := 1) (rm3 l Z a0 hw [] q3 (1 : Int64) h23 n0 Z23) hZ (ww hw 19 rfl) (ww hw 18 rfl) (by decide) (by decide)) (g := (mkF m 20 #[.val (.ref o0), .val (.int p1), .val (.int (1 : Int32)), .val (.long q3), .second] [(.long (1 : Int64)), (.long q3), (.ref o0)])) rfl (by rw [hml]; rfl) (argsL := [(.long q3), (.long (1 : Int64))]) (rest := [(.ref o0)]) (lenOf pd__40_JJ_41_J rfl) rfl (by show 2 * 0 + _ ≤ _; exact Nat.le_of_eq rfl) (hb hby d1_20) (fun _ _ => ⟨rfl, e23, (by decide : 1 + 0 ≤ _), (by decide : 0 + 0 ≤ _)⟩)
  dsimp only [Pt.U, Pt.locs, Pt.cells, Pt.slots] at X34 l34 y34 z34 st34 hQ34
  subst l34 y34 z34
  obtain ⟨rfl, N34q, eq34⟩ := hQ34
  have N34 := Fr.app N23 N34q
  refine go (u' := T34.setTop (mkF m 23 #[.val (.ref o0), .val (.int p1), .val (.int (1 : Int32)), .val (.long q3), .second] [(.long (if q3 < (1 : Int64) then (1 : Int64) else q3)), (.ref o0)])) st34 ?_
  refine go (u' := T34.setTop (mkF m 26 #[.val (.ref o0), .val (.int p1), .val (.int (1 : Int32)), .val (.long q3), .second] [(.long (2147483639 : Int64)), (.long (if q3 < (1 : Int64) then (1 : Int64) else q3)), (.ref o0)])) (X34.ldc2Long hx hown (mvT hZ (ww hw 20 rfl)) (g := (mkF m 23 #[.val (.ref o0), .val (.int p1), .val (.int (1 : Int32)), .val (.long q3), .second] [(.long (if q3 < (1 : Int64) then (1 : Int64) else q3)), (.ref o0)])) rfl (hb hby d1_23)) ?_
  obtain ⟨_, _, ⟨T35, L35, k35, n35⟩, -, X35, ⟨Lc35, hQ35, l35, y35, z35⟩, st35⟩ := Jvm.LawKit.callS X34 hx (y := (⟨"java/lang/Math", "min", "(JJ)J"⟩ : MethodName)) hown (mvT hZ (ww hw 21 rfl)) (mvT hZ (ww hw 22 rfl)) (mvT hZ (ww hw 18 rfl)) (mvT hZ (ww hw 23 rfl)) (by decide) (backOf (W := 1) (rm4 l Z a0 hw [] (if q3 < (1 : Int64) then (1 : Int64) else q3) (2147483639 : Int64) h23 n0 Z23) hZ (ww hw 23 rfl) (ww hw 18 rfl) (by decide) (by decide)) (g := (mkF m 26 #[.val (.ref o0), .val (.int p1), .val (.int (1 : Int32)), .val (.long q3), .second] [(.long (2147483639 : Int64)), (.long (if q3 < (1 : Int64) then (1 : Int64) else q3)), (.ref o0)])) rfl (by rw [hml]; rfl) (argsL := [(.long (if q3 < (1 : Int64) then (1 : Int64) else q3)), (.long (2147483639 : Int64))]) (rest := [(.ref o0)]) (lenOf pd__40_JJ_41_J rfl) rfl (by show 2 * 0 + _ ≤ _; exact Nat.le_of_eq rfl) (hb hby d1_26) (fun _ _ => ⟨rfl, eq34, (by decide : 1 + 0 ≤ _), (by decide : 0 + 0 ≤ _)⟩)
  dsimp only [Pt.U, Pt.locs, Pt.cells, Pt.slots] at X35 l35 y35 z35 st35 hQ35
  subst l35 y35 z35
  obtain ⟨rfl, N35q, eq35⟩ := hQ35
  have N35 := Fr.app N34 N35q
  refine go (u' := T35.setTop (mkF m 29 #[.val (.ref o0), .val (.int p1), .val (.int (1 : Int32)), .val (.long q3), .second] [(.long (if (2147483639 : Int64) < (if q3 < (1 : Int64) then (1 : Int64) else q3) then (2147483639 : Int64) else (if q3 < (1 : Int64) then (1 : Int64) else q3))), (.ref o0)])) st35 ?_
  refine go (u' := T35.setTop (mkF m 30 #[.val (.ref o0), .val (.int p1), .val (.int (1 : Int32)), .val (.long q3), .second] [(.int ((if (2147483639 : Int64) < (if q3 < (1 : Int64) then (1 : Int64) else q3) then (2147483639 : Int64) else (if q3 < (1 : Int64) then (1 : Int64) else q3)).toInt32)), (.ref o0)])) (fun _ ks_ => XS.l2i X35.here hx rfl (hb hby d1_29) rfl ks_) ?_
  obtain ⟨T36, h36, X36, e36, W36, st36⟩ := putF X35 hx hZ hown (host := "") (Or.inl (ww hw 24 rfl)) Via.refl eq35 Fa25 Fa24 (Or.inr ⟨(ww hw 25 rfl), rfl, hnm⟩) (ww hw 1 rfl) (ty := .int) (by decide) rfl rfl (g := (mkF m 30 #[.val (.ref o0), .val (.int p1), .val (.int (1 : Int32)), .val (.long q3), .second] [(.int ((if (2147483639 : Int64) < (if q3 < (1 : Int64) then (1 : Int64) else q3) then (2147483639 : Int64) else (if q3 < (1 : Int64) then (1 : Int64) else q3)).toInt32)), (.ref o0)])) rfl rfl (hb hby d1_30)
  have N36 := Fr.snoc X36 N35 g_o0
  have K36 : Keep h0 h36 [o0] := K23.wr W36 (Or.inl (List.mem_of_getElem? (i := 0) rfl))
  have Z36 : n0 ≤ h36.size := Nat.le_trans Z23 (Keep.of_wr W36).1
  have Fa37 : Exa Z h36 o0 "com/example/emberlot/emberlot/Slots" := Fa24.wr W36
  have Fa38 : Fld Z h36 o0 "com/example/emberlot/emberlot/Slots" "nodes" "[Ljava/lang/Object;" (.ref b2) := Fa26.other W36 (Or.inr (slot_ne (Or.inl (ww hw 13 rfl)) (Or.inr (ww hw 25 rfl)) (by decide) (t := (.array (.object "java/lang/Object"))) (t' := .int) (by decide) (by decide)))
  have Fa39 : Fld Z h36 o0 "com/example/emberlot/emberlot/Slots" "previous" "[[I" .null := Fa27.other W36 (Or.inr (slot_ne (Or.inr (ww hw 30 rfl)) (Or.inr (ww hw 25 rfl)) (by decide) (t := (.array (.array .int))) (t' := .int) (by decide) (by decide)))
  have Fa40 : Fld Z h36 o0 "com/example/emberlot/emberlot/Slots" "next" "[[I" .null := Fa28.other W36 (Or.inr (slot_ne (Or.inr (ww hw 32 rfl)) (Or.inr (ww hw 25 rfl)) (by decide) (t := (.array (.array .int))) (t' := .int) (by decide) (by decide)))
  have Fa41 : Fld Z h36 o0 "com/example/emberlot/emberlot/Slots" "columns" "[[I" .null := Fa29.other W36 (Or.inr (slot_ne (Or.inr (ww hw 34 rfl)) (Or.inr (ww hw 25 rfl)) (by decide) (t := (.array (.array .int))) (t' := .int) (by decide) (by decide)))
  have Fa42 : Fld Z h36 o0 "com/example/emberlot/emberlot/Slots" "free" "I" (.int (-1 : Int32)) := Fa33.other W36 (Or.inr (slot_ne (Or.inl (ww hw 15 rfl)) (Or.inr (ww hw 25 rfl)) (by decide) (t := .int) (t' := .int) (by decide) (by decide)))
  have Fa43 : Fld Z h36 o0 "com/example/emberlot/emberlot/Slots" "taken" "I" (.int (0 : Int32)) := Fa30.other W36 (Or.inr (slot_ne (Or.inl (ww hw 64 rfl)) (Or.inr (ww hw 25 rfl)) (by decide) (t := .int) (t' := .int) (by decide) (by decide)))
  have Fa44 : PR Z h36 b2 (.object "java/lang/Object") "java/lang/Object" 0 (fun _ => Value.null) := Fa31.other W36 (Ne.symm ne_o0_b2)
  have Fa45 : Exa Z h36 b2 "[Ljava/lang/Object;" := Fa32.wr W36
  have Fa46 : Fld Z h36 o0 "com/example/emberlot/emberlot/Slots" "expected" "I" (.int ((if (2147483639 : Int64) < (if q3 < (1 : Int64) then (1 : Int64) else q3) then (2147483639 : Int64) else (if q3 < (1 : Int64) then (1 : Int64) else q3)).toInt32)) := Fa25.same W36
  refine go (u' := T36.setTop (mkF m 33 #[.val (.ref o0), .val (.int p1), .val (.int (1 : Int32)), .val (.long q3), .second] [])) st36 ?_
  refine go (u' := T36.setTop (mkF m 34 #[.val (.ref o0), .val (.int p1), .val (.int (1 : Int32)), .val (.long q3), .second] [(.ref o0)])) (fun _ ks_ => XS.aloadN X36.here hx rfl (hb hby d1_33) rfl rfl ks_) ?_
  refine go (u' := T36.setTop (mkF m 35 #[.val (.ref o0), .val (.int p1), .val (.int (1 : Int32)), .val (.long q3), .second] [(.int p1), (.ref o0)])) (fun _ ks_ => XS.iloadN X36.here hx rfl (hb hby d1_34) rfl  ks_) ?_
  refine go (u' := T36.setTop (mkF m 36 #[.val (.ref o0), .val (.int p1), .val (.int (1 : Int32)), .val (.long q3), .second] [(.int (0 : Int32)), (.int p1), (.ref o0)])) (fun _ ks_ => XS.iconst X36.here hx rfl (hb hby d1_35) ks_) ?_
  obtain ⟨T47, h47, X47, e47, E47, A47, Q47, st47⟩ := own_grid X36 hx hZ hown (ww hw 26 rfl) (ww hw 27 rfl) (ww hw 28 rfl) e36 (f := (mkF m 36 #[.val (.ref o0), .val (.int p1), .val (.int (1 : Int32)), .val (.long q3), .second] [(.int (0 : Int32)), (.int p1), (.ref o0)])) rfl (hb hby d1_36) rfl hfam.1 hfam.2.2 (by decide) (by decide)
  obtain ⟨b47, g47⟩ : ∃ z, z = h36.size := ⟨_, rfl⟩
  rw [← g47] at A47 Q47 st47
  have ne_o0_b47 : o0 ≠ b47 := Nat.ne_of_lt (Nat.lt_of_lt_of_le Fa37.lt (Nat.le_of_eq g47.symm))
  have ne_b2_b47 : b2 ≠ b47 := Nat.ne_of_lt (Nat.lt_of_lt_of_le Fa44.lt (Nat.le_of_eq g47.symm))
  have g_b47 : n0 ≤ b47 := Nat.le_trans Z36 (Nat.le_of_eq g47.symm)
  have sz_b47 : h0.size ≤ b47 := Nat.le_trans K36.1 (Nat.le_of_eq g47.symm)
  have K47 : Keep h0 h47 [o0] := K36.ext E47
  have Fa48 : Exa Z h47 o0 "com/example/emberlot/emberlot/Slots" := Fa37.ext E47
  have Fa49 : Fld Z h47 o0 "com/example/emberlot/emberlot/Slots" "expected" "I" (.int ((if (2147483639 : Int64) < (if q3 < (1 : Int64) then (1 : Int64) else q3) then (2147483639 : Int64) else (if q3 < (1 : Int64) then (1 : Int64) else q3)).toInt32)) := Fa46.ext E47
  have Fa50 : Fld Z h47 o0 "com/example/emberlot/emberlot/Slots" "nodes" "[Ljava/lang/Object;" (.ref b2) := Fa38.ext E47
  have Fa51 : Fld Z h47 o0 "com/example/emberlot/emberlot/Slots" "previous" "[[I" .null := Fa39.ext E47
  have Fa52 : Fld Z h47 o0 "com/example/emberlot/emberlot/Slots" "next" "[[I" .null := Fa40.ext E47
  have Fa53 : Fld Z h47 o0 "com/example/emberlot/emberlot/Slots" "columns" "[[I" .null := Fa41.ext E47
  have Fa54 : Fld Z h47 o0 "com/example/emberlot/emberlot/Slots" "free" "I" (.int (-1 : Int32)) := Fa42.ext E47
  have Fa55 : Fld Z h47 o0 "com/example/emberlot/emberlot/Slots" "taken" "I" (.int (0 : Int32)) := Fa43.ext E47
  have Fa56 : PR Z h47 b2 (.object "java/lang/Object") "java/lang/Object" 0 (fun _ => Value.null) := Fa44.ext E47
  have Fa57 : Exa Z h47 b2 "[Ljava/lang/Object;" := Fa45.ext E47
  have Z47 : n0 ≤ h47.size := Nat.le_trans Z36 E47.1
  have lt_o0_b47 : o0 < b47 := Nat.lt_of_lt_of_le Fa37.lt (Nat.le_of_eq g47.symm)
  have lt_b2_b47 : b2 < b47 := Nat.lt_of_lt_of_le Fa45.lt (Nat.le_of_eq g47.symm)
  have Fa58 : PR Z h47 b47 (.array .int) "[I" p1.toNatClampNeg (fun i => Value.ref (b47 + 1 + i)) := A47
  have Fa59 : Gr Z h47 b47 p1.toNatClampNeg := Q47
  refine go (u' := T47.setTop (mkF m 40 #[.val (.ref o0), .val (.int p1), .val (.int (1 : Int32)), .val (.long q3), .second] [(.ref b47), (.ref o0)])) st47 ?_
  obtain ⟨T60, h60, X60, e60, W60, st60⟩ := putF X47 hx hZ hown (host := "") (Or.inl (ww hw 29 rfl)) Via.refl e47 Fa51 Fa48 (Or.inr ⟨(ww hw 30 rfl), rfl, hnm⟩) (ww hw 1 rfl) (ty := (.array (.array .int))) (by decide) rfl rfl (g := (mkF m 40 #[.val (.ref o0), .val (.int p1), .val (.int (1 : Int32)), .val (.long q3), .second] [(.ref b47), (.ref o0)])) rfl rfl (hb hby d1_40)
  have N60 := Fr.snoc X60 N36 g_o0
  have K60 : Keep h0 h60 [o0] := K47.wr W60 (Or.inl (List.mem_of_getElem? (i := 0) rfl))
  have Z60 : n0 ≤ h60.size := Nat.le_trans Z47 (Keep.of_wr W60).1
  have Fa61 : Exa Z h60 o0 "com/example/emberlot/emberlot/Slots" := Fa48.wr W60
  have Fa62 : Fld Z h60 o0 "com/example/emberlot/emberlot/Slots" "expected" "I" (.int ((if (2147483639 : Int64) < (if q3 < (1 : Int64) then (1 : Int64) else q3) then (2147483639 : Int64) else (if q3 < (1 : Int64) then (1 : Int64) else q3)).toInt32)) := Fa49.other W60 (Or.inr (slot_ne (Or.inr (ww hw 25 rfl)) (Or.inr (ww hw 30 rfl)) (by decide) (t := .int) (t' := (.array (.array .int))) (by decide) (by decide)))
  have Fa63 : Fld Z h60 o0 "com/example/emberlot/emberlot/Slots" "nodes" "[Ljava/lang/Object;" (.ref b2) := Fa50.other W60 (Or.inr (slot_ne (Or.inl (ww hw 13 rfl)) (Or.inr (ww hw 30 rfl)) (by decide) (t := (.array (.object "java/lang/Object"))) (t' := (.array (.array .int))) (by decide) (by decide)))
  have Fa64 : Fld Z h60 o0 "com/example/emberlot/emberlot/Slots" "next" "[[I" .null := Fa52.other W60 (Or.inr (slot_ne (Or.inr (ww hw 32 rfl)) (Or.inr (ww hw 30 rfl)) (by decide) (t := (.array (.array .int))) (t' := (.array (.array .int))) (by decide) (by decide)))
  have Fa65 : Fld Z h60 o0 "com/example/emberlot/emberlot/Slots" "columns" "[[I" .null := Fa53.other W60 (Or.inr (slot_ne (Or.inr (ww hw 34 rfl)) (Or.inr (ww hw 30 rfl)) (by decide) (t := (.array (.array .int))) (t' := (.array (.array .int))) (by decide) (by decide)))
  have Fa66 : Fld Z h60 o0 "com/example/emberlot/emberlot/Slots" "free" "I" (.int (-1 : Int32)) := Fa54.other W60 (Or.inr (slot_ne (Or.inl (ww hw 15 rfl)) (Or.inr (ww hw 30 rfl)) (by decide) (t := .int) (t' := (.array (.array .int))) (by decide) (by decide)))
  have Fa67 : Fld Z h60 o0 "com/example/emberlot/emberlot/Slots" "taken" "I" (.int (0 : Int32)) := Fa55.other W60 (Or.inr (slot_ne (Or.inl (ww hw 64 rfl)) (Or.inr (ww hw 30 rfl)) (by decide) (t := .int) (t' := (.array (.array .int))) (by decide) (by decide)))
  have Fa68 : PR Z h60 b2 (.object "java/lang/Object") "java/lang/Object" 0 (fun _ => Value.null) := Fa56.other W60 (Ne.symm ne_o0_b2)
  have Fa69 : Exa Z h60 b2 "[Ljava/lang/Object;" := Fa57.wr W60
  have Fa70 : PR Z h60 b47 (.array .int) "[I" p1.toNatClampNeg (fun i => Value.ref (b47 + 1 + i)) := Fa58.other W60 (Ne.symm ne_o0_b47)
  have Fa71 : Gr Z h60 b47 p1.toNatClampNeg := Fa59.wr W60 lt_o0_b47
  have Fa72 : Fld Z h60 o0 "com/example/emberlot/emberlot/Slots" "previous" "[[I" (.ref b47) := Fa51.same W60
  refine go (u' := T60.setTop (mkF m 43 #[.val (.ref o0), .val (.int p1), .val (.int (1 : Int32)), .val (.long q3), .second] [])) st60 ?_
  refine go (u' := T60.setTop (mkF m 44 #[.val (.ref o0), .val (.int p1), .val (.int (1 : Int32)), .val (.long q3), .second] [(.ref o0)])) (fun _ ks_ => XS.aloadN X60.here hx rfl (hb hby d1_43) rfl rfl ks_) ?_
  refine go (u' := T60.setTop (mkF m 45 #[.val (.ref o0), .val (.int p1), .val (.int (1 : Int32)), .val (.long q3), .second] [(.int p1), (.ref o0)])) (fun _ ks_ => XS.iloadN X60.here hx rfl (hb hby d1_44) rfl  ks_) ?_
  refine go (u' := T60.setTop (mkF m 46 #[.val (.ref o0), .val (.int p1), .val (.int (1 : Int32)), .val (.long q3), .second] [(.int (0 : Int32)), (.int p1), (.ref o0)])) (fun _ ks_ => XS.iconst X60.here hx rfl (hb hby d1_45) ks_) ?_
  obtain ⟨T73, h73, X73, e73, E73, A73, Q73, st73⟩ := own_grid X60 hx hZ hown (ww hw 26 rfl) (ww hw 27 rfl) (ww hw 28 rfl) e60 (f := (mkF m 46 #[.val (.ref o0), .val (.int p1), .val (.int (1 : Int32)), .val (.long q3), .second] [(.int (0 : Int32)), (.int p1), (.ref o0)])) rfl (hb hby d1_46) rfl hfam.1 hfam.2.2 (by decide) (by decide)
  obtain ⟨b73, g73⟩ : ∃ z, z = h60.size := ⟨_, rfl⟩
  rw [← g73] at A73 Q73 st73
  have ne_o0_b73 : o0 ≠ b73 := Nat.ne_of_lt (Nat.lt_of_lt_of_le Fa61.lt (Nat.le_of_eq g73.symm))
  have ne_b2_b73 : b2 ≠ b73 := Nat.ne_of_lt (Nat.lt_of_lt_of_le Fa68.lt (Nat.le_of_eq g73.symm))
  have ne_b47_b73 : b47 ≠ b73 := Nat.ne_of_lt (Nat.lt_of_lt_of_le Fa70.lt (Nat.le_of_eq g73.symm))
  have g_b73 : n0 ≤ b73 := Nat.le_trans Z60 (Nat.le_of_eq g73.symm)
  have sz_b73 : h0.size ≤ b73 := Nat.le_trans K60.1 (Nat.le_of_eq g73.symm)
  have K73 : Keep h0 h73 [o0] := K60.ext E73
  have Fa74 : Exa Z h73 o0 "com/example/emberlot/emberlot/Slots" := Fa61.ext E73
  have Fa75 : Fld Z h73 o0 "com/example/emberlot/emberlot/Slots" "expected" "I" (.int ((if (2147483639 : Int64) < (if q3 < (1 : Int64) then (1 : Int64) else q3) then (2147483639 : Int64) else (if q3 < (1 : Int64) then (1 : Int64) else q3)).toInt32)) := Fa62.ext E73
  have Fa76 : Fld Z h73 o0 "com/example/emberlot/emberlot/Slots" "nodes" "[Ljava/lang/Object;" (.ref b2) := Fa63.ext E73
  have Fa77 : Fld Z h73 o0 "com/example/emberlot/emberlot/Slots" "previous" "[[I" (.ref b47) := Fa72.ext E73
  have Fa78 : Fld Z h73 o0 "com/example/emberlot/emberlot/Slots" "next" "[[I" .null := Fa64.ext E73
  have Fa79 : Fld Z h73 o0 "com/example/emberlot/emberlot/Slots" "columns" "[[I" .null := Fa65.ext E73
  have Fa80 : Fld Z h73 o0 "com/example/emberlot/emberlot/Slots" "free" "I" (.int (-1 : Int32)) := Fa66.ext E73
  have Fa81 : Fld Z h73 o0 "com/example/emberlot/emberlot/Slots" "taken" "I" (.int (0 : Int32)) := Fa67.ext E73
  have Fa82 : PR Z h73 b2 (.object "java/lang/Object") "java/lang/Object" 0 (fun _ => Value.null) := Fa68.ext E73
  have Fa83 : Exa Z h73 b2 "[Ljava/lang/Object;" := Fa69.ext E73
  have Fa84 : PR Z h73 b47 (.array .int) "[I" p1.toNatClampNeg (fun i => Value.ref (b47 + 1 + i)) := Fa70.ext E73
  have Fa85 : Gr Z h73 b47 p1.toNatClampNeg := Fa71.ext E73
  have Z73 : n0 ≤ h73.size := Nat.le_trans Z60 E73.1
  have lt_o0_b73 : o0 < b73 := Nat.lt_of_lt_of_le Fa61.lt (Nat.le_of_eq g73.symm)
  have lt_b2_b73 : b2 < b73 := Nat.lt_of_lt_of_le Fa69.lt (Nat.le_of_eq g73.symm)
  have lt_b47_b73 : b47 + p1.toNatClampNeg < b73 := Gr.after Fa71 hfam.2.1 g73
  have Fa86 : PR Z h73 b73 (.array .int) "[I" p1.toNatClampNeg (fun i => Value.ref (b73 + 1 + i)) := A73
  have Fa87 : Gr Z h73 b73 p1.toNatClampNeg := Q73
  refine go (u' := T73.setTop (mkF m 50 #[.val (.ref o0), .val (.int p1), .val (.int (1 : Int32)), .val (.long q3), .second] [(.ref b73), (.ref o0)])) st73 ?_
  obtain ⟨T88, h88, X88, e88, W88, st88⟩ := putF X73 hx hZ hown (host := "") (Or.inl (ww hw 31 rfl)) Via.refl e73 Fa78 Fa74 (Or.inr ⟨(ww hw 32 rfl), rfl, hnm⟩) (ww hw 1 rfl) (ty := (.array (.array .int))) (by decide) rfl rfl (g := (mkF m 50 #[.val (.ref o0), .val (.int p1), .val (.int (1 : Int32)), .val (.long q3), .second] [(.ref b73), (.ref o0)])) rfl rfl (hb hby d1_50)
  have N88 := Fr.snoc X88 N60 g_o0
  have K88 : Keep h0 h88 [o0] := K73.wr W88 (Or.inl (List.mem_of_getElem? (i := 0) rfl))
  have Z88 : n0 ≤ h88.size := Nat.le_trans Z73 (Keep.of_wr W88).1
  have Fa89 : Exa Z h88 o0 "com/example/emberlot/emberlot/Slots" := Fa74.wr W88
  have Fa90 : Fld Z h88 o0 "com/example/emberlot/emberlot/Slots" "expected" "I" (.int ((if (2147483639 : Int64) < (if q3 < (1 : Int64) then (1 : Int64) else q3) then (2147483639 : Int64) else (if q3 < (1 : Int64) then (1 : Int64) else q3)).toInt32)) := Fa75.other W88 (Or.inr (slot_ne (Or.inr (ww hw 25 rfl)) (Or.inr (ww hw 32 rfl)) (by decide) (t := .int) (t' := (.array (.array .int))) (by decide) (by decide)))
  have Fa91 : Fld Z h88 o0 "com/example/emberlot/emberlot/Slots" "nodes" "[Ljava/lang/Object;" (.ref b2) := Fa76.other W88 (Or.inr (slot_ne (Or.inl (ww hw 13 rfl)) (Or.inr (ww hw 32 rfl)) (by decide) (t := (.array (.object "java/lang/Object"))) (t' := (.array (.array .int))) (by decide) (by decide)))
  have Fa92 : Fld Z h88 o0 "com/example/emberlot/emberlot/Slots" "previous" "[[I" (.ref b47) := Fa77.other W88 (Or.inr (slot_ne (Or.inr (ww hw 30 rfl)) (Or.inr (ww hw 32 rfl)) (by decide) (t := (.array (.array .int))) (t' := (.array (.array .int))) (by decide) (by decide)))
  have Fa93 : Fld Z h88 o0 "com/example/emberlot/emberlot/Slots" "columns" "[[I" .null := Fa79.other W88 (Or.inr (slot_ne (Or.inr (ww hw 34 rfl)) (Or.inr (ww hw 32 rfl)) (by decide) (t := (.array (.array .int))) (t' := (.array (.array .int))) (by decide) (by decide)))
  have Fa94 : Fld Z h88 o0 "com/example/emberlot/emberlot/Slots" "free" "I" (.int (-1 : Int32)) := Fa80.other W88 (Or.inr (slot_ne (Or.inl (ww hw 15 rfl)) (Or.inr (ww hw 32 rfl)) (by decide) (t := .int) (t' := (.array (.array .int))) (by decide) (by decide)))
  have Fa95 : Fld Z h88 o0 "com/example/emberlot/emberlot/Slots" "taken" "I" (.int (0 : Int32)) := Fa81.other W88 (Or.inr (slot_ne (Or.inl (ww hw 64 rfl)) (Or.inr (ww hw 32 rfl)) (by decide) (t := .int) (t' := (.array (.array .int))) (by decide) (by decide)))
  have Fa96 : PR Z h88 b2 (.object "java/lang/Object") "java/lang/Object" 0 (fun _ => Value.null) := Fa82.other W88 (Ne.symm ne_o0_b2)
  have Fa97 : Exa Z h88 b2 "[Ljava/lang/Object;" := Fa83.wr W88
  have Fa98 : PR Z h88 b47 (.array .int) "[I" p1.toNatClampNeg (fun i => Value.ref (b47 + 1 + i)) := Fa84.other W88 (Ne.symm ne_o0_b47)
  have Fa99 : PR Z h88 b73 (.array .int) "[I" p1.toNatClampNeg (fun i => Value.ref (b73 + 1 + i)) := Fa86.other W88 (Ne.symm ne_o0_b73)
  have Fa100 : Gr Z h88 b47 p1.toNatClampNeg := Fa85.wr W88 lt_o0_b47
  have Fa101 : Gr Z h88 b73 p1.toNatClampNeg := Fa87.wr W88 lt_o0_b73
  have Fa102 : Fld Z h88 o0 "com/example/emberlot/emberlot/Slots" "next" "[[I" (.ref b73) := Fa78.same W88
  refine go (u' := T88.setTop (mkF m 53 #[.val (.ref o0), .val (.int p1), .val (.int (1 : Int32)), .val (.long q3), .second] [])) st88 ?_
  refine go (u' := T88.setTop (mkF m 54 #[.val (.ref o0), .val (.int p1), .val (.int (1 : Int32)), .val (.long q3), .second] [(.ref o0)])) (fun _ ks_ => XS.aloadN X88.here hx rfl (hb hby d1_53) rfl rfl ks_) ?_
  refine go (u' := T88.setTop (mkF m 55 #[.val (.ref o0), .val (.int p1), .val (.int (1 : Int32)), .val (.long q3), .second] [(.int (1 : Int32)), (.ref o0)])) (fun _ ks_ => XS.iloadN X88.here hx rfl (hb hby d1_54) rfl  ks_) ?_
  refine go (u' := T88.setTop (mkF m 56 #[.val (.ref o0), .val (.int p1), .val (.int (1 : Int32)), .val (.long q3), .second] [(.int (0 : Int32)), (.int (1 : Int32)), (.ref o0)])) (fun _ ks_ => XS.iconst X88.here hx rfl (hb hby d1_55) ks_) ?_
  obtain ⟨T103, h103, X103, e103, E103, A103, Q103, st103⟩ := own_grid X88 hx hZ hown (ww hw 26 rfl) (ww hw 27 rfl) (ww hw 28 rfl) e88 (f := (mkF m 56 #[.val (.ref o0), .val (.int p1), .val (.int (1 : Int32)), .val (.long q3), .second] [(.int (0 : Int32)), (.int (1 : Int32)), (.ref o0)])) rfl (hb hby d1_56) rfl (by decide) (by decide) (by decide) (by decide)
  obtain ⟨b103, g103⟩ : ∃ z, z = h88.size := ⟨_, rfl⟩
  rw [← g103] at A103 Q103 st103
  have ne_o0_b103 : o0 ≠ b103 := Nat.ne_of_lt (Nat.lt_of_lt_of_le Fa89.lt (Nat.le_of_eq g103.symm))
  have ne_b2_b103 : b2 ≠ b103 := Nat.ne_of_lt (Nat.lt_of_lt_of_le Fa96.lt (Nat.le_of_eq g103.symm))
  have ne_b47_b103 : b47 ≠ b103 := Nat.ne_of_lt (Nat.lt_of_lt_of_le Fa98.lt (Nat.le_of_eq g103.symm))
  have ne_b73_b103 : b73 ≠ b103 := Nat.ne_of_lt (Nat.lt_of_lt_of_le Fa99.lt (Nat.le_of_eq g103.symm))
  have g_b103 : n0 ≤ b103 := Nat.le_trans Z88 (Nat.le_of_eq g103.symm)
  have sz_b103 : h0.size ≤ b103 := Nat.le_trans K88.1 (Nat.le_of_eq g103.symm)
  have K103 : Keep h0 h103 [o0] := K88.ext E103
  have Fa104 : Exa Z h103 o0 "com/example/emberlot/emberlot/Slots" := Fa89.ext E103
  have Fa105 : Fld Z h103 o0 "com/example/emberlot/emberlot/Slots" "expected" "I" (.int ((if (2147483639 : Int64) < (if q3 < (1 : Int64) then (1 : Int64) else q3) then (2147483639 : Int64) else (if q3 < (1 : Int64) then (1 : Int64) else q3)).toInt32)) := Fa90.ext E103
  have Fa106 : Fld Z h103 o0 "com/example/emberlot/emberlot/Slots" "nodes" "[Ljava/lang/Object;" (.ref b2) := Fa91.ext E103
  have Fa107 : Fld Z h103 o0 "com/example/emberlot/emberlot/Slots" "previous" "[[I" (.ref b47) := Fa92.ext E103
  have Fa108 : Fld Z h103 o0 "com/example/emberlot/emberlot/Slots" "next" "[[I" (.ref b73) := Fa102.ext E103
  have Fa109 : Fld Z h103 o0 "com/example/emberlot/emberlot/Slots" "columns" "[[I" .null := Fa93.ext E103
  have Fa110 : Fld Z h103 o0 "com/example/emberlot/emberlot/Slots" "free" "I" (.int (-1 : Int32)) := Fa94.ext E103
  have Fa111 : Fld Z h103 o0 "com/example/emberlot/emberlot/Slots" "taken" "I" (.int (0 : Int32)) := Fa95.ext E103
  have Fa112 : PR Z h103 b2 (.object "java/lang/Object") "java/lang/Object" 0 (fun _ => Value.null) := Fa96.ext E103
  have Fa113 : Exa Z h103 b2 "[Ljava/lang/Object;" := Fa97.ext E103
  have Fa114 : PR Z h103 b47 (.array .int) "[I" p1.toNatClampNeg (fun i => Value.ref (b47 + 1 + i)) := Fa98.ext E103
  have Fa115 : PR Z h103 b73 (.array .int) "[I" p1.toNatClampNeg (fun i => Value.ref (b73 + 1 + i)) := Fa99.ext E103
  have Fa116 : Gr Z h103 b47 p1.toNatClampNeg := Fa100.ext E103
  have Fa117 : Gr Z h103 b73 p1.toNatClampNeg := Fa101.ext E103
  have Z103 : n0 ≤ h103.size := Nat.le_trans Z88 E103.1
  have lt_o0_b103 : o0 < b103 := Nat.lt_of_lt_of_le Fa89.lt (Nat.le_of_eq g103.symm)
  have lt_b2_b103 : b2 < b103 := Nat.lt_of_lt_of_le Fa97.lt (Nat.le_of_eq g103.symm)
  have lt_b47_b103 : b47 + p1.toNatClampNeg < b103 := Gr.after Fa100 hfam.2.1 g103
  have lt_b73_b103 : b73 + p1.toNatClampNeg < b103 := Gr.after Fa101 hfam.2.1 g103
  have Fa118 : PR Z h103 b103 (.array .int) "[I" 1 (fun i => Value.ref (b103 + 1 + i)) := A103
  have Fa119 : Gr Z h103 b103 1 := Q103
  refine go (u' := T103.setTop (mkF m 60 #[.val (.ref o0), .val (.int p1), .val (.int (1 : Int32)), .val (.long q3), .second] [(.ref b103), (.ref o0)])) st103 ?_
  obtain ⟨T120, h120, X120, e120, W120, st120⟩ := putF X103 hx hZ hown (host := "") (Or.inl (ww hw 33 rfl)) Via.refl e103 Fa109 Fa104 (Or.inr ⟨(ww hw 34 rfl), rfl, hnm⟩) (ww hw 1 rfl) (ty := (.array (.array .int))) (by decide) rfl rfl (g := (mkF m 60 #[.val (.ref o0), .val (.int p1), .val (.int (1 : Int32)), .val (.long q3), .second] [(.ref b103), (.ref o0)])) rfl rfl (hb hby d1_60)
  have N120 := Fr.snoc X120 N88 g_o0
  have K120 : Keep h0 h120 [o0] := K103.wr W120 (Or.inl (List.mem_of_getElem? (i := 0) rfl))
  have Z120 : n0 ≤ h120.size := Nat.le_trans Z103 (Keep.of_wr W120).1
  have Fa121 : Exa Z h120 o0 "com/example/emberlot/emberlot/Slots" := Fa104.wr W120
  have Fa122 : Fld Z h120 o0 "com/example/emberlot/emberlot/Slots" "expected" "I" (.int ((if (2147483639 : Int64) < (if q3 < (1 : Int64) then (1 : Int64) else q3) then (2147483639 : Int64) else (if q3 < (1 : Int64) then (1 : Int64) else q3)).toInt32)) := Fa105.other W120 (Or.inr (slot_ne (Or.inr (ww hw 25 rfl)) (Or.inr (ww hw 34 rfl)) (by decide) (t := .int) (t' := (.array (.array .int))) (by decide) (by decide)))
  have Fa123 : Fld Z h120 o0 "com/example/emberlot/emberlot/Slots" "nodes" "[Ljava/lang/Object;" (.ref b2) := Fa106.other W120 (Or.inr (slot_ne (Or.inl (ww hw 13 rfl)) (Or.inr (ww hw 34 rfl)) (by decide) (t := (.array (.object "java/lang/Object"))) (t' := (.array (.array .int))) (by decide) (by decide)))
  have Fa124 : Fld Z h120 o0 "com/example/emberlot/emberlot/Slots" "previous" "[[I" (.ref b47) := Fa107.other W120 (Or.inr (slot_ne (Or.inr (ww hw 30 rfl)) (Or.inr (ww hw 34 rfl)) (by decide) (t := (.array (.array .int))) (t' := (.array (.array .int))) (by decide) (by decide)))
  have Fa125 : Fld Z h120 o0 "com/example/emberlot/emberlot/Slots" "next" "[[I" (.ref b73) := Fa108.other W120 (Or.inr (slot_ne (Or.inr (ww hw 32 rfl)) (Or.inr (ww hw 34 rfl)) (by decide) (t := (.array (.array .int))) (t' := (.array (.array .int))) (by decide) (by decide)))
  have Fa126 : Fld Z h120 o0 "com/example/emberlot/emberlot/Slots" "free" "I" (.int (-1 : Int32)) := Fa110.other W120 (Or.inr (slot_ne (Or.inl (ww hw 15 rfl)) (Or.inr (ww hw 34 rfl)) (by decide) (t := .int) (t' := (.array (.array .int))) (by decide) (by decide)))
  have Fa127 : Fld Z h120 o0 "com/example/emberlot/emberlot/Slots" "taken" "I" (.int (0 : Int32)) := Fa111.other W120 (Or.inr (slot_ne (Or.inl (ww hw 64 rfl)) (Or.inr (ww hw 34 rfl)) (by decide) (t := .int) (t' := (.array (.array .int))) (by decide) (by decide)))
  have Fa128 : PR Z h120 b2 (.object "java/lang/Object") "java/lang/Object" 0 (fun _ => Value.null) := Fa112.other W120 (Ne.symm ne_o0_b2)
  have Fa129 : Exa Z h120 b2 "[Ljava/lang/Object;" := Fa113.wr W120
  have Fa130 : PR Z h120 b47 (.array .int) "[I" p1.toNatClampNeg (fun i => Value.ref (b47 + 1 + i)) := Fa114.other W120 (Ne.symm ne_o0_b47)
  have Fa131 : PR Z h120 b73 (.array .int) "[I" p1.toNatClampNeg (fun i => Value.ref (b73 + 1 + i)) := Fa115.other W120 (Ne.symm ne_o0_b73)
  have Fa132 : PR Z h120 b103 (.array .int) "[I" 1 (fun i => Value.ref (b103 + 1 + i)) := Fa118.other W120 (Ne.symm ne_o0_b103)
  have Fa133 : Gr Z h120 b47 p1.toNatClampNeg := Fa116.wr W120 lt_o0_b47
  have Fa134 : Gr Z h120 b73 p1.toNatClampNeg := Fa117.wr W120 lt_o0_b73
  have Fa135 : Gr Z h120 b103 1 := Fa119.wr W120 lt_o0_b103
  have Fa136 : Fld Z h120 o0 "com/example/emberlot/emberlot/Slots" "columns" "[[I" (.ref b103) := Fa109.same W120
  refine go (u' := T120.setTop (mkF m 63 #[.val (.ref o0), .val (.int p1), .val (.int (1 : Int32)), .val (.long q3), .second] [])) st120 ?_
  have S137 : SlA Z h120 n0 o0 b2 b47 b73 b103 (afc b47 b73 b103) p1.toNatClampNeg 0 (fun _ => 0) (fun _ => Value.null) (fun _ _ => (0 : Int32)) := own_mkSl hfam.2 Fa121.lt Fa128 Fa129 Fa130 Fa131 Fa132 Fa133 Fa134 Fa135 lt_o0_b2 lt_b2_b47 lt_b47_b73 lt_b73_b103 g_o0
  rw [hG]
  refine g0 X120 hx hlk hret (hb hby d1_63) ?_ (Nat.le_of_ble_eq_true rfl) (Nat.le_of_ble_eq_true rfl)
  show Q_rm1 Z o0 p1 q3 h0 n0 (none) T120.heap _
  rw [e120]
  exact ⟨b2, b47, b73, b103, ((if (2147483639 : Int64) < (if q3 < (1 : Int64) then (1 : Int64) else q3) then (2147483639 : Int64) else (if q3 < (1 : Int64) then (1 : Int64) else q3)).toInt32), rfl, N120, K120, Fa121, Fa122, Fa123, Fa124, Fa125, Fa136, Fa126, Fa127, S137, own_E⟩
def oad (r1 r2 r3 : Addr) : Nat → Addr
  | 0 => r1
  | 1 => r2
  | _ => r3
theorem own_oad {r1 r2 r3 : Addr} {g : Nat → Value} : ∀ i, i < 3 → upd (upd (upd g ((0 : Int32)).toNatClampNeg (.ref r1)) ((1 : Int32)).toNatClampNeg (.ref r2)) ((2 : Int32)).toNatClampNeg (.ref r3) i = .ref (oad r1 r2 r3 i) := by
  have e0 : (0 : Int32).toNatClampNeg = 0 := rfl
  have e1 : (1 : Int32).toNatClampNeg = 1 := rfl
  have e2 : (2 : Int32).toNatClampNeg = 2 := rfl
  rw [e0, e1, e2]
  intro i hi
  match i, hi with
  | 0, _ => rfl
  | 1, _ => rfl
  | 2, _ => rfl
theorem own_oad0 {r1 r2 r3 : Addr} : Value.ref (oad r1 r2 r3 (0 : Int32).toNatClampNeg) = .ref r1 := rfl
theorem own_oad1 {r1 r2 r3 : Addr} : Value.ref (oad r1 r2 r3 (1 : Int32).toNatClampNeg) = .ref r2 := rfl
theorem own_oad2 {r1 r2 r3 : Addr} : Value.ref (oad r1 r2 r3 (2 : Int32).toNatClampNeg) = .ref r3 := rfl
theorem own_fam {p0 fa : Int32} (h : fa = ((1 : Int32) + (p0 &&& (3 : Int32)))) : ¬ fa < 0 ∧ 0 < fa.toNatClampNeg ∧ fa.toNatClampNeg ≤ 4 := by
  have b := c_mask p0 3 2 (by decide) (by decide)
  have e1 : (1 : Int32).toInt = 1 := rfl
  have e0 : (0 : Int32).toInt = 0 := rfl
  have q : fa.toInt = 1 + (p0 &&& (3 : Int32)).toInt := by
    rw [h, Int32.toInt_add, e1]; exact Int.bmod_eq_of_le (by omega) (by omega)
  have c := own_cl (j := fa) (by omega)
  exact ⟨by rw [Int32.lt_iff_toInt_lt]; omega, by omega, by omega⟩
def Ijk (i j k : Int32) : Prop := (¬ i < 0 ∧ i.toNatClampNeg < 3) ∧ (¬ j < 0 ∧ j.toNatClampNeg < 3) ∧ (¬ k < 0 ∧ k.toNatClampNeg < 3) ∧ i.toNatClampNeg ≠ j.toNatClampNeg ∧ k.toNatClampNeg ≠ i.toNatClampNeg ∧ k.toNatClampNeg ≠ j.toNatClampNeg ∧ ¬ i = (-1 : Int32) ∧ ¬ j = (-1 : Int32) ∧ ¬ k = (-1 : Int32)
theorem own_3 {a : Int32} (h : 0 ≤ a.toInt ∧ a.toInt < 3) : a = 0 ∨ a = 1 ∨ a = 2 := by
  have e0 : (0 : Int32).toInt = 0 := rfl
  have e1 : (1 : Int32).toInt = 1 := rfl
  have e2 : (2 : Int32).toInt = 2 := rfl
  rcases (by omega : a.toInt = 0 ∨ a.toInt = 1 ∨ a.toInt = 2) with q | q | q
  · exact Or.inl (Int32.toInt_inj.mp (by omega))
  · exact Or.inr (Or.inl (Int32.toInt_inj.mp (by omega)))
  · exact Or.inr (Or.inr (Int32.toInt_inj.mp (by omega)))
theorem own_ijk {p1 p2 i j k : Int32} (hi : i = ((p1 &&& (2147483647 : Int32)) % (3 : Int32))) (hj : j = (((i + (1 : Int32)) + (p2 &&& (1 : Int32))) % (3 : Int32))) (hk : k = (((3 : Int32) - i) - j)) : Ijk i j k := by
  have b1 := c_mask p1 2147483647 31 (by decide) (by decide)
  have b2 := c_mask p2 1 1 (by decide) (by decide)
  have r := (c_irem (p1 &&& (2147483647 : Int32)) 3 3 rfl).1 (by omega)
  have h3 := own_3 (a := i) (by rw [hi]; omega)
  have h2 := own_3 (a := p2 &&& (1 : Int32)) (by omega)
  have h2' : (p2 &&& (1 : Int32)) ≠ 2 := fun e => by rw [e] at b2; have : (2 : Int32).toInt = 2 := rfl; omega
  generalize p2 &&& (1 : Int32) = u at *
  subst hk hj
  clear hi b1 b2 r
  rcases h3 with rfl | rfl | rfl <;> rcases h2 with rfl | rfl | rfl <;> first | exact absurd rfl h2' | (unfold Ijk; decide)
theorem own_j3 {n : Nat} {i : Int32} (h : ¬ i < 0 ∧ i.toNatClampNeg < 3) (hn : 3 ≤ n) : ¬ i < 0 ∧ i.toNatClampNeg < n := ⟨h.1, Nat.lt_of_lt_of_le h.2 hn⟩
theorem own_u1 {α : Type} {f : Nat → α} {a : Nat} {v : α} : upd f a v a = v := if_pos rfl
theorem own_u2 {α : Type} {f : Nat → α} {a b : Nat} {v : α} (h : b ≠ a) : upd f a v b = f b := if_neg h
theorem own_u3 {G : Nat → Nat → Int32} {a : Nat} {v : Int32} : upd G 2 (upd (G 2) a v) 2 a = v := by simp [upd]
theorem own_u4 {G g1 : Nat → Nat → Int32} {i j : Nat} {v : Int32} (a2 : g1 2 = upd (upd (upd G 2 (upd (G 2) i (-1))) 2 (upd (upd G 2 (upd (G 2) i (-1)) 2) j v) 2) j (-1)) (h : i ≠ j) : g1 2 i = (-1 : Int32) := by rw [a2]; simp [upd, h]
theorem own_g1 {gs g1 g2 : Nat → Nat → Int32} {a : Nat} {v : Int32} {w : Nat → Int32} (A : g2 0 a = g1 0 a) (B : g1 0 = upd (upd gs 0 (upd (gs 0) a v)) 2 w 0) : g2 0 a = v := by rw [A, B]; simp [upd]
theorem own_g2 {gs g1 g2 g3 : Nat → Nat → Int32} {a : Nat} {v : Int32} {w w' : Nat → Int32} (A : g3 0 a = g2 0 a) (C : g2 0 = g1 0) (B : g1 0 = upd (upd (upd gs 0 (upd (gs 0) a v)) 2 w) 2 w' 0) : g3 0 a = v := by rw [A, C, B]; simp [upd]
theorem own_aj {f n1 : Nat} {nd nd1 : Nat → Value} {gs gs1 : Nat → Nat → Int32} {b : Addr} {ln1 : Nat → Nat} (A : Added f (3 : Int32).toNatClampNeg nd gs b n1 ln1 nd1 gs1) : 3 ≤ n1 := Nat.le_of_lt A.1.1
/-- three nodes stand in the slots 0, 1, 2 -/
def Law3 (r1 r2 r3 : Addr) (f n : Nat) (ln : Nat → Nat) (nd : Nat → Value) : Prop := (3 ≤ n ∧ n ≤ 16) ∧ (∀ q, q < 1 + 2 * f → ln q = n) ∧ ∀ i, i < 3 → nd i = .ref (oad r1 r2 r3 i)
theorem own_law3 {f n1 n2 n3 : Nat} {nd nd1 nd2 nd3 : Nat → Value} {gs gs1 gs2 gs3 : Nat → Nat → Int32} {r1 r2 r3 : Addr} {ln1 ln2 ln3 : Nat → Nat} (A : Added f (0 : Int32).toNatClampNeg nd gs r1 n1 ln1 nd1 gs1) (B : Added f (1 : Int32).toNatClampNeg nd1 gs1 r2 n2 ln2 nd2 gs2) (C : Added f (2 : Int32).toNatClampNeg nd2 gs2 r3 n3 ln3 nd3 gs3) : Law3 r1 r2 r3 f n3 ln3 nd3 := by
  have e0 : (0 : Int32).toNatClampNeg = 0 := rfl
  have e1 : (1 : Int32).toNatClampNeg = 1 := rfl
  have e2 : (2 : Int32).toNatClampNeg = 2 := rfl
  rw [e0] at A; rw [e1] at B; rw [e2] at C
  refine ⟨⟨C.1.1, C.1.2⟩, C.2.1, fun i hi => ?_⟩
  match i, hi with
  | 0, _ => exact (C.2.2.2.1 0 (by decide)).trans ((B.2.2.2.1 0 (by decide)).trans A.2.2.1)
  | 1, _ => exact (C.2.2.2.1 1 (by decide)).trans B.2.2.1
  | 2, _ => exact C.2.2.1
theorem own_l1 {f n1 : Nat} {nd nd1 : Nat → Value} {gs gs1 : Nat → Nat → Int32} {b : Addr} {ln1 : Nat → Nat} {k : Int32} (A : Added f k.toNatClampNeg nd gs b n1 ln1 nd1 gs1) : (k.toNatClampNeg < n1 ∧ n1 ≤ 16) := A.1
theorem own_b16 {n1 n2 : Nat} {E : Int32} (hc : n1 = 1) (g1 : n1 = 16 ∨ ((n1 : Int) = E.toInt ∧ ((0 : Nat) : Int) < E.toInt)) (g2 : n2 = 16 ∨ ((n2 : Int) = E.toInt ∧ (n1 : Int) < E.toInt)) : n2 = 16 := by omega
theorem own_WlLo {Z : State} {h : Heap} {n0 : Nat} {o na pa xa ca : Addr} {af : Nat → Addr} {f nn : Nat} {ln : Nat → Nat} {nd : Nat → Value} {gs : Nat → Nat → Int32} {k : Nat} (S : SlA Z h n0 o na pa xa ca af f nn ln nd gs) (e : k = n0) : ∀ x ∈ Wl o na pa xa ca af f, x ∈ ([] : List Addr) ∨ k ≤ x := fun x hx => by
  obtain ⟨i, hi, rfl⟩ := List.mem_map.mp hx
  exact Or.inr (e ▸ S.lo i (List.mem_range.mp hi))
theorem own_freshS {Z : State} {h : Heap} {n0 : Nat} {o na pa xa ca : Addr} {af : Nat → Addr} {f nn : Nat} {ln : Nat → Nat} {nd : Nat → Value} {gs : Nat → Nat → Int32} (S : SlA Z h n0 o na pa xa ca af f nn ln nd gs) {r : Addr} (hr : h.size ≤ r) : ∀ i, i < 6 + 2 * f → adr o na pa xa ca af i ≠ r := fun i hi => (own_fresh S hr i hi).symm
theorem own_no1 {o na pa xa ca : Addr} {af : Nat → Addr} {f : Nat} {b : Addr} (d : ∀ i, i < 6 + 2 * f → adr o na pa xa ca af i ≠ b) : ∀ i, i < 6 + 2 * f → adr o na pa xa ca af i ∉ [b] := fun i hi q => d i hi (List.mem_singleton.mp q)
theorem own_mir {s : State} {C : String} (h : MirrorMade s C) : ∃ m, Mr s C m := by
  obtain ⟨c, k, m, h1, h2, h3, -⟩ := h
  exact ⟨m, c, k, h1, h2, h3⟩
theorem own_tk1 {n : Nat} (h : n = 1) : (1 : Int32) = n.toInt32 ∧ n ≤ 4 := by subst h; exact ⟨rfl, by decide⟩
theorem own_nt1 {n : Nat} (h : 1 < n ∧ n ≤ 16) : (¬ (1 : Int32) = n.toInt32) ∧ (¬ (1 : Int32) < 0 ∧ (1 : Int32).toNatClampNeg < n) := by
  have h2 := own_t32 (N := n) (by omega)
  have e1 : (1 : Int32).toInt = 1 := rfl
  exact ⟨fun e => by rw [← e] at h2; omega, by decide, h.1⟩
theorem own_ln1 {n : Nat} (h : 0 < n ∧ n ≤ 16) (hc : ¬ n = 1) : 1 < n ∧ n ≤ 16 := by omega
theorem own_tk2 {n : Nat} (h : n = 2) : (2 : Int32) = n.toInt32 ∧ n ≤ 4 := by subst h; exact ⟨rfl, by decide⟩
theorem own_nt2 {n : Nat} (h : 2 < n ∧ n ≤ 16) : (¬ (2 : Int32) = n.toInt32) ∧ (¬ (2 : Int32) < 0 ∧ (2 : Int32).toNatClampNeg < n) := by
  have h2 := own_t32 (N := n) (by omega)
  have e1 : (2 : Int32).toInt = 2 := rfl
  exact ⟨fun e => by rw [← e] at h2; omega, by decide, h.1⟩
theorem own_ln2 {n : Nat} (h : 1 < n ∧ n ≤ 16) (hc : ¬ n = 2) : 2 < n ∧ n ≤ 16 := by omega
theorem own_tk3 {n : Nat} (h : n = 3) : (3 : Int32) = n.toInt32 ∧ n ≤ 4 := by subst h; exact ⟨rfl, by decide⟩
theorem own_nt3 {n : Nat} (h : 3 < n ∧ n ≤ 16) : (¬ (3 : Int32) = n.toInt32) ∧ (¬ (3 : Int32) < 0 ∧ (3 : Int32).toNatClampNeg < n) := by
  have h2 := own_t32 (N := n) (by omega)
  have e1 : (3 : Int32).toInt = 3 := rfl
  exact ⟨fun e => by rw [← e] at h2; omega, by decide, h.1⟩
theorem own_ln3 {n : Nat} (h : 2 < n ∧ n ≤ 16) (hc : ¬ n = 3) : 3 < n ∧ n ≤ 16 := by omega
theorem pd__40_IIJ_41_V : parseMethodDescriptor "(IIJ)V" = some ⟨[.int, .int, .long], none⟩ := by decide +kernel
theorem pd__40_I_41_Ljava_47_lang_47_Integer_59_ : parseMethodDescriptor "(I)Ljava/lang/Integer;" = some ⟨[.int], some (.object "java/lang/Integer")⟩ := by decide +kernel
theorem pd__40_Ljava_47_lang_47_Object_59__41_I : parseMethodDescriptor "(Ljava/lang/Object;)I" = some ⟨[(.object "java/lang/Object")], some .int⟩ := by decide +kernel
theorem pd__40_III_41_V : parseMethodDescriptor "(III)V" = some ⟨[.int, .int, .int], none⟩ := by decide +kernel
theorem pd__40_I_41_Ljava_47_lang_47_Object_59_ : parseMethodDescriptor "(I)Ljava/lang/Object;" = some ⟨[.int], some (.object "java/lang/Object")⟩ := by decide +kernel
theorem pn_com_example_emberlot_emberlot_SlotsRemovePinLaw_law_0 : plainFor x = true := by first | exact plainFor_of_name (by first | (simp [plainName, overriddenIn]; done) | decide +kernel) | decide +kernel
def Q_rm0 (Z : State) (p0 : Int32) (p1 : Int32) (p2 : Int32) (p3 : Int32) (p4 : Int32) (q5 : Int64) (h0 : Heap) (n0 : Nat) (v : Option Value) (h : Heap) (L : List Loc) : Prop := v = some (.int (1 : Int32)) ∧ Fr n0 L
set_option maxRecDepth 65536 in
set_option maxHeartbeats 4000000 in
theorem ef_rm0 (m : MethodId) (p0 : Int32) (p1 : Int32) (p2 : Int32) (p3 : Int32) (p4 : Int32) (q5 : Int64) : entryFrame m #[(.int p0), (.int p1), (.int p2), (.int p3), (.int p4), (.long q5)] maxLocals = mkF m 0 #[.val (.int p0), .val (.int p1), .val (.int p2), .val (.int p3), .val (.int p4), .val (.long q5), .second, .unset, .unset, .unset, .unset, .unset, .unset, .unset, .unset, .unset, .unset, .unset, .unset, .unset, .unset, .unset, .unset, .unset, .unset] [] := by first | (simp [entryFrame, mkF, argsToLocals, Value.category, maxLocals]; done) | rfl
set_option maxRecDepth 65536 in
set_option maxHeartbeats 40000000 in
theorem rm0 (l : Launch) (Z : State) (a0 : Array Value) (hw : ∀ d ∈ tables_1, d.before a0 Z = true) (ws : List Jvm.Cond) (p0 : Int32) (p1 : Int32) (p2 : Int32) (p3 : Int32) (p4 : Int32) (q5 : Int64) (h0 : Heap) (n0 : Nat) (Z0 : n0 ≤ h0.size) (F0 : Sta Z h0 "java/lang/Integer$IntegerCache" "high" "I" (.int (127 : Int32))) (hn0 : h0.size = n0) (hM : ∃ mr, Mr Z "[Ljava/lang/Object;" mr) :
    MetFree l x (head1 (Jvm.Cond.code x code maxLocals ret :: ws) room_1) (fun a U => a = #[(.int p0), (.int p1), (.int p2), (.int p3), (.int p4), (.long q5)] ∧ Z.Warmed39 U.vm ∧ U.heap = h0) (fun _ _ _ _ _ => True) (fun _ U o U' => ∃ v L, o = .returned v ∧ Q_rm0 Z p0 p1 p2 p3 p4 q5 h0 n0 v U'.heap L ∧ FrameEnd U o U' L room_1.cells room_1.slots) := by
  refine body pn_com_example_emberlot_emberlot_SlotsRemovePinLaw_law_0 ?_
  intro p e s m below meth c s₁ hx hby hml hown hnm hret hlk hZ e0 X0
  replace hml : c.maxLocals = 25 := hml
  replace hown : s.vm.findClass "com/example/emberlot/emberlot/SlotsRemovePinLaw" = some m.cls := hown
  replace hnm : meth.name = "law" := hnm
  replace hret : meth.sig.returnType = (some .boolean) := hret
  have N0 := Fr.nil n0
  rw [ef_rm0]
  obtain ⟨G, hG⟩ : ∃ G, G = End (Q_rm0 Z p0 p1 p2 p3 p4 q5 h0 n0) s room_1.cells room_1.slots := ⟨_, rfl⟩
  rw [← hG]
  obtain ⟨mr, hM⟩ := hM
  obtain ⟨T1, h1, X1, e1, E1, A1, D1, -, st1⟩ := newO X0 hx hZ hown (ww hw 0 rfl) (ww hw 1 rfl) (ww hw 2 rfl) e0 (g := (mkF m 0 #[.val (.int p0), .val (.int p1), .val (.int p2), .val (.int p3), .val (.int p4), .val (.long q5), .second, .unset, .unset, .unset, .unset, .unset, .unset, .unset, .unset, .unset, .unset, .unset, .unset, .unset, .unset, .unset, .unset, .unset, .unset] [])) rfl (hb hby at_0) (by decide) (by decide)
  obtain ⟨b1, g1⟩ : ∃ z, z = h0.size := ⟨_, rfl⟩
  rw [← g1] at A1 D1 st1
  have g_b1 : n0 ≤ b1 := Nat.le_trans Z0 (Nat.le_of_eq g1.symm)
  have sz_b1 : h0.size ≤ b1 := Nat.le_trans (Keep.refl h0 []).1 (Nat.le_of_eq g1.symm)
  have K1 : Keep h0 h1 [] := (Keep.refl h0 []).ext E1
  have Fa2 : Sta Z h1 "java/lang/Integer$IntegerCache" "high" "I" (.int (127 : Int32)) := F0.ext E1
  have Z1 : n0 ≤ h1.size := Nat.le_trans Z0 E1.1
  have Fa3 : Fld Z h1 b1 "com/example/emberlot/emberlot/Slots" "nodes" "[Ljava/lang/Object;" .null := D1 (Or.inl (ww hw 13 rfl)) (ty := (.array (.object "java/lang/Object"))) (by decide)
  have Fa4 : Fld Z h1 b1 "com/example/emberlot/emberlot/Slots" "free" "I" (.int (0 : Int32)) := D1 (Or.inl (ww hw 15 rfl)) (ty := .int) (by decide)
  have Fa5 : Fld Z h1 b1 "com/example/emberlot/emberlot/Slots" "expected" "I" (.int (0 : Int32)) := D1 (Or.inr (ww hw 25 rfl)) (ty := .int) (by decide)
  have Fa6 : Fld Z h1 b1 "com/example/emberlot/emberlot/Slots" "previous" "[[I" .null := D1 (Or.inr (ww hw 30 rfl)) (ty := (.array (.array .int))) (by decide)
  have Fa7 : Fld Z h1 b1 "com/example/emberlot/emberlot/Slots" "next" "[[I" .null := D1 (Or.inr (ww hw 32 rfl)) (ty := (.array (.array .int))) (by decide)
  have Fa8 : Fld Z h1 b1 "com/example/emberlot/emberlot/Slots" "columns" "[[I" .null := D1 (Or.inr (ww hw 34 rfl)) (ty := (.array (.array .int))) (by decide)
  have Fa9 : Fld Z h1 b1 "com/example/emberlot/emberlot/Slots" "taken" "I" (.int (0 : Int32)) := D1 (Or.inl (ww hw 64 rfl)) (ty := .int) (by decide)
  refine go (u' := T1.setTop (mkF m 3 #[.val (.int p0), .val (.int p1), .val (.int p2), .val (.int p3), .val (.int p4), .val (.long q5), .second, .unset, .unset, .unset, .unset, .unset, .unset, .unset, .unset, .unset, .unset, .unset, .unset, .unset, .unset, .unset, .unset, .unset, .unset] [(.ref b1)])) st1 ?_
  refine go (u' := T1.setTop (mkF m 4 #[.val (.int p0), .val (.int p1), .val (.int p2), .val (.int p3), .val (.int p4), .val (.long q5), .second, .unset, .unset, .unset, .unset, .unset, .unset, .unset, .unset, .unset, .unset, .unset, .unset, .unset, .unset, .unset, .unset, .unset, .unset] [(.ref b1), (.ref b1)])) (fun _ ks_ => XS.dup X1.here hx rfl (hb hby at_3) rfl rfl ks_) ?_
  refine go (u' := T1.setTop (mkF m 5 #[.val (.int p0), .val (.int p1), .val (.int p2), .val (.int p3), .val (.int p4), .val (.long q5), .second, .unset, .unset, .unset, .unset, .unset, .unset, .unset, .unset, .unset, .unset, .unset, .unset, .unset, .unset, .unset, .unset, .unset, .unset] [(.int (1 : Int32)), (.ref b1), (.ref b1)])) (fun _ ks_ => XS.iconst X1.here hx rfl (hb hby at_4) ks_) ?_
  refine go (u' := T1.setTop (mkF m 6 #[.val (.int p0), .val (.int p1), .val (.int p2), .val (.int p3), .val (.int p4), .val (.long q5), .second, .unset, .unset, .unset, .unset, .unset, .unset, .unset, .unset, .unset, .unset, .unset, .unset, .unset, .unset, .unset, .unset, .unset, .unset] [(.int p0), (.int (1 : Int32)), (.ref b1), (.ref b1)])) (fun _ ks_ => XS.iloadN X1.here hx rfl (hb hby at_5) rfl  ks_) ?_
  refine go (u' := T1.setTop (mkF m 7 #[.val (.int p0), .val (.int p1), .val (.int p2), .val (.int p3), .val (.int p4), .val (.long q5), .second, .unset, .unset, .unset, .unset, .unset, .unset, .unset, .unset, .unset, .unset, .unset, .unset, .unset, .unset, .unset, .unset, .unset, .unset] [(.int (3 : Int32)), (.int p0), (.int (1 : Int32)), (.ref b1), (.ref b1)])) (fun _ ks_ => XS.iconst X1.here hx rfl (hb hby at_6) ks_) ?_
  refine go (u' := T1.setTop (mkF m 8 #[.val (.int p0), .val (.int p1), .val (.int p2), .val (.int p3), .val (.int p4), .val (.long q5), .second, .unset, .unset, .unset, .unset, .unset, .unset, .unset, .unset, .unset, .unset, .unset, .unset, .unset, .unset, .unset, .unset, .unset, .unset] [(.int (p0 &&& (3 : Int32))), (.int (1 : Int32)), (.ref b1), (.ref b1)])) (fun _ ks_ => XS.iand X1.here hx rfl (hb hby at_7) rfl ks_) ?_
  refine go (u' := T1.setTop (mkF m 9 #[.val (.int p0), .val (.int p1), .val (.int p2), .val (.int p3), .val (.int p4), .val (.long q5), .second, .unset, .unset, .unset, .unset, .unset, .unset, .unset, .unset, .unset, .unset, .unset, .unset, .unset, .unset, .unset, .unset, .unset, .unset] [(.int ((1 : Int32) + (p0 &&& (3 : Int32)))), (.ref b1), (.ref b1)])) (fun _ ks_ => XS.iadd X1.here hx rfl (hb hby at_8) rfl ks_) ?_
  obtain ⟨fa, hfa⟩ : ∃ z, z = ((1 : Int32) + (p0 &&& (3 : Int32))) := ⟨_, rfl⟩
  rw [← hfa]
  refine go (u' := T1.setTop (mkF m 10 #[.val (.int p0), .val (.int p1), .val (.int p2), .val (.int p3), .val (.int p4), .val (.long q5), .second, .unset, .unset, .unset, .unset, .unset, .unset, .unset, .unset, .unset, .unset, .unset, .unset, .unset, .unset, .unset, .unset, .unset, .unset] [(.int (1 : Int32)), (.int fa), (.ref b1), (.ref b1)])) (fun _ ks_ => XS.iconst X1.here hx rfl (hb hby at_9) ks_) ?_
  refine go (u' := T1.setTop (mkF m 12 #[.val (.int p0), .val (.int p1), .val (.int p2), .val (.int p3), .val (.int p4), .val (.long q5), .second, .unset, .unset, .unset, .unset, .unset, .unset, .unset, .unset, .unset, .unset, .unset, .unset, .unset, .unset, .unset, .unset, .unset, .unset] [(.long q5), (.int (1 : Int32)), (.int fa), (.ref b1), (.ref b1)])) (fun _ ks_ => XS.lload X1.here hx rfl (hb hby at_10) rfl  ks_) ?_
  refine go (u' := T1.setTop (mkF m 15 #[.val (.int p0), .val (.int p1), .val (.int p2), .val (.int p3), .val (.int p4), .val (.long q5), .second, .unset, .unset, .unset, .unset, .unset, .unset, .unset, .unset, .unset, .unset, .unset, .unset, .unset, .unset, .unset, .unset, .unset, .unset] [(.long (9223372036854775807 : Int64)), (.long q5), (.int (1 : Int32)), (.int fa), (.ref b1), (.ref b1)])) (X1.ldc2Long hx hown (mvT hZ (ww hw 3 rfl)) (g := (mkF m 12 #[.val (.int p0), .val (.int p1), .val (.int p2), .val (.int p3), .val (.int p4), .val (.long q5), .second, .unset, .unset, .unset, .unset, .unset, .unset, .unset, .unset, .unset, .unset, .unset, .unset, .unset, .unset, .unset, .unset, .unset, .unset] [(.long q5), (.int (1 : Int32)), (.int fa), (.ref b1), (.ref b1)])) rfl (hb hby at_12)) ?_
  refine go (u' := T1.setTop (mkF m 16 #[.val (.int p0), .val (.int p1), .val (.int p2), .val (.int p3), .val (.int p4), .val (.long q5), .second, .unset, .unset, .unset, .unset, .unset, .unset, .unset, .unset, .unset, .unset, .unset, .unset, .unset, .unset, .unset, .unset, .unset, .unset] [(.long (q5 &&& (9223372036854775807 : Int64))), (.int (1 : Int32)), (.int fa), (.ref b1), (.ref b1)])) (fun _ ks_ => XS.land X1.here hx rfl (hb hby at_15) rfl ks_) ?_
  obtain ⟨_, _, ⟨T10, L10, k10, n10⟩, -, X10, ⟨Lc10, hQ10, l10, y10, z10⟩, st10⟩ := X1.specialBack hx (y := (⟨"com/example/emberlot/emberlot/Slots", "<init>", "(IIJ)V"⟩ : MethodName)) rfl hown (mvT hZ (ww hw 4 rfl)) (mvT hZ (ww hw 5 rfl)) (mvT hZ (ww hw 6 rfl)) (by decide) (backOf (W := 1) (rm1 l Z a0 hw [] b1 fa (q5 &&& (9223372036854775807 : Int64)) h1 n0 Z1 g_b1 A1 Fa5 Fa3 Fa6 Fa7 Fa8 Fa4 Fa9 (own_fam hfa)) hZ (ww hw 6 rfl) (ww hw 2 rfl) (by decide) (by decide)) (g := (mkF m 16 #[.val (.int p0), .val (.int p1), .val (.int p2), .val (.int p3), .val (.int p4), .val (.long q5), .second, .unset, .unset, .unset, .unset, .unset, .unset, .unset, .unset, .unset, .unset, .unset, .unset, .unset, .unset, .unset, .unset, .unset, .unset] [(.long (q5 &&& (9223372036854775807 : Int64))), (.int (1 : Int32)), (.int fa), (.ref b1), (.ref b1)])) rfl (by rw [hml]; rfl) (Steps.refl _) (a := b1) (argsL := [(.int fa), (.int (1 : Int32)), (.long (q5 &&& (9223372036854775807 : Int64)))]) (rest := [(.ref b1)]) (lenOf pd__40_IIJ_41_V rfl) rfl (by show 2 * 0 + _ ≤ _; exact Nat.le_of_eq rfl) (hb hby at_16) (fun _ _ => ⟨rfl, e1, (by decide : 1 + 16 ≤ _), (by decide : 7 + 12 ≤ _)⟩)
  dsimp only [Pt.U, Pt.locs, Pt.cells, Pt.slots] at X10 l10 y10 z10 st10 hQ10
  subst l10 y10 z10
  obtain ⟨na10, pa10, xa10, ca10, E10, rfl, N10q, Kq10, Fa11, Fa12, Fa13, Fa14, Fa15, Fa16, Fa17, Fa18, Fa19, hE_10⟩ := hQ10
  have N10 := Fr.app N0 N10q
  have K10 : Keep h0 T10.heap [] := K1.trans Kq10 (allS (P := fun x => x ∈ [] ∨ h0.size ≤ x) (Or.inr sz_b1) all0)
  have Z10 : n0 ≤ T10.heap.size := Nat.le_trans Z1 Kq10.1
  have Fa20 : Sta Z T10.heap "java/lang/Integer$IntegerCache" "high" "I" (.int (127 : Int32)) := own_StaK Fa2 Kq10 (nsS (Exa.nostat A1) ns0)
  have Fa21 : Exa Z T10.heap b1 "com/example/emberlot/emberlot/Slots" := A1.keep Kq10
  refine goT (u' := T10.setTop (mkF m 19 #[.val (.int p0), .val (.int p1), .val (.int p2), .val (.int p3), .val (.int p4), .val (.long q5), .second, .unset, .unset, .unset, .unset, .unset, .unset, .unset, .unset, .unset, .unset, .unset, .unset, .unset, .unset, .unset, .unset, .unset, .unset] [(.ref b1)])) st10 ?_
  refine go (u' := T10.setTop (mkF m 21 #[.val (.int p0), .val (.int p1), .val (.int p2), .val (.int p3), .val (.int p4), .val (.long q5), .second, .val (.ref b1), .unset, .unset, .unset, .unset, .unset, .unset, .unset, .unset, .unset, .unset, .unset, .unset, .unset, .unset, .unset, .unset, .unset] [])) (fun _ ks_ => XS.astore X10.here hx rfl (hb hby at_19) rfl rfl (l' := #[.val (.int p0), .val (.int p1), .val (.int p2), .val (.int p3), .val (.int p4), .val (.long q5), .second, .val (.ref b1), .unset, .unset, .unset, .unset, .unset, .unset, .unset, .unset, .unset, .unset, .unset, .unset, .unset, .unset, .unset, .unset, .unset]) rfl ks_) ?_
  refine go (u' := T10.setTop (mkF m 22 #[.val (.int p0), .val (.int p1), .val (.int p2), .val (.int p3), .val (.int p4), .val (.long q5), .second, .val (.ref b1), .unset, .unset, .unset, .unset, .unset, .unset, .unset, .unset, .unset, .unset, .unset, .unset, .unset, .unset, .unset, .unset, .unset] [(.int (3 : Int32))])) (fun _ ks_ => XS.iconst X10.here hx rfl (hb hby at_21) ks_) ?_
  obtain ⟨T22, h22, k22, X22, e22, E22, A22, Q22, O22, st22⟩ := newRE X10 hx hZ hown (ww hw 35 rfl) (ww hw 11 rfl) (rfl : T10.heap = _) (g := (mkF m 22 #[.val (.int p0), .val (.int p1), .val (.int p2), .val (.int p3), .val (.int p4), .val (.long q5), .second, .val (.ref b1), .unset, .unset, .unset, .unset, .unset, .unset, .unset, .unset, .unset, .unset, .unset, .unset, .unset, .unset, .unset, .unset, .unset] [(.int (3 : Int32))])) rfl (hb hby at_22) rfl (by decide) (cap := 3) (by decide) (by decide) (by decide) (by decide) (ad := "[Ljava/lang/Object;") rfl
  obtain ⟨b22, g22⟩ : ∃ z, z = T10.heap.size := ⟨_, rfl⟩
  rw [← g22] at A22 Q22 st22
  have ne_b1_b22 : b1 ≠ b22 := Nat.ne_of_lt (Nat.lt_of_lt_of_le Fa11.lt (Nat.le_of_eq g22.symm))
  have g_b22 : n0 ≤ b22 := Nat.le_trans Z10 (Nat.le_of_eq g22.symm)
  have sz_b22 : h0.size ≤ b22 := Nat.le_trans K10.1 (Nat.le_of_eq g22.symm)
  have K22 : Keep h0 h22 [] := K10.ext E22
  have Fa23 : Sta Z h22 "java/lang/Integer$IntegerCache" "high" "I" (.int (127 : Int32)) := Fa20.ext E22
  have Fa24 : Exa Z h22 b1 "com/example/emberlot/emberlot/Slots" := Fa11.ext E22
  have Fa25 : Fld Z h22 b1 "com/example/emberlot/emberlot/Slots" "expected" "I" (.int E10) := Fa12.ext E22
  have Fa26 : Fld Z h22 b1 "com/example/emberlot/emberlot/Slots" "nodes" "[Ljava/lang/Object;" (.ref na10) := Fa13.ext E22
  have Fa27 : Fld Z h22 b1 "com/example/emberlot/emberlot/Slots" "previous" "[[I" (.ref pa10) := Fa14.ext E22
  have Fa28 : Fld Z h22 b1 "com/example/emberlot/emberlot/Slots" "next" "[[I" (.ref xa10) := Fa15.ext E22
  have Fa29 : Fld Z h22 b1 "com/example/emberlot/emberlot/Slots" "columns" "[[I" (.ref ca10) := Fa16.ext E22
  have Fa30 : Fld Z h22 b1 "com/example/emberlot/emberlot/Slots" "free" "I" (.int (-1 : Int32)) := Fa17.ext E22
  have Fa31 : Fld Z h22 b1 "com/example/emberlot/emberlot/Slots" "taken" "I" (.int (0 : Int32)) := Fa18.ext E22
  have S32 : SlA Z h22 n0 b1 na10 pa10 xa10 ca10 (afc pa10 xa10 ca10) fa.toNatClampNeg 0 (fun _ => 0) (fun _ => Value.null) (fun _ _ => (0 : Int32)) := Fa19.ext E22
  have Z22 : n0 ≤ h22.size := Nat.le_trans Z10 E22.1
  have hno_b22 : ∀ i, i < 6 + 2 * fa.toNatClampNeg → adr b1 na10 pa10 xa10 ca10 (afc pa10 xa10 ca10) i ≠ b22 := own_freshS Fa19 (Nat.le_of_eq g22.symm)
  have Fa33 : PR Z h22 b22 (.object "java/lang/Object") "java/lang/Object" 3 (fun _ => Value.null) := PR.new A22 O22 (by decide)
  refine go (u' := T22.setTop (mkF m 25 #[.val (.int p0), .val (.int p1), .val (.int p2), .val (.int p3), .val (.int p4), .val (.long q5), .second, .val (.ref b1), .unset, .unset, .unset, .unset, .unset, .unset, .unset, .unset, .unset, .unset, .unset, .unset, .unset, .unset, .unset, .unset, .unset] [(.ref b22)])) st22 ?_
  refine go (u' := T22.setTop (mkF m 27 #[.val (.int p0), .val (.int p1), .val (.int p2), .val (.int p3), .val (.int p4), .val (.long q5), .second, .val (.ref b1), .val (.ref b22), .unset, .unset, .unset, .unset, .unset, .unset, .unset, .unset, .unset, .unset, .unset, .unset, .unset, .unset, .unset, .unset] [])) (fun _ ks_ => XS.astore X22.here hx rfl (hb hby at_25) rfl rfl (l' := #[.val (.int p0), .val (.int p1), .val (.int p2), .val (.int p3), .val (.int p4), .val (.long q5), .second, .val (.ref b1), .val (.ref b22), .unset, .unset, .unset, .unset, .unset, .unset, .unset, .unset, .unset, .unset, .unset, .unset, .unset, .unset, .unset, .unset]) rfl ks_) ?_
  refine go (u' := T22.setTop (mkF m 29 #[.val (.int p0), .val (.int p1), .val (.int p2), .val (.int p3), .val (.int p4), .val (.long q5), .second, .val (.ref b1), .val (.ref b22), .unset, .unset, .unset, .unset, .unset, .unset, .unset, .unset, .unset, .unset, .unset, .unset, .unset, .unset, .unset, .unset] [(.ref b22)])) (fun _ ks_ => XS.aload X22.here hx rfl (hb hby at_27) rfl rfl ks_) ?_
  refine go (u' := T22.setTop (mkF m 30 #[.val (.int p0), .val (.int p1), .val (.int p2), .val (.int p3), .val (.int p4), .val (.long q5), .second, .val (.ref b1), .val (.ref b22), .unset, .unset, .unset, .unset, .unset, .unset, .unset, .unset, .unset, .unset, .unset, .unset, .unset, .unset, .unset, .unset] [(.int (0 : Int32)), (.ref b22)])) (fun _ ks_ => XS.iconst X22.here hx rfl (hb hby at_29) ks_) ?_
  refine go (u' := T22.setTop (mkF m 33 #[.val (.int p0), .val (.int p1), .val (.int p2), .val (.int p3), .val (.int p4), .val (.long q5), .second, .val (.ref b1), .val (.ref b22), .unset, .unset, .unset, .unset, .unset, .unset, .unset, .unset, .unset, .unset, .unset, .unset, .unset, .unset, .unset, .unset] [(.int (1000 : Int32)), (.int (0 : Int32)), (.ref b22)])) (fun _ ks_ => XS.sipush X22.here hx rfl (hb hby at_30) ks_) ?_
  obtain ⟨_, _, ⟨T34, L34, k34, n34⟩, -, X34, ⟨Lc34, hQ34, l34, y34, z34⟩, st34⟩ := Jvm.LawKit.callS X22 hx (y := (⟨"java/lang/Integer", "valueOf", "(I)Ljava/lang/Integer;"⟩ : MethodName)) hown (mvT hZ (ww hw 36 rfl)) (mvT hZ (ww hw 37 rfl)) (mvT hZ (ww hw 38 rfl)) (mvT hZ (ww hw 39 rfl)) (by decide) (backOf (W := 2) (rm5 l Z a0 hw [] (1000 : Int32) h22 n0 Z22 Fa23 (by decide) (by decide)) hZ (ww hw 39 rfl) (ww hw 38 rfl) (by decide) (by decide)) (g := (mkF m 33 #[.val (.int p0), .val (.int p1), .val (.int p2), .val (.int p3), .val (.int p4), .val (.long q5), .second, .val (.ref b1), .val (.ref b22), .unset, .unset, .unset, .unset, .unset, .unset, .unset, .unset, .unset, .unset, .unset, .unset, .unset, .unset, .unset, .unset] [(.int (1000 : Int32)), (.int (0 : Int32)), (.ref b22)])) rfl (by rw [hml]; rfl) (argsL := [(.int (1000 : Int32))]) (rest := [(.int (0 : Int32)), (.ref b22)]) (lenOf pd__40_I_41_Ljava_47_lang_47_Integer_59_ rfl) rfl (by show 2 * 0 + _ ≤ _; exact Nat.le_of_eq rfl) (hb hby at_33) (fun _ _ => ⟨rfl, e22, (by decide : 18 + 1 ≤ _), (by decide : 22 + 1 ≤ _)⟩)
  dsimp only [Pt.U, Pt.locs, Pt.cells, Pt.slots] at X34 l34 y34 z34 st34 hQ34
  subst l34 y34 z34
  obtain ⟨r34, rfl, N34q, Kq34, Fa35, gr_34⟩ := hQ34
  have N34 := Fr.app N10 N34q
  have K34 : Keep h0 T34.heap [] := K22.trans Kq34 all0
  have Z34 : n0 ≤ T34.heap.size := Nat.le_trans Z22 Kq34.1
  have Fa36 : Sta Z T34.heap "java/lang/Integer$IntegerCache" "high" "I" (.int (127 : Int32)) := own_StaK Fa23 Kq34 ns0
  have Fa37 : Exa Z T34.heap b1 "com/example/emberlot/emberlot/Slots" := Fa24.keep Kq34
  have Fa38 : Fld Z T34.heap b1 "com/example/emberlot/emberlot/Slots" "expected" "I" (.int E10) := Fa25.keep Kq34 nin0
  have Fa39 : Fld Z T34.heap b1 "com/example/emberlot/emberlot/Slots" "nodes" "[Ljava/lang/Object;" (.ref na10) := Fa26.keep Kq34 nin0
  have Fa40 : Fld Z T34.heap b1 "com/example/emberlot/emberlot/Slots" "previous" "[[I" (.ref pa10) := Fa27.keep Kq34 nin0
  have Fa41 : Fld Z T34.heap b1 "com/example/emberlot/emberlot/Slots" "next" "[[I" (.ref xa10) := Fa28.keep Kq34 nin0
  have Fa42 : Fld Z T34.heap b1 "com/example/emberlot/emberlot/Slots" "columns" "[[I" (.ref ca10) := Fa29.keep Kq34 nin0
  have Fa43 : Fld Z T34.heap b1 "com/example/emberlot/emberlot/Slots" "free" "I" (.int (-1 : Int32)) := Fa30.keep Kq34 nin0
  have Fa44 : Fld Z T34.heap b1 "com/example/emberlot/emberlot/Slots" "taken" "I" (.int (0 : Int32)) := Fa31.keep Kq34 nin0
  have Fa45 : PR Z T34.heap b22 (.object "java/lang/Object") "java/lang/Object" 3 (fun _ => Value.null) := Fa33.keep Kq34 nin0
  have Fa46 : Exa Z T34.heap b22 "[Ljava/lang/Object;" := Q22.keep Kq34
  have S47 : SlA Z T34.heap n0 b1 na10 pa10 xa10 ca10 (afc pa10 xa10 ca10) fa.toNatClampNeg 0 (fun _ => 0) (fun _ => Value.null) (fun _ _ => (0 : Int32)) := S32.keep0 Kq34
  have ne_b1_r34 : b1 ≠ r34 := Nat.ne_of_lt (Nat.lt_of_lt_of_le Fa24.lt gr_34)
  have ne_b22_r34 : b22 ≠ r34 := Nat.ne_of_lt (Nat.lt_of_lt_of_le Fa33.lt gr_34)
  have g_r34 : n0 ≤ r34 := Nat.le_trans Z22 gr_34
  have sz_r34 : h0.size ≤ r34 := Nat.le_trans K22.1 gr_34
  refine go (u' := T34.setTop (mkF m 36 #[.val (.int p0), .val (.int p1), .val (.int p2), .val (.int p3), .val (.int p4), .val (.long q5), .second, .val (.ref b1), .val (.ref b22), .unset, .unset, .unset, .unset, .unset, .unset, .unset, .unset, .unset, .unset, .unset, .unset, .unset, .unset, .unset, .unset] [(.ref r34), (.int (0 : Int32)), (.ref b22)])) st34 ?_
  obtain ⟨T48, h48, X48, e48, W48, st48⟩ := own_aastore X34 hx hZ (rfl : T34.heap = _) Fa45 rfl (j := (0 : Int32)) (v := (.ref r34)) (by decide) (by decide) (Or.inr ⟨_, rfl, Ins.of_exa Fa35 (ww hw 57 rfl)⟩) (f := (mkF m 36 #[.val (.int p0), .val (.int p1), .val (.int p2), .val (.int p3), .val (.int p4), .val (.long q5), .second, .val (.ref b1), .val (.ref b22), .unset, .unset, .unset, .unset, .unset, .unset, .unset, .unset, .unset, .unset, .unset, .unset, .unset, .unset, .unset, .unset] [(.ref r34), (.int (0 : Int32)), (.ref b22)])) rfl rfl (hb hby at_36)
  have N48 := Fr.snoc X48 N34 g_b22
  have K48 : Keep h0 h48 [] := K34.wr W48 (Or.inr sz_b22)
  have Z48 : n0 ≤ h48.size := Nat.le_trans Z34 (Keep.of_wr W48).1
  have Fa49 : Sta Z h48 "java/lang/Integer$IntegerCache" "high" "I" (.int (127 : Int32)) := Fa36.wr W48
  have Fa50 : Exa Z h48 b1 "com/example/emberlot/emberlot/Slots" := Fa37.wr W48
  have Fa51 : Fld Z h48 b1 "com/example/emberlot/emberlot/Slots" "expected" "I" (.int E10) := Fa38.other W48 (Or.inl ne_b1_b22)
  have Fa52 : Fld Z h48 b1 "com/example/emberlot/emberlot/Slots" "nodes" "[Ljava/lang/Object;" (.ref na10) := Fa39.other W48 (Or.inl ne_b1_b22)
  have Fa53 : Fld Z h48 b1 "com/example/emberlot/emberlot/Slots" "previous" "[[I" (.ref pa10) := Fa40.other W48 (Or.inl ne_b1_b22)
  have Fa54 : Fld Z h48 b1 "com/example/emberlot/emberlot/Slots" "next" "[[I" (.ref xa10) := Fa41.other W48 (Or.inl ne_b1_b22)
  have Fa55 : Fld Z h48 b1 "com/example/emberlot/emberlot/Slots" "columns" "[[I" (.ref ca10) := Fa42.other W48 (Or.inl ne_b1_b22)
  have Fa56 : Fld Z h48 b1 "com/example/emberlot/emberlot/Slots" "free" "I" (.int (-1 : Int32)) := Fa43.other W48 (Or.inl ne_b1_b22)
  have Fa57 : Fld Z h48 b1 "com/example/emberlot/emberlot/Slots" "taken" "I" (.int (0 : Int32)) := Fa44.other W48 (Or.inl ne_b1_b22)
  have Fa58 : Exa Z h48 b22 "[Ljava/lang/Object;" := Fa46.wr W48
  have Fa59 : Exa Z h48 r34 "java/lang/Integer" := Fa35.wr W48
  have S60 : SlA Z h48 n0 b1 na10 pa10 xa10 ca10 (afc pa10 xa10 ca10) fa.toNatClampNeg 0 (fun _ => 0) (fun _ => Value.null) (fun _ _ => (0 : Int32)) := S47.keepW (Keep.of_wr W48) (own_no1 hno_b22)
  have Fa61 : PR Z h48 b22 (.object "java/lang/Object") "java/lang/Object" 3 (upd (fun _ => Value.null) ((0 : Int32)).toNatClampNeg (.ref r34)) := Fa45.set (by decide) W48
  refine go (u' := T48.setTop (mkF m 37 #[.val (.int p0), .val (.int p1), .val (.int p2), .val (.int p3), .val (.int p4), .val (.long q5), .second, .val (.ref b1), .val (.ref b22), .unset, .unset, .unset, .unset, .unset, .unset, .unset, .unset, .unset, .unset, .unset, .unset, .unset, .unset, .unset, .unset] [])) st48 ?_
  refine go (u' := T48.setTop (mkF m 39 #[.val (.int p0), .val (.int p1), .val (.int p2), .val (.int p3), .val (.int p4), .val (.long q5), .second, .val (.ref b1), .val (.ref b22), .unset, .unset, .unset, .unset, .unset, .unset, .unset, .unset, .unset, .unset, .unset, .unset, .unset, .unset, .unset, .unset] [(.ref b22)])) (fun _ ks_ => XS.aload X48.here hx rfl (hb hby at_37) rfl rfl ks_) ?_
  refine go (u' := T48.setTop (mkF m 40 #[.val (.int p0), .val (.int p1), .val (.int p2), .val (.int p3), .val (.int p4), .val (.long q5), .second, .val (.ref b1), .val (.ref b22), .unset, .unset, .unset, .unset, .unset, .unset, .unset, .unset, .unset, .unset, .unset, .unset, .unset, .unset, .unset, .unset] [(.int (1 : Int32)), (.ref b22)])) (fun _ ks_ => XS.iconst X48.here hx rfl (hb hby at_39) ks_) ?_
  refine go (u' := T48.setTop (mkF m 43 #[.val (.int p0), .val (.int p1), .val (.int p2), .val (.int p3), .val (.int p4), .val (.long q5), .second, .val (.ref b1), .val (.ref b22), .unset, .unset, .unset, .unset, .unset, .unset, .unset, .unset, .unset, .unset, .unset, .unset, .unset, .unset, .unset, .unset] [(.int (2000 : Int32)), (.int (1 : Int32)), (.ref b22)])) (fun _ ks_ => XS.sipush X48.here hx rfl (hb hby at_40) ks_) ?_
  obtain ⟨_, _, ⟨T62, L62, k62, n62⟩, -, X62, ⟨Lc62, hQ62, l62, y62, z62⟩, st62⟩ := Jvm.LawKit.callS X48 hx (y := (⟨"java/lang/Integer", "valueOf", "(I)Ljava/lang/Integer;"⟩ : MethodName)) hown (mvT hZ (ww hw 36 rfl)) (mvT hZ (ww hw 37 rfl)) (mvT hZ (ww hw 38 rfl)) (mvT hZ (ww hw 39 rfl)) (by decide) (backOf (W := 2) (rm5 l Z a0 hw [] (2000 : Int32) h48 n0 Z48 Fa49 (by decide) (by decide)) hZ (ww hw 39 rfl) (ww hw 38 rfl) (by decide) (by decide)) (g := (mkF m 43 #[.val (.int p0), .val (.int p1), .val (.int p2), .val (.int p3), .val (.int p4), .val (.long q5), .second, .val (.ref b1), .val (.ref b22), .unset, .unset, .unset, .unset, .unset, .unset, .unset, .unset, .unset, .unset, .unset, .unset, .unset, .unset, .unset, .unset] [(.int (2000 : Int32)), (.int (1 : Int32)), (.ref b22)])) rfl (by rw [hml]; rfl) (argsL := [(.int (2000 : Int32))]) (rest := [(.int (1 : Int32)), (.ref b22)]) (lenOf pd__40_I_41_Ljava_47_lang_47_Integer_59_ rfl) rfl (by show 2 * 0 + _ ≤ _; exact Nat.le_of_eq rfl) (hb hby at_43) (fun _ _ => ⟨rfl, e48, (by decide : 19 + 1 ≤ _), (by decide : 23 + 1 ≤ _)⟩)
  dsimp only [Pt.U, Pt.locs, Pt.cells, Pt.slots] at X62 l62 y62 z62 st62 hQ62
  subst l62 y62 z62
  obtain ⟨r62, rfl, N62q, Kq62, Fa63, gr_62⟩ := hQ62
  have N62 := Fr.app N48 N62q
  have K62 : Keep h0 T62.heap [] := K48.trans Kq62 all0
  have Z62 : n0 ≤ T62.heap.size := Nat.le_trans Z48 Kq62.1
  have Fa64 : Sta Z T62.heap "java/lang/Integer$IntegerCache" "high" "I" (.int (127 : Int32)) := own_StaK Fa49 Kq62 ns0
  have Fa65 : Exa Z T62.heap b1 "com/example/emberlot/emberlot/Slots" := Fa50.keep Kq62
  have Fa66 : Fld Z T62.heap b1 "com/example/emberlot/emberlot/Slots" "expected" "I" (.int E10) := Fa51.keep Kq62 nin0
  have Fa67 : Fld Z T62.heap b1 "com/example/emberlot/emberlot/Slots" "nodes" "[Ljava/lang/Object;" (.ref na10) := Fa52.keep Kq62 nin0
  have Fa68 : Fld Z T62.heap b1 "com/example/emberlot/emberlot/Slots" "previous" "[[I" (.ref pa10) := Fa53.keep Kq62 nin0
  have Fa69 : Fld Z T62.heap b1 "com/example/emberlot/emberlot/Slots" "next" "[[I" (.ref xa10) := Fa54.keep Kq62 nin0
  have Fa70 : Fld Z T62.heap b1 "com/example/emberlot/emberlot/Slots" "columns" "[[I" (.ref ca10) := Fa55.keep Kq62 nin0
  have Fa71 : Fld Z T62.heap b1 "com/example/emberlot/emberlot/Slots" "free" "I" (.int (-1 : Int32)) := Fa56.keep Kq62 nin0
  have Fa72 : Fld Z T62.heap b1 "com/example/emberlot/emberlot/Slots" "taken" "I" (.int (0 : Int32)) := Fa57.keep Kq62 nin0
  have Fa73 : PR Z T62.heap b22 (.object "java/lang/Object") "java/lang/Object" 3 (upd (fun _ => Value.null) ((0 : Int32)).toNatClampNeg (.ref r34)) := Fa61.keep Kq62 nin0
  have Fa74 : Exa Z T62.heap b22 "[Ljava/lang/Object;" := Fa58.keep Kq62
  have Fa75 : Exa Z T62.heap r34 "java/lang/Integer" := Fa59.keep Kq62
  have S76 : SlA Z T62.heap n0 b1 na10 pa10 xa10 ca10 (afc pa10 xa10 ca10) fa.toNatClampNeg 0 (fun _ => 0) (fun _ => Value.null) (fun _ _ => (0 : Int32)) := S60.keep0 Kq62
  have ne_b1_r62 : b1 ≠ r62 := Nat.ne_of_lt (Nat.lt_of_lt_of_le Fa50.lt gr_62)
  have ne_b22_r62 : b22 ≠ r62 := Nat.ne_of_lt (Nat.lt_of_lt_of_le Fa61.lt gr_62)
  have ne_r34_r62 : r34 ≠ r62 := Nat.ne_of_lt (Nat.lt_of_lt_of_le Fa59.lt gr_62)
  have g_r62 : n0 ≤ r62 := Nat.le_trans Z48 gr_62
  have sz_r62 : h0.size ≤ r62 := Nat.le_trans K48.1 gr_62
  refine go (u' := T62.setTop (mkF m 46 #[.val (.int p0), .val (.int p1), .val (.int p2), .val (.int p3), .val (.int p4), .val (.long q5), .second, .val (.ref b1), .val (.ref b22), .unset, .unset, .unset, .unset, .unset, .unset, .unset, .unset, .unset, .unset, .unset, .unset, .unset, .unset, .unset, .unset] [(.ref r62), (.int (1 : Int32)), (.ref b22)])) st62 ?_
  obtain ⟨T77, h77, X77, e77, W77, st77⟩ := own_aastore X62 hx hZ (rfl : T62.heap = _) Fa73 rfl (j := (1 : Int32)) (v := (.ref r62)) (by decide) (by decide) (Or.inr ⟨_, rfl, Ins.of_exa Fa63 (ww hw 57 rfl)⟩) (f := (mkF m 46 #[.val (.int p0), .val (.int p1), .val (.int p2), .val (.int p3), .val (.int p4), .val (.long q5), .second, .val (.ref b1), .val (.ref b22), .unset, .unset, .unset, .unset, .unset, .unset, .unset, .unset, .unset, .unset, .unset, .unset, .unset, .unset, .unset, .unset] [(.ref r62), (.int (1 : Int32)), (.ref b22)])) rfl rfl (hb hby at_46)
  have N77 := Fr.snoc X77 N62 g_b22
  have K77 : Keep h0 h77 [] := K62.wr W77 (Or.inr sz_b22)
  have Z77 : n0 ≤ h77.size := Nat.le_trans Z62 (Keep.of_wr W77).1
  have Fa78 : Sta Z h77 "java/lang/Integer$IntegerCache" "high" "I" (.int (127 : Int32)) := Fa64.wr W77
  have Fa79 : Exa Z h77 b1 "com/example/emberlot/emberlot/Slots" := Fa65.wr W77
  have Fa80 : Fld Z h77 b1 "com/example/emberlot/emberlot/Slots" "expected" "I" (.int E10) := Fa66.other W77 (Or.inl ne_b1_b22)
  have Fa81 : Fld Z h77 b1 "com/example/emberlot/emberlot/Slots" "nodes" "[Ljava/lang/Object;" (.ref na10) := Fa67.other W77 (Or.inl ne_b1_b22)
  have Fa82 : Fld Z h77 b1 "com/example/emberlot/emberlot/Slots" "previous" "[[I" (.ref pa10) := Fa68.other W77 (Or.inl ne_b1_b22)
  have Fa83 : Fld Z h77 b1 "com/example/emberlot/emberlot/Slots" "next" "[[I" (.ref xa10) := Fa69.other W77 (Or.inl ne_b1_b22)
  have Fa84 : Fld Z h77 b1 "com/example/emberlot/emberlot/Slots" "columns" "[[I" (.ref ca10) := Fa70.other W77 (Or.inl ne_b1_b22)
  have Fa85 : Fld Z h77 b1 "com/example/emberlot/emberlot/Slots" "free" "I" (.int (-1 : Int32)) := Fa71.other W77 (Or.inl ne_b1_b22)
  have Fa86 : Fld Z h77 b1 "com/example/emberlot/emberlot/Slots" "taken" "I" (.int (0 : Int32)) := Fa72.other W77 (Or.inl ne_b1_b22)
  have Fa87 : Exa Z h77 b22 "[Ljava/lang/Object;" := Fa74.wr W77
  have Fa88 : Exa Z h77 r34 "java/lang/Integer" := Fa75.wr W77
  have Fa89 : Exa Z h77 r62 "java/lang/Integer" := Fa63.wr W77
  have S90 : SlA Z h77 n0 b1 na10 pa10 xa10 ca10 (afc pa10 xa10 ca10) fa.toNatClampNeg 0 (fun _ => 0) (fun _ => Value.null) (fun _ _ => (0 : Int32)) := S76.keepW (Keep.of_wr W77) (own_no1 hno_b22)
  have Fa91 : PR Z h77 b22 (.object "java/lang/Object") "java/lang/Object" 3 (upd (upd (fun _ => Value.null) ((0 : Int32)).toNatClampNeg (.ref r34)) ((1 : Int32)).toNatClampNeg (.ref r62)) := Fa73.set (by decide) W77
  refine go (u' := T77.setTop (mkF m 47 #[.val (.int p0), .val (.int p1), .val (.int p2), .val (.int p3), .val (.int p4), .val (.long q5), .second, .val (.ref b1), .val (.ref b22), .unset, .unset, .unset, .unset, .unset, .unset, .unset, .unset, .unset, .unset, .unset, .unset, .unset, .unset, .unset, .unset] [])) st77 ?_
  refine go (u' := T77.setTop (mkF m 49 #[.val (.int p0), .val (.int p1), .val (.int p2), .val (.int p3), .val (.int p4), .val (.long q5), .second, .val (.ref b1), .val (.ref b22), .unset, .unset, .unset, .unset, .unset, .unset, .unset, .unset, .unset, .unset, .unset, .unset, .unset, .unset, .unset, .unset] [(.ref b22)])) (fun _ ks_ => XS.aload X77.here hx rfl (hb hby at_47) rfl rfl ks_) ?_
  refine go (u' := T77.setTop (mkF m 50 #[.val (.int p0), .val (.int p1), .val (.int p2), .val (.int p3), .val (.int p4), .val (.long q5), .second, .val (.ref b1), .val (.ref b22), .unset, .unset, .unset, .unset, .unset, .unset, .unset, .unset, .unset, .unset, .unset, .unset, .unset, .unset, .unset, .unset] [(.int (2 : Int32)), (.ref b22)])) (fun _ ks_ => XS.iconst X77.here hx rfl (hb hby at_49) ks_) ?_
  refine go (u' := T77.setTop (mkF m 53 #[.val (.int p0), .val (.int p1), .val (.int p2), .val (.int p3), .val (.int p4), .val (.long q5), .second, .val (.ref b1), .val (.ref b22), .unset, .unset, .unset, .unset, .unset, .unset, .unset, .unset, .unset, .unset, .unset, .unset, .unset, .unset, .unset, .unset] [(.int (3000 : Int32)), (.int (2 : Int32)), (.ref b22)])) (fun _ ks_ => XS.sipush X77.here hx rfl (hb hby at_50) ks_) ?_
  obtain ⟨_, _, ⟨T92, L92, k92, n92⟩, -, X92, ⟨Lc92, hQ92, l92, y92, z92⟩, st92⟩ := Jvm.LawKit.callS X77 hx (y := (⟨"java/lang/Integer", "valueOf", "(I)Ljava/lang/Integer;"⟩ : MethodName)) hown (mvT hZ (ww hw 36 rfl)) (mvT hZ (ww hw 37 rfl)) (mvT hZ (ww hw 38 rfl)) (mvT hZ (ww hw 39 rfl)) (by decide) (backOf (W := 2) (rm5 l Z a0 hw [] (3000 : Int32) h77 n0 Z77 Fa78 (by decide) (by decide)) hZ (ww hw 39 rfl) (ww hw 38 rfl) (by decide) (by decide)) (g := (mkF m 53 #[.val (.int p0), .val (.int p1), .val (.int p2), .val (.int p3), .val (.int p4), .val (.long q5), .second, .val (.ref b1), .val (.ref b22), .unset, .unset, .unset, .unset, .unset, .unset, .unset, .unset, .unset, .unset, .unset, .unset, .unset, .unset, .unset, .unset] [(.int (3000 : Int32)), (.int (2 : Int32)), (.ref b22)])) rfl (by rw [hml]; rfl) (argsL := [(.int (3000 : Int32))]) (rest := [(.int (2 : Int32)), (.ref b22)]) (lenOf pd__40_I_41_Ljava_47_lang_47_Integer_59_ rfl) rfl (by show 2 * 0 + _ ≤ _; exact Nat.le_of_eq rfl) (hb hby at_53) (fun _ _ => ⟨rfl, e77, (by decide : 20 + 1 ≤ _), (by decide : 24 + 1 ≤ _)⟩)
  dsimp only [Pt.U, Pt.locs, Pt.cells, Pt.slots] at X92 l92 y92 z92 st92 hQ92
  subst l92 y92 z92
  obtain ⟨r92, rfl, N92q, Kq92, Fa93, gr_92⟩ := hQ92
  have N92 := Fr.app N77 N92q
  have K92 : Keep h0 T92.heap [] := K77.trans Kq92 all0
  have Z92 : n0 ≤ T92.heap.size := Nat.le_trans Z77 Kq92.1
  have Fa94 : Sta Z T92.heap "java/lang/Integer$IntegerCache" "high" "I" (.int (127 : Int32)) := own_StaK Fa78 Kq92 ns0
  have Fa95 : Exa Z T92.heap b1 "com/example/emberlot/emberlot/Slots" := Fa79.keep Kq92
  have Fa96 : Fld Z T92.heap b1 "com/example/emberlot/emberlot/Slots" "expected" "I" (.int E10) := Fa80.keep Kq92 nin0
  have Fa97 : Fld Z T92.heap b1 "com/example/emberlot/emberlot/Slots" "nodes" "[Ljava/lang/Object;" (.ref na10) := Fa81.keep Kq92 nin0
  have Fa98 : Fld Z T92.heap b1 "com/example/emberlot/emberlot/Slots" "previous" "[[I" (.ref pa10) := Fa82.keep Kq92 nin0
  have Fa99 : Fld Z T92.heap b1 "com/example/emberlot/emberlot/Slots" "next" "[[I" (.ref xa10) := Fa83.keep Kq92 nin0
  have Fa100 : Fld Z T92.heap b1 "com/example/emberlot/emberlot/Slots" "columns" "[[I" (.ref ca10) := Fa84.keep Kq92 nin0
  have Fa101 : Fld Z T92.heap b1 "com/example/emberlot/emberlot/Slots" "free" "I" (.int (-1 : Int32)) := Fa85.keep Kq92 nin0
  have Fa102 : Fld Z T92.heap b1 "com/example/emberlot/emberlot/Slots" "taken" "I" (.int (0 : Int32)) := Fa86.keep Kq92 nin0
  have Fa103 : PR Z T92.heap b22 (.object "java/lang/Object") "java/lang/Object" 3 (upd (upd (fun _ => Value.null) ((0 : Int32)).toNatClampNeg (.ref r34)) ((1 : Int32)).toNatClampNeg (.ref r62)) := Fa91.keep Kq92 nin0
  have Fa104 : Exa Z T92.heap b22 "[Ljava/lang/Object;" := Fa87.keep Kq92
  have Fa105 : Exa Z T92.heap r34 "java/lang/Integer" := Fa88.keep Kq92
  have Fa106 : Exa Z T92.heap r62 "java/lang/Integer" := Fa89.keep Kq92
  have S107 : SlA Z T92.heap n0 b1 na10 pa10 xa10 ca10 (afc pa10 xa10 ca10) fa.toNatClampNeg 0 (fun _ => 0) (fun _ => Value.null) (fun _ _ => (0 : Int32)) := S90.keep0 Kq92
  have ne_b1_r92 : b1 ≠ r92 := Nat.ne_of_lt (Nat.lt_of_lt_of_le Fa79.lt gr_92)
  have ne_b22_r92 : b22 ≠ r92 := Nat.ne_of_lt (Nat.lt_of_lt_of_le Fa91.lt gr_92)
  have ne_r34_r92 : r34 ≠ r92 := Nat.ne_of_lt (Nat.lt_of_lt_of_le Fa88.lt gr_92)
  have ne_r62_r92 : r62 ≠ r92 := Nat.ne_of_lt (Nat.lt_of_lt_of_le Fa89.lt gr_92)
  have g_r92 : n0 ≤ r92 := Nat.le_trans Z77 gr_92
  have sz_r92 : h0.size ≤ r92 := Nat.le_trans K77.1 gr_92
  refine go (u' := T92.setTop (mkF m 56 #[.val (.int p0), .val (.int p1), .val (.int p2), .val (.int p3), .val (.int p4), .val (.long q5), .second, .val (.ref b1), .val (.ref b22), .unset, .unset, .unset, .unset, .unset, .unset, .unset, .unset, .unset, .unset, .unset, .unset, .unset, .unset, .unset, .unset] [(.ref r92), (.int (2 : Int32)), (.ref b22)])) st92 ?_
  obtain ⟨T108, h108, X108, e108, W108, st108⟩ := own_aastore X92 hx hZ (rfl : T92.heap = _) Fa103 rfl (j := (2 : Int32)) (v := (.ref r92)) (by decide) (by decide) (Or.inr ⟨_, rfl, Ins.of_exa Fa93 (ww hw 57 rfl)⟩) (f := (mkF m 56 #[.val (.int p0), .val (.int p1), .val (.int p2), .val (.int p3), .val (.int p4), .val (.long q5), .second, .val (.ref b1), .val (.ref b22), .unset, .unset, .unset, .unset, .unset, .unset, .unset, .unset, .unset, .unset, .unset, .unset, .unset, .unset, .unset, .unset] [(.ref r92), (.int (2 : Int32)), (.ref b22)])) rfl rfl (hb hby at_56)
  have N108 := Fr.snoc X108 N92 g_b22
  have K108 : Keep h0 h108 [] := K92.wr W108 (Or.inr sz_b22)
  have Z108 : n0 ≤ h108.size := Nat.le_trans Z92 (Keep.of_wr W108).1
  have Fa109 : Sta Z h108 "java/lang/Integer$IntegerCache" "high" "I" (.int (127 : Int32)) := Fa94.wr W108
  have Fa110 : Exa Z h108 b1 "com/example/emberlot/emberlot/Slots" := Fa95.wr W108
  have Fa111 : Fld Z h108 b1 "com/example/emberlot/emberlot/Slots" "expected" "I" (.int E10) := Fa96.other W108 (Or.inl ne_b1_b22)
  have Fa112 : Fld Z h108 b1 "com/example/emberlot/emberlot/Slots" "nodes" "[Ljava/lang/Object;" (.ref na10) := Fa97.other W108 (Or.inl ne_b1_b22)
  have Fa113 : Fld Z h108 b1 "com/example/emberlot/emberlot/Slots" "previous" "[[I" (.ref pa10) := Fa98.other W108 (Or.inl ne_b1_b22)
  have Fa114 : Fld Z h108 b1 "com/example/emberlot/emberlot/Slots" "next" "[[I" (.ref xa10) := Fa99.other W108 (Or.inl ne_b1_b22)
  have Fa115 : Fld Z h108 b1 "com/example/emberlot/emberlot/Slots" "columns" "[[I" (.ref ca10) := Fa100.other W108 (Or.inl ne_b1_b22)
  have Fa116 : Fld Z h108 b1 "com/example/emberlot/emberlot/Slots" "free" "I" (.int (-1 : Int32)) := Fa101.other W108 (Or.inl ne_b1_b22)
  have Fa117 : Fld Z h108 b1 "com/example/emberlot/emberlot/Slots" "taken" "I" (.int (0 : Int32)) := Fa102.other W108 (Or.inl ne_b1_b22)
  have Fa118 : Exa Z h108 b22 "[Ljava/lang/Object;" := Fa104.wr W108
  have Fa119 : Exa Z h108 r34 "java/lang/Integer" := Fa105.wr W108
  have Fa120 : Exa Z h108 r62 "java/lang/Integer" := Fa106.wr W108
  have Fa121 : Exa Z h108 r92 "java/lang/Integer" := Fa93.wr W108
  have S122 : SlA Z h108 n0 b1 na10 pa10 xa10 ca10 (afc pa10 xa10 ca10) fa.toNatClampNeg 0 (fun _ => 0) (fun _ => Value.null) (fun _ _ => (0 : Int32)) := S107.keepW (Keep.of_wr W108) (own_no1 hno_b22)
  have Fa123 : PR Z h108 b22 (.object "java/lang/Object") "java/lang/Object" 3 (upd (upd (upd (fun _ => Value.null) ((0 : Int32)).toNatClampNeg (.ref r34)) ((1 : Int32)).toNatClampNeg (.ref r62)) ((2 : Int32)).toNatClampNeg (.ref r92)) := Fa103.set (by decide) W108
  refine go (u' := T108.setTop (mkF m 57 #[.val (.int p0), .val (.int p1), .val (.int p2), .val (.int p3), .val (.int p4), .val (.long q5), .second, .val (.ref b1), .val (.ref b22), .unset, .unset, .unset, .unset, .unset, .unset, .unset, .unset, .unset, .unset, .unset, .unset, .unset, .unset, .unset, .unset] [])) st108 ?_
  have Fa124 : PR Z h108 b22 (.object "java/lang/Object") "java/lang/Object" 3 (fun u => Value.ref (oad r34 r62 r92 u)) := Fa123.congr own_oad
  refine go (u' := T108.setTop (mkF m 60 #[.val (.int p0), .val (.int p1), .val (.int p2), .val (.int p3), .val (.int p4), .val (.long q5), .second, .val (.ref b1), .val (.ref b22), .unset, .unset, .unset, .unset, .unset, .unset, .unset, .unset, .unset, .unset, .unset, .unset, .unset, .unset, .unset, .unset] [(.int (4000 : Int32))])) (fun _ ks_ => XS.sipush X108.here hx rfl (hb hby at_57) ks_) ?_
  obtain ⟨_, _, ⟨T125, L125, k125, n125⟩, -, X125, ⟨Lc125, hQ125, l125, y125, z125⟩, st125⟩ := Jvm.LawKit.callS X108 hx (y := (⟨"java/lang/Integer", "valueOf", "(I)Ljava/lang/Integer;"⟩ : MethodName)) hown (mvT hZ (ww hw 36 rfl)) (mvT hZ (ww hw 37 rfl)) (mvT hZ (ww hw 38 rfl)) (mvT hZ (ww hw 39 rfl)) (by decide) (backOf (W := 0) (rm5 l Z a0 hw [] (4000 : Int32) h108 n0 Z108 Fa109 (by decide) (by decide)) hZ (ww hw 39 rfl) (ww hw 38 rfl) (by decide) (by decide)) (g := (mkF m 60 #[.val (.int p0), .val (.int p1), .val (.int p2), .val (.int p3), .val (.int p4), .val (.long q5), .second, .val (.ref b1), .val (.ref b22), .unset, .unset, .unset, .unset, .unset, .unset, .unset, .unset, .unset, .unset, .unset, .unset, .unset, .unset, .unset, .unset] [(.int (4000 : Int32))])) rfl (by rw [hml]; rfl) (argsL := [(.int (4000 : Int32))]) (rest := []) (lenOf pd__40_I_41_Ljava_47_lang_47_Integer_59_ rfl) rfl (by show 2 * 0 + _ ≤ _; exact Nat.le_of_eq rfl) (hb hby at_60) (fun _ _ => ⟨rfl, e108, (by decide : 21 + 1 ≤ _), (by decide : 25 + 1 ≤ _)⟩)
  dsimp only [Pt.U, Pt.locs, Pt.cells, Pt.slots] at X125 l125 y125 z125 st125 hQ125
  subst l125 y125 z125
  obtain ⟨r125, rfl, N125q, Kq125, Fa126, gr_125⟩ := hQ125
  have N125 := Fr.app N108 N125q
  have K125 : Keep h0 T125.heap [] := K108.trans Kq125 all0
  have Z125 : n0 ≤ T125.heap.size := Nat.le_trans Z108 Kq125.1
  have Fa127 : Sta Z T125.heap "java/lang/Integer$IntegerCache" "high" "I" (.int (127 : Int32)) := own_StaK Fa109 Kq125 ns0
  have Fa128 : Exa Z T125.heap b1 "com/example/emberlot/emberlot/Slots" := Fa110.keep Kq125
  have Fa129 : Fld Z T125.heap b1 "com/example/emberlot/emberlot/Slots" "expected" "I" (.int E10) := Fa111.keep Kq125 nin0
  have Fa130 : Fld Z T125.heap b1 "com/example/emberlot/emberlot/Slots" "nodes" "[Ljava/lang/Object;" (.ref na10) := Fa112.keep Kq125 nin0
  have Fa131 : Fld Z T125.heap b1 "com/example/emberlot/emberlot/Slots" "previous" "[[I" (.ref pa10) := Fa113.keep Kq125 nin0
  have Fa132 : Fld Z T125.heap b1 "com/example/emberlot/emberlot/Slots" "next" "[[I" (.ref xa10) := Fa114.keep Kq125 nin0
  have Fa133 : Fld Z T125.heap b1 "com/example/emberlot/emberlot/Slots" "columns" "[[I" (.ref ca10) := Fa115.keep Kq125 nin0
  have Fa134 : Fld Z T125.heap b1 "com/example/emberlot/emberlot/Slots" "free" "I" (.int (-1 : Int32)) := Fa116.keep Kq125 nin0
  have Fa135 : Fld Z T125.heap b1 "com/example/emberlot/emberlot/Slots" "taken" "I" (.int (0 : Int32)) := Fa117.keep Kq125 nin0
  have Fa136 : PR Z T125.heap b22 (.object "java/lang/Object") "java/lang/Object" 3 (fun u => Value.ref (oad r34 r62 r92 u)) := Fa124.keep Kq125 nin0
  have Fa137 : Exa Z T125.heap b22 "[Ljava/lang/Object;" := Fa118.keep Kq125
  have Fa138 : Exa Z T125.heap r34 "java/lang/Integer" := Fa119.keep Kq125
  have Fa139 : Exa Z T125.heap r62 "java/lang/Integer" := Fa120.keep Kq125
  have Fa140 : Exa Z T125.heap r92 "java/lang/Integer" := Fa121.keep Kq125
  have S141 : SlA Z T125.heap n0 b1 na10 pa10 xa10 ca10 (afc pa10 xa10 ca10) fa.toNatClampNeg 0 (fun _ => 0) (fun _ => Value.null) (fun _ _ => (0 : Int32)) := S122.keep0 Kq125
  have ne_b1_r125 : b1 ≠ r125 := Nat.ne_of_lt (Nat.lt_of_lt_of_le Fa110.lt gr_125)
  have ne_b22_r125 : b22 ≠ r125 := Nat.ne_of_lt (Nat.lt_of_lt_of_le Fa124.lt gr_125)
  have ne_r34_r125 : r34 ≠ r125 := Nat.ne_of_lt (Nat.lt_of_lt_of_le Fa119.lt gr_125)
  have ne_r62_r125 : r62 ≠ r125 := Nat.ne_of_lt (Nat.lt_of_lt_of_le Fa120.lt gr_125)
  have ne_r92_r125 : r92 ≠ r125 := Nat.ne_of_lt (Nat.lt_of_lt_of_le Fa121.lt gr_125)
  have g_r125 : n0 ≤ r125 := Nat.le_trans Z108 gr_125
  have sz_r125 : h0.size ≤ r125 := Nat.le_trans K108.1 gr_125
  refine go (u' := T125.setTop (mkF m 63 #[.val (.int p0), .val (.int p1), .val (.int p2), .val (.int p3), .val (.int p4), .val (.long q5), .second, .val (.ref b1), .val (.ref b22), .unset, .unset, .unset, .unset, .unset, .unset, .unset, .unset, .unset, .unset, .unset, .unset, .unset, .unset, .unset, .unset] [(.ref r125)])) st125 ?_
  refine go (u' := T125.setTop (mkF m 65 #[.val (.int p0), .val (.int p1), .val (.int p2), .val (.int p3), .val (.int p4), .val (.long q5), .second, .val (.ref b1), .val (.ref b22), .val (.ref r125), .unset, .unset, .unset, .unset, .unset, .unset, .unset, .unset, .unset, .unset, .unset, .unset, .unset, .unset, .unset] [])) (fun _ ks_ => XS.astore X125.here hx rfl (hb hby at_63) rfl rfl (l' := #[.val (.int p0), .val (.int p1), .val (.int p2), .val (.int p3), .val (.int p4), .val (.long q5), .second, .val (.ref b1), .val (.ref b22), .val (.ref r125), .unset, .unset, .unset, .unset, .unset, .unset, .unset, .unset, .unset, .unset, .unset, .unset, .unset, .unset, .unset]) rfl ks_) ?_
  refine go (u' := T125.setTop (mkF m 68 #[.val (.int p0), .val (.int p1), .val (.int p2), .val (.int p3), .val (.int p4), .val (.long q5), .second, .val (.ref b1), .val (.ref b22), .val (.ref r125), .unset, .unset, .unset, .unset, .unset, .unset, .unset, .unset, .unset, .unset, .unset, .unset, .unset, .unset, .unset] [(.int (5000 : Int32))])) (fun _ ks_ => XS.sipush X125.here hx rfl (hb hby at_65) ks_) ?_
  obtain ⟨_, _, ⟨T142, L142, k142, n142⟩, -, X142, ⟨Lc142, hQ142, l142, y142, z142⟩, st142⟩ := Jvm.LawKit.callS X125 hx (y := (⟨"java/lang/Integer", "valueOf", "(I)Ljava/lang/Integer;"⟩ : MethodName)) hown (mvT hZ (ww hw 36 rfl)) (mvT hZ (ww hw 37 rfl)) (mvT hZ (ww hw 38 rfl)) (mvT hZ (ww hw 39 rfl)) (by decide) (backOf (W := 0) (rm5 l Z a0 hw [] (5000 : Int32) T125.heap n0 Z125 Fa127 (by decide) (by decide)) hZ (ww hw 39 rfl) (ww hw 38 rfl) (by decide) (by decide)) (g := (mkF m 68 #[.val (.int p0), .val (.int p1), .val (.int p2), .val (.int p3), .val (.int p4), .val (.long q5), .second, .val (.ref b1), .val (.ref b22), .val (.ref r125), .unset, .unset, .unset, .unset, .unset, .unset, .unset, .unset, .unset, .unset, .unset, .unset, .unset, .unset, .unset] [(.int (5000 : Int32))])) rfl (by rw [hml]; rfl) (argsL := [(.int (5000 : Int32))]) (rest := []) (lenOf pd__40_I_41_Ljava_47_lang_47_Integer_59_ rfl) rfl (by show 2 * 0 + _ ≤ _; exact Nat.le_of_eq rfl) (hb hby at_68) (fun _ _ => ⟨rfl, (rfl : T125.heap = _), (by decide : 22 + 1 ≤ _), (by decide : 26 + 1 ≤ _)⟩)
  dsimp only [Pt.U, Pt.locs, Pt.cells, Pt.slots] at X142 l142 y142 z142 st142 hQ142
  subst l142 y142 z142
  obtain ⟨r142, rfl, N142q, Kq142, Fa143, gr_142⟩ := hQ142
  have N142 := Fr.app N125 N142q
  have K142 : Keep h0 T142.heap [] := K125.trans Kq142 all0
  have Z142 : n0 ≤ T142.heap.size := Nat.le_trans Z125 Kq142.1
  have Fa144 : Sta Z T142.heap "java/lang/Integer$IntegerCache" "high" "I" (.int (127 : Int32)) := own_StaK Fa127 Kq142 ns0
  have Fa145 : Exa Z T142.heap b1 "com/example/emberlot/emberlot/Slots" := Fa128.keep Kq142
  have Fa146 : Fld Z T142.heap b1 "com/example/emberlot/emberlot/Slots" "expected" "I" (.int E10) := Fa129.keep Kq142 nin0
  have Fa147 : Fld Z T142.heap b1 "com/example/emberlot/emberlot/Slots" "nodes" "[Ljava/lang/Object;" (.ref na10) := Fa130.keep Kq142 nin0
  have Fa148 : Fld Z T142.heap b1 "com/example/emberlot/emberlot/Slots" "previous" "[[I" (.ref pa10) := Fa131.keep Kq142 nin0
  have Fa149 : Fld Z T142.heap b1 "com/example/emberlot/emberlot/Slots" "next" "[[I" (.ref xa10) := Fa132.keep Kq142 nin0
  have Fa150 : Fld Z T142.heap b1 "com/example/emberlot/emberlot/Slots" "columns" "[[I" (.ref ca10) := Fa133.keep Kq142 nin0
  have Fa151 : Fld Z T142.heap b1 "com/example/emberlot/emberlot/Slots" "free" "I" (.int (-1 : Int32)) := Fa134.keep Kq142 nin0
  have Fa152 : Fld Z T142.heap b1 "com/example/emberlot/emberlot/Slots" "taken" "I" (.int (0 : Int32)) := Fa135.keep Kq142 nin0
  have Fa153 : PR Z T142.heap b22 (.object "java/lang/Object") "java/lang/Object" 3 (fun u => Value.ref (oad r34 r62 r92 u)) := Fa136.keep Kq142 nin0
  have Fa154 : Exa Z T142.heap b22 "[Ljava/lang/Object;" := Fa137.keep Kq142
  have Fa155 : Exa Z T142.heap r34 "java/lang/Integer" := Fa138.keep Kq142
  have Fa156 : Exa Z T142.heap r62 "java/lang/Integer" := Fa139.keep Kq142
  have Fa157 : Exa Z T142.heap r92 "java/lang/Integer" := Fa140.keep Kq142
  have Fa158 : Exa Z T142.heap r125 "java/lang/Integer" := Fa126.keep Kq142
  have S159 : SlA Z T142.heap n0 b1 na10 pa10 xa10 ca10 (afc pa10 xa10 ca10) fa.toNatClampNeg 0 (fun _ => 0) (fun _ => Value.null) (fun _ _ => (0 : Int32)) := S141.keep0 Kq142
  have ne_b1_r142 : b1 ≠ r142 := Nat.ne_of_lt (Nat.lt_of_lt_of_le Fa128.lt gr_142)
  have ne_b22_r142 : b22 ≠ r142 := Nat.ne_of_lt (Nat.lt_of_lt_of_le Fa136.lt gr_142)
  have ne_r34_r142 : r34 ≠ r142 := Nat.ne_of_lt (Nat.lt_of_lt_of_le Fa138.lt gr_142)
  have ne_r62_r142 : r62 ≠ r142 := Nat.ne_of_lt (Nat.lt_of_lt_of_le Fa139.lt gr_142)
  have ne_r92_r142 : r92 ≠ r142 := Nat.ne_of_lt (Nat.lt_of_lt_of_le Fa140.lt gr_142)
  have ne_r125_r142 : r125 ≠ r142 := Nat.ne_of_lt (Nat.lt_of_lt_of_le Fa126.lt gr_142)
  have g_r142 : n0 ≤ r142 := Nat.le_trans Z125 gr_142
  have sz_r142 : h0.size ≤ r142 := Nat.le_trans K125.1 gr_142
  refine go (u' := T142.setTop (mkF m 71 #[.val (.int p0), .val (.int p1), .val (.int p2), .val (.int p3), .val (.int p4), .val (.long q5), .second, .val (.ref b1), .val (.ref b22), .val (.ref r125), .unset, .unset, .unset, .unset, .unset, .unset, .unset, .unset, .unset, .unset, .unset, .unset, .unset, .unset, .unset] [(.ref r142)])) st142 ?_
  refine go (u' := T142.setTop (mkF m 73 #[.val (.int p0), .val (.int p1), .val (.int p2), .val (.int p3), .val (.int p4), .val (.long q5), .second, .val (.ref b1), .val (.ref b22), .val (.ref r125), .val (.ref r142), .unset, .unset, .unset, .unset, .unset, .unset, .unset, .unset, .unset, .unset, .unset, .unset, .unset, .unset] [])) (fun _ ks_ => XS.astore X142.here hx rfl (hb hby at_71) rfl rfl (l' := #[.val (.int p0), .val (.int p1), .val (.int p2), .val (.int p3), .val (.int p4), .val (.long q5), .second, .val (.ref b1), .val (.ref b22), .val (.ref r125), .val (.ref r142), .unset, .unset, .unset, .unset, .unset, .unset, .unset, .unset, .unset, .unset, .unset, .unset, .unset, .unset]) rfl ks_) ?_
  refine go (u' := T142.setTop (mkF m 76 #[.val (.int p0), .val (.int p1), .val (.int p2), .val (.int p3), .val (.int p4), .val (.long q5), .second, .val (.ref b1), .val (.ref b22), .val (.ref r125), .val (.ref r142), .unset, .unset, .unset, .unset, .unset, .unset, .unset, .unset, .unset, .unset, .unset, .unset, .unset, .unset] [(.int (6000 : Int32))])) (fun _ ks_ => XS.sipush X142.here hx rfl (hb hby at_73) ks_) ?_
  obtain ⟨_, _, ⟨T160, L160, k160, n160⟩, -, X160, ⟨Lc160, hQ160, l160, y160, z160⟩, st160⟩ := Jvm.LawKit.callS X142 hx (y := (⟨"java/lang/Integer", "valueOf", "(I)Ljava/lang/Integer;"⟩ : MethodName)) hown (mvT hZ (ww hw 36 rfl)) (mvT hZ (ww hw 37 rfl)) (mvT hZ (ww hw 38 rfl)) (mvT hZ (ww hw 39 rfl)) (by decide) (backOf (W := 0) (rm5 l Z a0 hw [] (6000 : Int32) T142.heap n0 Z142 Fa144 (by decide) (by decide)) hZ (ww hw 39 rfl) (ww hw 38 rfl) (by decide) (by decide)) (g := (mkF m 76 #[.val (.int p0), .val (.int p1), .val (.int p2), .val (.int p3), .val (.int p4), .val (.long q5), .second, .val (.ref b1), .val (.ref b22), .val (.ref r125), .val (.ref r142), .unset, .unset, .unset, .unset, .unset, .unset, .unset, .unset, .unset, .unset, .unset, .unset, .unset, .unset] [(.int (6000 : Int32))])) rfl (by rw [hml]; rfl) (argsL := [(.int (6000 : Int32))]) (rest := []) (lenOf pd__40_I_41_Ljava_47_lang_47_Integer_59_ rfl) rfl (by show 2 * 0 + _ ≤ _; exact Nat.le_of_eq rfl) (hb hby at_76) (fun _ _ => ⟨rfl, (rfl : T142.heap = _), (by decide : 23 + 1 ≤ _), (by decide : 27 + 1 ≤ _)⟩)
  dsimp only [Pt.U, Pt.locs, Pt.cells, Pt.slots] at X160 l160 y160 z160 st160 hQ160
  subst l160 y160 z160
  obtain ⟨r160, rfl, N160q, Kq160, Fa161, gr_160⟩ := hQ160
  have N160 := Fr.app N142 N160q
  have K160 : Keep h0 T160.heap [] := K142.trans Kq160 all0
  have Z160 : n0 ≤ T160.heap.size := Nat.le_trans Z142 Kq160.1
  have Fa162 : Sta Z T160.heap "java/lang/Integer$IntegerCache" "high" "I" (.int (127 : Int32)) := own_StaK Fa144 Kq160 ns0
  have Fa163 : Exa Z T160.heap b1 "com/example/emberlot/emberlot/Slots" := Fa145.keep Kq160
  have Fa164 : Fld Z T160.heap b1 "com/example/emberlot/emberlot/Slots" "expected" "I" (.int E10) := Fa146.keep Kq160 nin0
  have Fa165 : Fld Z T160.heap b1 "com/example/emberlot/emberlot/Slots" "nodes" "[Ljava/lang/Object;" (.ref na10) := Fa147.keep Kq160 nin0
  have Fa166 : Fld Z T160.heap b1 "com/example/emberlot/emberlot/Slots" "previous" "[[I" (.ref pa10) := Fa148.keep Kq160 nin0
  have Fa167 : Fld Z T160.heap b1 "com/example/emberlot/emberlot/Slots" "next" "[[I" (.ref xa10) := Fa149.keep Kq160 nin0
  have Fa168 : Fld Z T160.heap b1 "com/example/emberlot/emberlot/Slots" "columns" "[[I" (.ref ca10) := Fa150.keep Kq160 nin0
  have Fa169 : Fld Z T160.heap b1 "com/example/emberlot/emberlot/Slots" "free" "I" (.int (-1 : Int32)) := Fa151.keep Kq160 nin0
  have Fa170 : Fld Z T160.heap b1 "com/example/emberlot/emberlot/Slots" "taken" "I" (.int (0 : Int32)) := Fa152.keep Kq160 nin0
  have Fa171 : PR Z T160.heap b22 (.object "java/lang/Object") "java/lang/Object" 3 (fun u => Value.ref (oad r34 r62 r92 u)) := Fa153.keep Kq160 nin0
  have Fa172 : Exa Z T160.heap b22 "[Ljava/lang/Object;" := Fa154.keep Kq160
  have Fa173 : Exa Z T160.heap r34 "java/lang/Integer" := Fa155.keep Kq160
  have Fa174 : Exa Z T160.heap r62 "java/lang/Integer" := Fa156.keep Kq160
  have Fa175 : Exa Z T160.heap r92 "java/lang/Integer" := Fa157.keep Kq160
  have Fa176 : Exa Z T160.heap r125 "java/lang/Integer" := Fa158.keep Kq160
  have Fa177 : Exa Z T160.heap r142 "java/lang/Integer" := Fa143.keep Kq160
  have S178 : SlA Z T160.heap n0 b1 na10 pa10 xa10 ca10 (afc pa10 xa10 ca10) fa.toNatClampNeg 0 (fun _ => 0) (fun _ => Value.null) (fun _ _ => (0 : Int32)) := S159.keep0 Kq160
  have ne_b1_r160 : b1 ≠ r160 := Nat.ne_of_lt (Nat.lt_of_lt_of_le Fa145.lt gr_160)
  have ne_b22_r160 : b22 ≠ r160 := Nat.ne_of_lt (Nat.lt_of_lt_of_le Fa153.lt gr_160)
  have ne_r34_r160 : r34 ≠ r160 := Nat.ne_of_lt (Nat.lt_of_lt_of_le Fa155.lt gr_160)
  have ne_r62_r160 : r62 ≠ r160 := Nat.ne_of_lt (Nat.lt_of_lt_of_le Fa156.lt gr_160)
  have ne_r92_r160 : r92 ≠ r160 := Nat.ne_of_lt (Nat.lt_of_lt_of_le Fa157.lt gr_160)
  have ne_r125_r160 : r125 ≠ r160 := Nat.ne_of_lt (Nat.lt_of_lt_of_le Fa158.lt gr_160)
  have ne_r142_r160 : r142 ≠ r160 := Nat.ne_of_lt (Nat.lt_of_lt_of_le Fa143.lt gr_160)
  have g_r160 : n0 ≤ r160 := Nat.le_trans Z142 gr_160
  have sz_r160 : h0.size ≤ r160 := Nat.le_trans K142.1 gr_160
  refine go (u' := T160.setTop (mkF m 79 #[.val (.int p0), .val (.int p1), .val (.int p2), .val (.int p3), .val (.int p4), .val (.long q5), .second, .val (.ref b1), .val (.ref b22), .val (.ref r125), .val (.ref r142), .unset, .unset, .unset, .unset, .unset, .unset, .unset, .unset, .unset, .unset, .unset, .unset, .unset, .unset] [(.ref r160)])) st160 ?_
  refine go (u' := T160.setTop (mkF m 81 #[.val (.int p0), .val (.int p1), .val (.int p2), .val (.int p3), .val (.int p4), .val (.long q5), .second, .val (.ref b1), .val (.ref b22), .val (.ref r125), .val (.ref r142), .val (.ref r160), .unset, .unset, .unset, .unset, .unset, .unset, .unset, .unset, .unset, .unset, .unset, .unset, .unset] [])) (fun _ ks_ => XS.astore X160.here hx rfl (hb hby at_79) rfl rfl (l' := #[.val (.int p0), .val (.int p1), .val (.int p2), .val (.int p3), .val (.int p4), .val (.long q5), .second, .val (.ref b1), .val (.ref b22), .val (.ref r125), .val (.ref r142), .val (.ref r160), .unset, .unset, .unset, .unset, .unset, .unset, .unset, .unset, .unset, .unset, .unset, .unset, .unset]) rfl ks_) ?_
  refine go (u' := T160.setTop (mkF m 83 #[.val (.int p0), .val (.int p1), .val (.int p2), .val (.int p3), .val (.int p4), .val (.long q5), .second, .val (.ref b1), .val (.ref b22), .val (.ref r125), .val (.ref r142), .val (.ref r160), .unset, .unset, .unset, .unset, .unset, .unset, .unset, .unset, .unset, .unset, .unset, .unset, .unset] [(.ref b1)])) (fun _ ks_ => XS.aload X160.here hx rfl (hb hby at_81) rfl rfl ks_) ?_
  refine go (u' := T160.setTop (mkF m 85 #[.val (.int p0), .val (.int p1), .val (.int p2), .val (.int p3), .val (.int p4), .val (.long q5), .second, .val (.ref b1), .val (.ref b22), .val (.ref r125), .val (.ref r142), .val (.ref r160), .unset, .unset, .unset, .unset, .unset, .unset, .unset, .unset, .unset, .unset, .unset, .unset, .unset] [(.ref b22), (.ref b1)])) (fun _ ks_ => XS.aload X160.here hx rfl (hb hby at_83) rfl rfl ks_) ?_
  refine go (u' := T160.setTop (mkF m 86 #[.val (.int p0), .val (.int p1), .val (.int p2), .val (.int p3), .val (.int p4), .val (.long q5), .second, .val (.ref b1), .val (.ref b22), .val (.ref r125), .val (.ref r142), .val (.ref r160), .unset, .unset, .unset, .unset, .unset, .unset, .unset, .unset, .unset, .unset, .unset, .unset, .unset] [(.int (0 : Int32)), (.ref b22), (.ref b1)])) (fun _ ks_ => XS.iconst X160.here hx rfl (hb hby at_85) ks_) ?_
  refine go (u' := T160.setTop (mkF m 87 #[.val (.int p0), .val (.int p1), .val (.int p2), .val (.int p3), .val (.int p4), .val (.long q5), .second, .val (.ref b1), .val (.ref b22), .val (.ref r125), .val (.ref r142), .val (.ref r160), .unset, .unset, .unset, .unset, .unset, .unset, .unset, .unset, .unset, .unset, .unset, .unset, .unset] [(.ref r34), (.ref b1)])) (own_aaload X160 hx hZ (rfl : T160.heap = _) Fa171 rfl (j := (0 : Int32)) (v := (.ref r34)) (by decide) (by decide) own_oad0 (f := (mkF m 86 #[.val (.int p0), .val (.int p1), .val (.int p2), .val (.int p3), .val (.int p4), .val (.long q5), .second, .val (.ref b1), .val (.ref b22), .val (.ref r125), .val (.ref r142), .val (.ref r160), .unset, .unset, .unset, .unset, .unset, .unset, .unset, .unset, .unset, .unset, .unset, .unset, .unset] [(.int (0 : Int32)), (.ref b22), (.ref b1)])) rfl rfl (hb hby at_86)) ?_
  obtain ⟨cq179, kq179, q179a, q179b, q179c⟩ := isOf hZ (rfl : T160.heap = _) Fa163
  obtain ⟨_, _, ⟨T179, L179, k179, n179⟩, -, X179, ⟨Lc179, hQ179, l179, y179, z179⟩, st179⟩ := X160.virtualBack hx (y := (⟨"com/example/emberlot/emberlot/Slots", "add", "(Ljava/lang/Object;)I"⟩ : MethodName)) (z := (⟨"com/example/emberlot/emberlot/Slots", "add", "(Ljava/lang/Object;)I"⟩ : MethodName)) hown (mvT hZ (ww hw 58 rfl)) (mvT hZ (ww hw 59 rfl)) (notFace_of_selects (args := #[]) (mvT hZ (ww hw 61 rfl))) (mvT hZ (ww hw 61 rfl)) (mvT hZ (ww hw 60 rfl)) (by decide) (backOf (W := 0) (rm8 l Z a0 hw [] b1 r34 na10 pa10 xa10 ca10 (afc pa10 xa10 ca10) fa.toNatClampNeg 0 (fun _ => 0) (fun _ => Value.null) (fun _ _ => (0 : Int32)) E10 (-1 : Int32) (0 : Int32) mr T160.heap n0 Z160 Fa163 Fa164 Fa165 Fa166 Fa167 Fa168 Fa169 Fa170 S178 Fa173 (fun _ _ => rfl) rfl rfl (by decide) hE_10 hM) hZ (ww hw 62 rfl) (ww hw 2 rfl) (by decide) (by decide)) q179a q179c (g := (mkF m 87 #[.val (.int p0), .val (.int p1), .val (.int p2), .val (.int p3), .val (.int p4), .val (.long q5), .second, .val (.ref b1), .val (.ref b22), .val (.ref r125), .val (.ref r142), .val (.ref r160), .unset, .unset, .unset, .unset, .unset, .unset, .unset, .unset, .unset, .unset, .unset, .unset, .unset] [(.ref r34), (.ref b1)])) rfl (by rw [hml]; rfl) (Steps.refl _) (argsL := [(.ref r34)]) (rest := []) (lenOf pd__40_Ljava_47_lang_47_Object_59__41_I rfl) rfl (by show 2 * 0 + _ ≤ _; exact Nat.le_of_eq rfl) (hb hby at_87) (fun _ _ => ⟨rfl, (rfl : T160.heap = _), (by decide : 24 + 10 ≤ _), (by decide : 28 + 160 ≤ _)⟩)
  dsimp only [Pt.U, Pt.locs, Pt.cells, Pt.slots] at X179 l179 y179 z179 st179 hQ179
  subst l179 y179 z179
  obtain ⟨na1179, af1179, n1179, ln1179, nd1179, gs1179, rfl, N179q, Kq179, Fa180, Fa181, Fa182, Fa183, Fa184, Fa185, Fa186, Fa187, Fa188, sub_179, add_179, gx_179⟩ := hQ179
  have N179 := Fr.app N160 N179q
  have K179 : Keep h0 T179.heap [] := K160.trans Kq179 (own_WlLo S178 hn0)
  have Z179 : n0 ≤ T179.heap.size := Nat.le_trans Z160 Kq179.1
  have Fa189 : Exa Z T179.heap b1 "com/example/emberlot/emberlot/Slots" := Fa163.keep Kq179
  have Fa190 : PR Z T179.heap b22 (.object "java/lang/Object") "java/lang/Object" 3 (fun u => Value.ref (oad r34 r62 r92 u)) := Fa171.keep Kq179 (own_nW hno_b22)
  have Fa191 : Exa Z T179.heap b22 "[Ljava/lang/Object;" := Fa172.keep Kq179
  have Fa192 : Exa Z T179.heap r34 "java/lang/Integer" := Fa173.keep Kq179
  have Fa193 : Exa Z T179.heap r62 "java/lang/Integer" := Fa174.keep Kq179
  have Fa194 : Exa Z T179.heap r92 "java/lang/Integer" := Fa175.keep Kq179
  have Fa195 : Exa Z T179.heap r125 "java/lang/Integer" := Fa176.keep Kq179
  have Fa196 : Exa Z T179.heap r142 "java/lang/Integer" := Fa177.keep Kq179
  have Fa197 : Exa Z T179.heap r160 "java/lang/Integer" := Fa161.keep Kq179
  refine goT (u' := T179.setTop (mkF m 90 #[.val (.int p0), .val (.int p1), .val (.int p2), .val (.int p3), .val (.int p4), .val (.long q5), .second, .val (.ref b1), .val (.ref b22), .val (.ref r125), .val (.ref r142), .val (.ref r160), .unset, .unset, .unset, .unset, .unset, .unset, .unset, .unset, .unset, .unset, .unset, .unset, .unset] [(.int (0 : Int32))])) st179 ?_
  have Fa198 : Fld Z T179.heap b1 "com/example/emberlot/emberlot/Slots" "taken" "I" (.int (1 : Int32)) := own_Fto Fa187 (congrArg Value.int (by decide))
  have hno199 : ∀ i, i < 6 + 2 * fa.toNatClampNeg → adr b1 na1179 pa10 xa10 ca10 af1179 i ≠ b22 := own_nS hno_b22 Fa171.lt sub_179
  refine go (u' := T179.setTop (mkF m 92 #[.val (.int p0), .val (.int p1), .val (.int p2), .val (.int p3), .val (.int p4), .val (.long q5), .second, .val (.ref b1), .val (.ref b22), .val (.ref r125), .val (.ref r142), .val (.ref r160), .val (.int (0 : Int32)), .unset, .unset, .unset, .unset, .unset, .unset, .unset, .unset, .unset, .unset, .unset, .unset] [])) (fun _ ks_ => XS.istore X179.here hx rfl (hb hby at_90) rfl  (l' := #[.val (.int p0), .val (.int p1), .val (.int p2), .val (.int p3), .val (.int p4), .val (.long q5), .second, .val (.ref b1), .val (.ref b22), .val (.ref r125), .val (.ref r142), .val (.ref r160), .val (.int (0 : Int32)), .unset, .unset, .unset, .unset, .unset, .unset, .unset, .unset, .unset, .unset, .unset, .unset]) rfl ks_) ?_
  have C114_1 : ∀ (na_ : Addr) (af_ : Nat → Addr) (n_ : Nat) (ln_ : Nat → Nat) (nd_ : Nat → Value) (gs_ : Nat → Nat → Int32) (T200 : State) (h200 : Heap) (Ls200 : List Loc), (Stand p l e room_1 s m #[(.int p0), (.int p1), (.int p2), (.int p3), (.int p4), (.long q5)] below meth c T200 Ls200 44 348) → (T200.heap = h200) → (Fr n0 Ls200) → (n0 ≤ h200.size) → (Keep h0 h200 []) → (Exa Z h200 b1 "com/example/emberlot/emberlot/Slots") → (PR Z h200 b22 (.object "java/lang/Object") "java/lang/Object" 3 (fun u => Value.ref (oad r34 r62 r92 u))) → (Exa Z h200 b22 "[Ljava/lang/Object;") → (Exa Z h200 r34 "java/lang/Integer") → (Exa Z h200 r62 "java/lang/Integer") → (Exa Z h200 r92 "java/lang/Integer") → (Exa Z h200 r125 "java/lang/Integer") → (Exa Z h200 r142 "java/lang/Integer") → (Exa Z h200 r160 "java/lang/Integer") → (Fld Z h200 b1 "com/example/emberlot/emberlot/Slots" "expected" "I" (.int E10)) → (Fld Z h200 b1 "com/example/emberlot/emberlot/Slots" "nodes" "[Ljava/lang/Object;" (.ref na_)) → (Fld Z h200 b1 "com/example/emberlot/emberlot/Slots" "previous" "[[I" (.ref pa10)) → (Fld Z h200 b1 "com/example/emberlot/emberlot/Slots" "next" "[[I" (.ref xa10)) → (Fld Z h200 b1 "com/example/emberlot/emberlot/Slots" "columns" "[[I" (.ref ca10)) → (Fld Z h200 b1 "com/example/emberlot/emberlot/Slots" "free" "I" (.int (-1 : Int32))) → (Fld Z h200 b1 "com/example/emberlot/emberlot/Slots" "taken" "I" (.int (3 : Int32))) → (SlA Z h200 n0 b1 na_ pa10 xa10 ca10 af_ fa.toNatClampNeg n_ ln_ nd_ gs_) → (Law3 r34 r62 r92 fa.toNatClampNeg n_ ln_ nd_) → (∀ i, i < 6 + 2 * fa.toNatClampNeg → adr b1 na_ pa10 xa10 ca10 af_ i ≠ b22) → Go p.tables e below G (T200.setTop (mkF m 114 #[.val (.int p0), .val (.int p1), .val (.int p2), .val (.int p3), .val (.int p4), .val (.long q5), .second, .val (.ref b1), .val (.ref b22), .val (.ref r125), .val (.ref r142), .val (.ref r160), .val (.int (0 : Int32)), .val (.int (1 : Int32)), .val (.int (2 : Int32)), .unset, .unset, .unset, .unset, .unset, .unset, .unset, .unset, .unset, .unset] [])) := by
    intro na_ af_ n_ ln_ nd_ gs_ T200 h200 Ls200 X200 e200 N200 Z200 K200 F200_0 F200_1 F200_2 F200_3 F200_4 F200_5 F200_6 F200_7 F200_8 F200_9 F200_10 F200_11 F200_12 F200_13 F200_14 F200_15 F200_16 hR hno3
    refine go (u' := T200.setTop (mkF m 116 #[.val (.int p0), .val (.int p1), .val (.int p2), .val (.int p3), .val (.int p4), .val (.long q5), .second, .val (.ref b1), .val (.ref b22), .val (.ref r125), .val (.ref r142), .val (.ref r160), .val (.int (0 : Int32)), .val (.int (1 : Int32)), .val (.int (2 : Int32)), .unset, .unset, .unset, .unset, .unset, .unset, .unset, .unset, .unset, .unset] [(.int (0 : Int32))])) (fun _ ks_ => XS.iload X200.here hx rfl (hb hby at_114) rfl  ks_) ?_
    refine go (u' := T200.setTop (mkF m 119 #[.val (.int p0), .val (.int p1), .val (.int p2), .val (.int p3), .val (.int p4), .val (.long q5), .second, .val (.ref b1), .val (.ref b22), .val (.ref r125), .val (.ref r142), .val (.ref r160), .val (.int (0 : Int32)), .val (.int (1 : Int32)), .val (.int (2 : Int32)), .unset, .unset, .unset, .unset, .unset, .unset, .unset, .unset, .unset, .unset] [])) (fun _ ks_ => XS.ifNo X200.here hx rfl (hb hby at_116) rfl ((if0 _ _).trans (teq (show (0 : Int32) = (0 : Int32) from (by decide))).2) ks_) ?_
    refine go (u' := T200.setTop (mkF m 121 #[.val (.int p0), .val (.int p1), .val (.int p2), .val (.int p3), .val (.int p4), .val (.long q5), .second, .val (.ref b1), .val (.ref b22), .val (.ref r125), .val (.ref r142), .val (.ref r160), .val (.int (0 : Int32)), .val (.int (1 : Int32)), .val (.int (2 : Int32)), .unset, .unset, .unset, .unset, .unset, .unset, .unset, .unset, .unset, .unset] [(.int (1 : Int32))])) (fun _ ks_ => XS.iload X200.here hx rfl (hb hby at_119) rfl  ks_) ?_
    refine go (u' := T200.setTop (mkF m 122 #[.val (.int p0), .val (.int p1), .val (.int p2), .val (.int p3), .val (.int p4), .val (.long q5), .second, .val (.ref b1), .val (.ref b22), .val (.ref r125), .val (.ref r142), .val (.ref r160), .val (.int (0 : Int32)), .val (.int (1 : Int32)), .val (.int (2 : Int32)), .unset, .unset, .unset, .unset, .unset, .unset, .unset, .unset, .unset, .unset] [(.int (1 : Int32)), (.int (1 : Int32))])) (fun _ ks_ => XS.iconst X200.here hx rfl (hb hby at_121) ks_) ?_
    refine go (u' := T200.setTop (mkF m 125 #[.val (.int p0), .val (.int p1), .val (.int p2), .val (.int p3), .val (.int p4), .val (.long q5), .second, .val (.ref b1), .val (.ref b22), .val (.ref r125), .val (.ref r142), .val (.ref r160), .val (.int (0 : Int32)), .val (.int (1 : Int32)), .val (.int (2 : Int32)), .unset, .unset, .unset, .unset, .unset, .unset, .unset, .unset, .unset, .unset] [])) (fun _ ks_ => XS.icmpNo X200.here hx rfl (hb hby at_122) rfl (teq (show (1 : Int32) = (1 : Int32) from (by decide))).2 ks_) ?_
    refine go (u' := T200.setTop (mkF m 127 #[.val (.int p0), .val (.int p1), .val (.int p2), .val (.int p3), .val (.int p4), .val (.long q5), .second, .val (.ref b1), .val (.ref b22), .val (.ref r125), .val (.ref r142), .val (.ref r160), .val (.int (0 : Int32)), .val (.int (1 : Int32)), .val (.int (2 : Int32)), .unset, .unset, .unset, .unset, .unset, .unset, .unset, .unset, .unset, .unset] [(.int (2 : Int32))])) (fun _ ks_ => XS.iload X200.here hx rfl (hb hby at_125) rfl  ks_) ?_
    refine go (u' := T200.setTop (mkF m 128 #[.val (.int p0), .val (.int p1), .val (.int p2), .val (.int p3), .val (.int p4), .val (.long q5), .second, .val (.ref b1), .val (.ref b22), .val (.ref r125), .val (.ref r142), .val (.ref r160), .val (.int (0 : Int32)), .val (.int (1 : Int32)), .val (.int (2 : Int32)), .unset, .unset, .unset, .unset, .unset, .unset, .unset, .unset, .unset, .unset] [(.int (2 : Int32)), (.int (2 : Int32))])) (fun _ ks_ => XS.iconst X200.here hx rfl (hb hby at_127) ks_) ?_
    refine go (u' := T200.setTop (mkF m 131 #[.val (.int p0), .val (.int p1), .val (.int p2), .val (.int p3), .val (.int p4), .val (.long q5), .second, .val (.ref b1), .val (.ref b22), .val (.ref r125), .val (.ref r142), .val (.ref r160), .val (.int (0 : Int32)), .val (.int (1 : Int32)), .val (.int (2 : Int32)), .unset, .unset, .unset, .unset, .unset, .unset, .unset, .unset, .unset, .unset] [])) (fun _ ks_ => XS.icmpNo X200.here hx rfl (hb hby at_128) rfl (teq (show (2 : Int32) = (2 : Int32) from (by decide))).2 ks_) ?_
    refine go (u' := T200.setTop (mkF m 132 #[.val (.int p0), .val (.int p1), .val (.int p2), .val (.int p3), .val (.int p4), .val (.long q5), .second, .val (.ref b1), .val (.ref b22), .val (.ref r125), .val (.ref r142), .val (.ref r160), .val (.int (0 : Int32)), .val (.int (1 : Int32)), .val (.int (2 : Int32)), .unset, .unset, .unset, .unset, .unset, .unset, .unset, .unset, .unset, .unset] [(.int (1 : Int32))])) (fun _ ks_ => XS.iconst X200.here hx rfl (hb hby at_131) ks_) ?_
    refine go (u' := T200.setTop (mkF m 136 #[.val (.int p0), .val (.int p1), .val (.int p2), .val (.int p3), .val (.int p4), .val (.long q5), .second, .val (.ref b1), .val (.ref b22), .val (.ref r125), .val (.ref r142), .val (.ref r160), .val (.int (0 : Int32)), .val (.int (1 : Int32)), .val (.int (2 : Int32)), .unset, .unset, .unset, .unset, .unset, .unset, .unset, .unset, .unset, .unset] [(.int (1 : Int32))])) (fun _ ks_ => XS.goto X200.here hx rfl (pc0 := 132) (pc' := 136) rfl (hb hby at_132) (by decide) (by decide) ks_) ?_
    refine go (u' := T200.setTop (mkF m 138 #[.val (.int p0), .val (.int p1), .val (.int p2), .val (.int p3), .val (.int p4), .val (.long q5), .second, .val (.ref b1), .val (.ref b22), .val (.ref r125), .val (.ref r142), .val (.ref r160), .val (.int (0 : Int32)), .val (.int (1 : Int32)), .val (.int (2 : Int32)), .val (.int (1 : Int32)), .unset, .unset, .unset, .unset, .unset, .unset, .unset, .unset, .unset] [])) (fun _ ks_ => XS.istore X200.here hx rfl (hb hby at_136) rfl  (l' := #[.val (.int p0), .val (.int p1), .val (.int p2), .val (.int p3), .val (.int p4), .val (.long q5), .second, .val (.ref b1), .val (.ref b22), .val (.ref r125), .val (.ref r142), .val (.ref r160), .val (.int (0 : Int32)), .val (.int (1 : Int32)), .val (.int (2 : Int32)), .val (.int (1 : Int32)), .unset, .unset, .unset, .unset, .unset, .unset, .unset, .unset, .unset]) rfl ks_) ?_
    refine go (u' := T200.setTop (mkF m 139 #[.val (.int p0), .val (.int p1), .val (.int p2), .val (.int p3), .val (.int p4), .val (.long q5), .second, .val (.ref b1), .val (.ref b22), .val (.ref r125), .val (.ref r142), .val (.ref r160), .val (.int (0 : Int32)), .val (.int (1 : Int32)), .val (.int (2 : Int32)), .val (.int (1 : Int32)), .unset, .unset, .unset, .unset, .unset, .unset, .unset, .unset, .unset] [(.int p1)])) (fun _ ks_ => XS.iloadN X200.here hx rfl (hb hby at_138) rfl  ks_) ?_
    refine go (u' := T200.setTop (mkF m 141 #[.val (.int p0), .val (.int p1), .val (.int p2), .val (.int p3), .val (.int p4), .val (.long q5), .second, .val (.ref b1), .val (.ref b22), .val (.ref r125), .val (.ref r142), .val (.ref r160), .val (.int (0 : Int32)), .val (.int (1 : Int32)), .val (.int (2 : Int32)), .val (.int (1 : Int32)), .unset, .unset, .unset, .unset, .unset, .unset, .unset, .unset, .unset] [(.int (2147483647 : Int32)), (.int p1)])) (X200.ldcInt hx hown (mvT hZ (ww hw 96 rfl)) (g := (mkF m 139 #[.val (.int p0), .val (.int p1), .val (.int p2), .val (.int p3), .val (.int p4), .val (.long q5), .second, .val (.ref b1), .val (.ref b22), .val (.ref r125), .val (.ref r142), .val (.ref r160), .val (.int (0 : Int32)), .val (.int (1 : Int32)), .val (.int (2 : Int32)), .val (.int (1 : Int32)), .unset, .unset, .unset, .unset, .unset, .unset, .unset, .unset, .unset] [(.int p1)])) rfl (hb hby at_139)) ?_
    refine go (u' := T200.setTop (mkF m 142 #[.val (.int p0), .val (.int p1), .val (.int p2), .val (.int p3), .val (.int p4), .val (.long q5), .second, .val (.ref b1), .val (.ref b22), .val (.ref r125), .val (.ref r142), .val (.ref r160), .val (.int (0 : Int32)), .val (.int (1 : Int32)), .val (.int (2 : Int32)), .val (.int (1 : Int32)), .unset, .unset, .unset, .unset, .unset, .unset, .unset, .unset, .unset] [(.int (p1 &&& (2147483647 : Int32)))])) (fun _ ks_ => XS.iand X200.here hx rfl (hb hby at_141) rfl ks_) ?_
    refine go (u' := T200.setTop (mkF m 143 #[.val (.int p0), .val (.int p1), .val (.int p2), .val (.int p3), .val (.int p4), .val (.long q5), .second, .val (.ref b1), .val (.ref b22), .val (.ref r125), .val (.ref r142), .val (.ref r160), .val (.int (0 : Int32)), .val (.int (1 : Int32)), .val (.int (2 : Int32)), .val (.int (1 : Int32)), .unset, .unset, .unset, .unset, .unset, .unset, .unset, .unset, .unset] [(.int (3 : Int32)), (.int (p1 &&& (2147483647 : Int32)))])) (fun _ ks_ => XS.iconst X200.here hx rfl (hb hby at_142) ks_) ?_
    refine go (u' := T200.setTop (mkF m 144 #[.val (.int p0), .val (.int p1), .val (.int p2), .val (.int p3), .val (.int p4), .val (.long q5), .second, .val (.ref b1), .val (.ref b22), .val (.ref r125), .val (.ref r142), .val (.ref r160), .val (.int (0 : Int32)), .val (.int (1 : Int32)), .val (.int (2 : Int32)), .val (.int (1 : Int32)), .unset, .unset, .unset, .unset, .unset, .unset, .unset, .unset, .unset] [(.int ((p1 &&& (2147483647 : Int32)) % (3 : Int32)))])) (fun _ ks_ => iremM (g := (mkF m 143 #[.val (.int p0), .val (.int p1), .val (.int p2), .val (.int p3), .val (.int p4), .val (.long q5), .second, .val (.ref b1), .val (.ref b22), .val (.ref r125), .val (.ref r142), .val (.ref r160), .val (.int (0 : Int32)), .val (.int (1 : Int32)), .val (.int (2 : Int32)), .val (.int (1 : Int32)), .unset, .unset, .unset, .unset, .unset, .unset, .unset, .unset, .unset] [(.int (3 : Int32)), (.int (p1 &&& (2147483647 : Int32)))])) X200 hx rfl (hb hby at_143) rfl (by decide) ks_) ?_
    refine go (u' := T200.setTop (mkF m 146 #[.val (.int p0), .val (.int p1), .val (.int p2), .val (.int p3), .val (.int p4), .val (.long q5), .second, .val (.ref b1), .val (.ref b22), .val (.ref r125), .val (.ref r142), .val (.ref r160), .val (.int (0 : Int32)), .val (.int (1 : Int32)), .val (.int (2 : Int32)), .val (.int (1 : Int32)), .val (.int ((p1 &&& (2147483647 : Int32)) % (3 : Int32))), .unset, .unset, .unset, .unset, .unset, .unset, .unset, .unset] [])) (fun _ ks_ => XS.istore X200.here hx rfl (hb hby at_144) rfl  (l' := #[.val (.int p0), .val (.int p1), .val (.int p2), .val (.int p3), .val (.int p4), .val (.long q5), .second, .val (.ref b1), .val (.ref b22), .val (.ref r125), .val (.ref r142), .val (.ref r160), .val (.int (0 : Int32)), .val (.int (1 : Int32)), .val (.int (2 : Int32)), .val (.int (1 : Int32)), .val (.int ((p1 &&& (2147483647 : Int32)) % (3 : Int32))), .unset, .unset, .unset, .unset, .unset, .unset, .unset, .unset]) rfl ks_) ?_
    obtain ⟨ia, hia⟩ : ∃ z, z = ((p1 &&& (2147483647 : Int32)) % (3 : Int32)) := ⟨_, rfl⟩
    rw [← hia]
    refine go (u' := T200.setTop (mkF m 148 #[.val (.int p0), .val (.int p1), .val (.int p2), .val (.int p3), .val (.int p4), .val (.long q5), .second, .val (.ref b1), .val (.ref b22), .val (.ref r125), .val (.ref r142), .val (.ref r160), .val (.int (0 : Int32)), .val (.int (1 : Int32)), .val (.int (2 : Int32)), .val (.int (1 : Int32)), .val (.int ia), .unset, .unset, .unset, .unset, .unset, .unset, .unset, .unset] [(.int ia)])) (fun _ ks_ => XS.iload X200.here hx rfl (hb hby at_146) rfl  ks_) ?_
    refine go (u' := T200.setTop (mkF m 149 #[.val (.int p0), .val (.int p1), .val (.int p2), .val (.int p3), .val (.int p4), .val (.long q5), .second, .val (.ref b1), .val (.ref b22), .val (.ref r125), .val (.ref r142), .val (.ref r160), .val (.int (0 : Int32)), .val (.int (1 : Int32)), .val (.int (2 : Int32)), .val (.int (1 : Int32)), .val (.int ia), .unset, .unset, .unset, .unset, .unset, .unset, .unset, .unset] [(.int (1 : Int32)), (.int ia)])) (fun _ ks_ => XS.iconst X200.here hx rfl (hb hby at_148) ks_) ?_
    refine go (u' := T200.setTop (mkF m 150 #[.val (.int p0), .val (.int p1), .val (.int p2), .val (.int p3), .val (.int p4), .val (.long q5), .second, .val (.ref b1), .val (.ref b22), .val (.ref r125), .val (.ref r142), .val (.ref r160), .val (.int (0 : Int32)), .val (.int (1 : Int32)), .val (.int (2 : Int32)), .val (.int (1 : Int32)), .val (.int ia), .unset, .unset, .unset, .unset, .unset, .unset, .unset, .unset] [(.int (ia + (1 : Int32)))])) (fun _ ks_ => XS.iadd X200.here hx rfl (hb hby at_149) rfl ks_) ?_
    refine go (u' := T200.setTop (mkF m 151 #[.val (.int p0), .val (.int p1), .val (.int p2), .val (.int p3), .val (.int p4), .val (.long q5), .second, .val (.ref b1), .val (.ref b22), .val (.ref r125), .val (.ref r142), .val (.ref r160), .val (.int (0 : Int32)), .val (.int (1 : Int32)), .val (.int (2 : Int32)), .val (.int (1 : Int32)), .val (.int ia), .unset, .unset, .unset, .unset, .unset, .unset, .unset, .unset] [(.int p2), (.int (ia + (1 : Int32)))])) (fun _ ks_ => XS.iloadN X200.here hx rfl (hb hby at_150) rfl  ks_) ?_
    refine go (u' := T200.setTop (mkF m 152 #[.val (.int p0), .val (.int p1), .val (.int p2), .val (.int p3), .val (.int p4), .val (.long q5), .second, .val (.ref b1), .val (.ref b22), .val (.ref r125), .val (.ref r142), .val (.ref r160), .val (.int (0 : Int32)), .val (.int (1 : Int32)), .val (.int (2 : Int32)), .val (.int (1 : Int32)), .val (.int ia), .unset, .unset, .unset, .unset, .unset, .unset, .unset, .unset] [(.int (1 : Int32)), (.int p2), (.int (ia + (1 : Int32)))])) (fun _ ks_ => XS.iconst X200.here hx rfl (hb hby at_151) ks_) ?_
    refine go (u' := T200.setTop (mkF m 153 #[.val (.int p0), .val (.int p1), .val (.int p2), .val (.int p3), .val (.int p4), .val (.long q5), .second, .val (.ref b1), .val (.ref b22), .val (.ref r125), .val (.ref r142), .val (.ref r160), .val (.int (0 : Int32)), .val (.int (1 : Int32)), .val (.int (2 : Int32)), .val (.int (1 : Int32)), .val (.int ia), .unset, .unset, .unset, .unset, .unset, .unset, .unset, .unset] [(.int (p2 &&& (1 : Int32))), (.int (ia + (1 : Int32)))])) (fun _ ks_ => XS.iand X200.here hx rfl (hb hby at_152) rfl ks_) ?_
    refine go (u' := T200.setTop (mkF m 154 #[.val (.int p0), .val (.int p1), .val (.int p2), .val (.int p3), .val (.int p4), .val (.long q5), .second, .val (.ref b1), .val (.ref b22), .val (.ref r125), .val (.ref r142), .val (.ref r160), .val (.int (0 : Int32)), .val (.int (1 : Int32)), .val (.int (2 : Int32)), .val (.int (1 : Int32)), .val (.int ia), .unset, .unset, .unset, .unset, .unset, .unset, .unset, .unset] [(.int ((ia + (1 : Int32)) + (p2 &&& (1 : Int32))))])) (fun _ ks_ => XS.iadd X200.here hx rfl (hb hby at_153) rfl ks_) ?_
    refine go (u' := T200.setTop (mkF m 155 #[.val (.int p0), .val (.int p1), .val (.int p2), .val (.int p3), .val (.int p4), .val (.long q5), .second, .val (.ref b1), .val (.ref b22), .val (.ref r125), .val (.ref r142), .val (.ref r160), .val (.int (0 : Int32)), .val (.int (1 : Int32)), .val (.int (2 : Int32)), .val (.int (1 : Int32)), .val (.int ia), .unset, .unset, .unset, .unset, .unset, .unset, .unset, .unset] [(.int (3 : Int32)), (.int ((ia + (1 : Int32)) + (p2 &&& (1 : Int32))))])) (fun _ ks_ => XS.iconst X200.here hx rfl (hb hby at_154) ks_) ?_
    refine go (u' := T200.setTop (mkF m 156 #[.val (.int p0), .val (.int p1), .val (.int p2), .val (.int p3), .val (.int p4), .val (.long q5), .second, .val (.ref b1), .val (.ref b22), .val (.ref r125), .val (.ref r142), .val (.ref r160), .val (.int (0 : Int32)), .val (.int (1 : Int32)), .val (.int (2 : Int32)), .val (.int (1 : Int32)), .val (.int ia), .unset, .unset, .unset, .unset, .unset, .unset, .unset, .unset] [(.int (((ia + (1 : Int32)) + (p2 &&& (1 : Int32))) % (3 : Int32)))])) (fun _ ks_ => iremM (g := (mkF m 155 #[.val (.int p0), .val (.int p1), .val (.int p2), .val (.int p3), .val (.int p4), .val (.long q5), .second, .val (.ref b1), .val (.ref b22), .val (.ref r125), .val (.ref r142), .val (.ref r160), .val (.int (0 : Int32)), .val (.int (1 : Int32)), .val (.int (2 : Int32)), .val (.int (1 : Int32)), .val (.int ia), .unset, .unset, .unset, .unset, .unset, .unset, .unset, .unset] [(.int (3 : Int32)), (.int ((ia + (1 : Int32)) + (p2 &&& (1 : Int32))))])) X200 hx rfl (hb hby at_155) rfl (by decide) ks_) ?_
    refine go (u' := T200.setTop (mkF m 158 #[.val (.int p0), .val (.int p1), .val (.int p2), .val (.int p3), .val (.int p4), .val (.long q5), .second, .val (.ref b1), .val (.ref b22), .val (.ref r125), .val (.ref r142), .val (.ref r160), .val (.int (0 : Int32)), .val (.int (1 : Int32)), .val (.int (2 : Int32)), .val (.int (1 : Int32)), .val (.int ia), .val (.int (((ia + (1 : Int32)) + (p2 &&& (1 : Int32))) % (3 : Int32))), .unset, .unset, .unset, .unset, .unset, .unset, .unset] [])) (fun _ ks_ => XS.istore X200.here hx rfl (hb hby at_156) rfl  (l' := #[.val (.int p0), .val (.int p1), .val (.int p2), .val (.int p3), .val (.int p4), .val (.long q5), .second, .val (.ref b1), .val (.ref b22), .val (.ref r125), .val (.ref r142), .val (.ref r160), .val (.int (0 : Int32)), .val (.int (1 : Int32)), .val (.int (2 : Int32)), .val (.int (1 : Int32)), .val (.int ia), .val (.int (((ia + (1 : Int32)) + (p2 &&& (1 : Int32))) % (3 : Int32))), .unset, .unset, .unset, .unset, .unset, .unset, .unset]) rfl ks_) ?_
    obtain ⟨ja, hja⟩ : ∃ z, z = (((ia + (1 : Int32)) + (p2 &&& (1 : Int32))) % (3 : Int32)) := ⟨_, rfl⟩
    rw [← hja]
    refine go (u' := T200.setTop (mkF m 159 #[.val (.int p0), .val (.int p1), .val (.int p2), .val (.int p3), .val (.int p4), .val (.long q5), .second, .val (.ref b1), .val (.ref b22), .val (.ref r125), .val (.ref r142), .val (.ref r160), .val (.int (0 : Int32)), .val (.int (1 : Int32)), .val (.int (2 : Int32)), .val (.int (1 : Int32)), .val (.int ia), .val (.int ja), .unset, .unset, .unset, .unset, .unset, .unset, .unset] [(.int (3 : Int32))])) (fun _ ks_ => XS.iconst X200.here hx rfl (hb hby at_158) ks_) ?_
    refine go (u' := T200.setTop (mkF m 161 #[.val (.int p0), .val (.int p1), .val (.int p2), .val (.int p3), .val (.int p4), .val (.long q5), .second, .val (.ref b1), .val (.ref b22), .val (.ref r125), .val (.ref r142), .val (.ref r160), .val (.int (0 : Int32)), .val (.int (1 : Int32)), .val (.int (2 : Int32)), .val (.int (1 : Int32)), .val (.int ia), .val (.int ja), .unset, .unset, .unset, .unset, .unset, .unset, .unset] [(.int ia), (.int (3 : Int32))])) (fun _ ks_ => XS.iload X200.here hx rfl (hb hby at_159) rfl  ks_) ?_
    refine go (u' := T200.setTop (mkF m 162 #[.val (.int p0), .val (.int p1), .val (.int p2), .val (.int p3), .val (.int p4), .val (.long q5), .second, .val (.ref b1), .val (.ref b22), .val (.ref r125), .val (.ref r142), .val (.ref r160), .val (.int (0 : Int32)), .val (.int (1 : Int32)), .val (.int (2 : Int32)), .val (.int (1 : Int32)), .val (.int ia), .val (.int ja), .unset, .unset, .unset, .unset, .unset, .unset, .unset] [(.int ((3 : Int32) - ia))])) (fun _ ks_ => XS.isub X200.here hx rfl (hb hby at_161) rfl ks_) ?_
    refine go (u' := T200.setTop (mkF m 164 #[.val (.int p0), .val (.int p1), .val (.int p2), .val (.int p3), .val (.int p4), .val (.long q5), .second, .val (.ref b1), .val (.ref b22), .val (.ref r125), .val (.ref r142), .val (.ref r160), .val (.int (0 : Int32)), .val (.int (1 : Int32)), .val (.int (2 : Int32)), .val (.int (1 : Int32)), .val (.int ia), .val (.int ja), .unset, .unset, .unset, .unset, .unset, .unset, .unset] [(.int ja), (.int ((3 : Int32) - ia))])) (fun _ ks_ => XS.iload X200.here hx rfl (hb hby at_162) rfl  ks_) ?_
    refine go (u' := T200.setTop (mkF m 165 #[.val (.int p0), .val (.int p1), .val (.int p2), .val (.int p3), .val (.int p4), .val (.long q5), .second, .val (.ref b1), .val (.ref b22), .val (.ref r125), .val (.ref r142), .val (.ref r160), .val (.int (0 : Int32)), .val (.int (1 : Int32)), .val (.int (2 : Int32)), .val (.int (1 : Int32)), .val (.int ia), .val (.int ja), .unset, .unset, .unset, .unset, .unset, .unset, .unset] [(.int (((3 : Int32) - ia) - ja))])) (fun _ ks_ => XS.isub X200.here hx rfl (hb hby at_164) rfl ks_) ?_
    refine go (u' := T200.setTop (mkF m 167 #[.val (.int p0), .val (.int p1), .val (.int p2), .val (.int p3), .val (.int p4), .val (.long q5), .second, .val (.ref b1), .val (.ref b22), .val (.ref r125), .val (.ref r142), .val (.ref r160), .val (.int (0 : Int32)), .val (.int (1 : Int32)), .val (.int (2 : Int32)), .val (.int (1 : Int32)), .val (.int ia), .val (.int ja), .val (.int (((3 : Int32) - ia) - ja)), .unset, .unset, .unset, .unset, .unset, .unset] [])) (fun _ ks_ => XS.istore X200.here hx rfl (hb hby at_165) rfl  (l' := #[.val (.int p0), .val (.int p1), .val (.int p2), .val (.int p3), .val (.int p4), .val (.long q5), .second, .val (.ref b1), .val (.ref b22), .val (.ref r125), .val (.ref r142), .val (.ref r160), .val (.int (0 : Int32)), .val (.int (1 : Int32)), .val (.int (2 : Int32)), .val (.int (1 : Int32)), .val (.int ia), .val (.int ja), .val (.int (((3 : Int32) - ia) - ja)), .unset, .unset, .unset, .unset, .unset, .unset]) rfl ks_) ?_
    obtain ⟨ka, hka⟩ : ∃ z, z = (((3 : Int32) - ia) - ja) := ⟨_, rfl⟩
    rw [← hka]
    have hI : Ijk ia ja ka := own_ijk hia hja hka
    refine go (u' := T200.setTop (mkF m 168 #[.val (.int p0), .val (.int p1), .val (.int p2), .val (.int p3), .val (.int p4), .val (.long q5), .second, .val (.ref b1), .val (.ref b22), .val (.ref r125), .val (.ref r142), .val (.ref r160), .val (.int (0 : Int32)), .val (.int (1 : Int32)), .val (.int (2 : Int32)), .val (.int (1 : Int32)), .val (.int ia), .val (.int ja), .val (.int ka), .unset, .unset, .unset, .unset, .unset, .unset] [(.int p3)])) (fun _ ks_ => XS.iloadN X200.here hx rfl (hb hby at_167) rfl  ks_) ?_
    refine go (u' := T200.setTop (mkF m 169 #[.val (.int p0), .val (.int p1), .val (.int p2), .val (.int p3), .val (.int p4), .val (.long q5), .second, .val (.ref b1), .val (.ref b22), .val (.ref r125), .val (.ref r142), .val (.ref r160), .val (.int (0 : Int32)), .val (.int (1 : Int32)), .val (.int (2 : Int32)), .val (.int (1 : Int32)), .val (.int ia), .val (.int ja), .val (.int ka), .unset, .unset, .unset, .unset, .unset, .unset] [(.int (1 : Int32)), (.int p3)])) (fun _ ks_ => XS.iconst X200.here hx rfl (hb hby at_168) ks_) ?_
    refine go (u' := T200.setTop (mkF m 170 #[.val (.int p0), .val (.int p1), .val (.int p2), .val (.int p3), .val (.int p4), .val (.long q5), .second, .val (.ref b1), .val (.ref b22), .val (.ref r125), .val (.ref r142), .val (.ref r160), .val (.int (0 : Int32)), .val (.int (1 : Int32)), .val (.int (2 : Int32)), .val (.int (1 : Int32)), .val (.int ia), .val (.int ja), .val (.int ka), .unset, .unset, .unset, .unset, .unset, .unset] [(.int (p3 &&& (1 : Int32)))])) (fun _ ks_ => XS.iand X200.here hx rfl (hb hby at_169) rfl ks_) ?_
    by_cases c170_1 : (p3 &&& (1 : Int32)) = (0 : Int32)
    ·
      refine go (u' := T200.setTop (mkF m 177 #[.val (.int p0), .val (.int p1), .val (.int p2), .val (.int p3), .val (.int p4), .val (.long q5), .second, .val (.ref b1), .val (.ref b22), .val (.ref r125), .val (.ref r142), .val (.ref r160), .val (.int (0 : Int32)), .val (.int (1 : Int32)), .val (.int (2 : Int32)), .val (.int (1 : Int32)), .val (.int ia), .val (.int ja), .val (.int ka), .unset, .unset, .unset, .unset, .unset, .unset] [])) (fun _ ks_ => XS.ifYes X200.here hx rfl (pc0 := 170) (pc' := 177) rfl (hb hby at_170) rfl ((if0 _ _).trans (teq c170_1).1) (by decide) (by decide) ks_) ?_
      refine go (u' := T200.setTop (mkF m 178 #[.val (.int p0), .val (.int p1), .val (.int p2), .val (.int p3), .val (.int p4), .val (.long q5), .second, .val (.ref b1), .val (.ref b22), .val (.ref r125), .val (.ref r142), .val (.ref r160), .val (.int (0 : Int32)), .val (.int (1 : Int32)), .val (.int (2 : Int32)), .val (.int (1 : Int32)), .val (.int ia), .val (.int ja), .val (.int ka), .unset, .unset, .unset, .unset, .unset, .unset] [(.int (0 : Int32))])) (fun _ ks_ => XS.iconst X200.here hx rfl (hb hby at_177) ks_) ?_
      refine go (u' := T200.setTop (mkF m 180 #[.val (.int p0), .val (.int p1), .val (.int p2), .val (.int p3), .val (.int p4), .val (.long q5), .second, .val (.ref b1), .val (.ref b22), .val (.ref r125), .val (.ref r142), .val (.ref r160), .val (.int (0 : Int32)), .val (.int (1 : Int32)), .val (.int (2 : Int32)), .val (.int (1 : Int32)), .val (.int ia), .val (.int ja), .val (.int ka), .val (.int (0 : Int32)), .unset, .unset, .unset, .unset, .unset] [])) (fun _ ks_ => XS.istore X200.here hx rfl (hb hby at_178) rfl  (l' := #[.val (.int p0), .val (.int p1), .val (.int p2), .val (.int p3), .val (.int p4), .val (.long q5), .second, .val (.ref b1), .val (.ref b22), .val (.ref r125), .val (.ref r142), .val (.ref r160), .val (.int (0 : Int32)), .val (.int (1 : Int32)), .val (.int (2 : Int32)), .val (.int (1 : Int32)), .val (.int ia), .val (.int ja), .val (.int ka), .val (.int (0 : Int32)), .unset, .unset, .unset, .unset, .unset]) rfl ks_) ?_
      refine go (u' := T200.setTop (mkF m 182 #[.val (.int p0), .val (.int p1), .val (.int p2), .val (.int p3), .val (.int p4), .val (.long q5), .second, .val (.ref b1), .val (.ref b22), .val (.ref r125), .val (.ref r142), .val (.ref r160), .val (.int (0 : Int32)), .val (.int (1 : Int32)), .val (.int (2 : Int32)), .val (.int (1 : Int32)), .val (.int ia), .val (.int ja), .val (.int ka), .val (.int (0 : Int32)), .unset, .unset, .unset, .unset, .unset] [(.ref b1)])) (fun _ ks_ => XS.aload X200.here hx rfl (hb hby at_180) rfl rfl ks_) ?_
      refine go (u' := T200.setTop (mkF m 183 #[.val (.int p0), .val (.int p1), .val (.int p2), .val (.int p3), .val (.int p4), .val (.long q5), .second, .val (.ref b1), .val (.ref b22), .val (.ref r125), .val (.ref r142), .val (.ref r160), .val (.int (0 : Int32)), .val (.int (1 : Int32)), .val (.int (2 : Int32)), .val (.int (1 : Int32)), .val (.int ia), .val (.int ja), .val (.int ka), .val (.int (0 : Int32)), .unset, .unset, .unset, .unset, .unset] [(.int (0 : Int32)), (.ref b1)])) (fun _ ks_ => XS.iconst X200.here hx rfl (hb hby at_182) ks_) ?_
      refine go (u' := T200.setTop (mkF m 185 #[.val (.int p0), .val (.int p1), .val (.int p2), .val (.int p3), .val (.int p4), .val (.long q5), .second, .val (.ref b1), .val (.ref b22), .val (.ref r125), .val (.ref r142), .val (.ref r160), .val (.int (0 : Int32)), .val (.int (1 : Int32)), .val (.int (2 : Int32)), .val (.int (1 : Int32)), .val (.int ia), .val (.int ja), .val (.int ka), .val (.int (0 : Int32)), .unset, .unset, .unset, .unset, .unset] [(.int ia), (.int (0 : Int32)), (.ref b1)])) (fun _ ks_ => XS.iload X200.here hx rfl (hb hby at_183) rfl  ks_) ?_
      refine go (u' := T200.setTop (mkF m 187 #[.val (.int p0), .val (.int p1), .val (.int p2), .val (.int p3), .val (.int p4), .val (.long q5), .second, .val (.ref b1), .val (.ref b22), .val (.ref r125), .val (.ref r142), .val (.ref r160), .val (.int (0 : Int32)), .val (.int (1 : Int32)), .val (.int (2 : Int32)), .val (.int (1 : Int32)), .val (.int ia), .val (.int ja), .val (.int ka), .val (.int (0 : Int32)), .unset, .unset, .unset, .unset, .unset] [(.int p4), (.int ia), (.int (0 : Int32)), (.ref b1)])) (fun _ ks_ => XS.iload X200.here hx rfl (hb hby at_185) rfl  ks_) ?_
      obtain ⟨cq201, kq201, q201a, q201b, q201c⟩ := isOf hZ e200 F200_0
      obtain ⟨_, _, ⟨T201, L201, k201, n201⟩, -, X201, ⟨Lc201, hQ201, l201, y201, z201⟩, st201⟩ := X200.virtualBack hx (y := (⟨"com/example/emberlot/emberlot/Slots", "set", "(III)V"⟩ : MethodName)) (z := (⟨"com/example/emberlot/emberlot/Slots", "set", "(III)V"⟩ : MethodName)) hown (mvT hZ (ww hw 97 rfl)) (mvT hZ (ww hw 98 rfl)) (notFace_of_selects (args := #[]) (mvT hZ (ww hw 100 rfl))) (mvT hZ (ww hw 100 rfl)) (mvT hZ (ww hw 99 rfl)) (by decide) (backOf (W := 0) (rm14 l Z a0 hw [] b1 ia p4 na_ pa10 xa10 ca10 af_ fa.toNatClampNeg n_ ln_ nd_ gs_ E10 (-1 : Int32) (3 : Int32) h200 n0 Z200 F200_0 F200_9 F200_10 F200_11 F200_12 F200_13 F200_14 F200_15 F200_16 hR.2.1 (own_j3 hI.1 hR.1.1)) hZ (ww hw 101 rfl) (ww hw 2 rfl) (by decide) (by decide)) q201a q201c (g := (mkF m 187 #[.val (.int p0), .val (.int p1), .val (.int p2), .val (.int p3), .val (.int p4), .val (.long q5), .second, .val (.ref b1), .val (.ref b22), .val (.ref r125), .val (.ref r142), .val (.ref r160), .val (.int (0 : Int32)), .val (.int (1 : Int32)), .val (.int (2 : Int32)), .val (.int (1 : Int32)), .val (.int ia), .val (.int ja), .val (.int ka), .val (.int (0 : Int32)), .unset, .unset, .unset, .unset, .unset] [(.int p4), (.int ia), (.int (0 : Int32)), (.ref b1)])) rfl (by rw [hml]; rfl) (Steps.refl _) (argsL := [(.int (0 : Int32)), (.int ia), (.int p4)]) (rest := []) (lenOf pd__40_III_41_V rfl) rfl (by show 2 * 0 + _ ≤ _; exact Nat.le_of_eq rfl) (hb hby at_187) (fun _ _ => ⟨rfl, e200, (by decide : 44 + 0 ≤ _), (by decide : 348 + 0 ≤ _)⟩)
      dsimp only [Pt.U, Pt.locs, Pt.cells, Pt.slots] at X201 l201 y201 z201 st201 hQ201
      subst l201 y201 z201
      obtain ⟨rfl, N201q, Kq201, Fa202, Fa203, Fa204, Fa205, Fa206, Fa207, Fa208, Fa209, Fa210⟩ := hQ201
      have N201 := Fr.app N200 N201q
      have K201 : Keep h0 T201.heap [] := K200.trans Kq201 (own_WlLo F200_16 hn0)
      have Z201 : n0 ≤ T201.heap.size := Nat.le_trans Z200 Kq201.1
      have Fa211 : Exa Z T201.heap b1 "com/example/emberlot/emberlot/Slots" := F200_0.keep Kq201
      have Fa212 : PR Z T201.heap b22 (.object "java/lang/Object") "java/lang/Object" 3 (fun u => Value.ref (oad r34 r62 r92 u)) := F200_1.keep Kq201 (own_nW hno3)
      have Fa213 : Exa Z T201.heap b22 "[Ljava/lang/Object;" := F200_2.keep Kq201
      have Fa214 : Exa Z T201.heap r34 "java/lang/Integer" := F200_3.keep Kq201
      have Fa215 : Exa Z T201.heap r62 "java/lang/Integer" := F200_4.keep Kq201
      have Fa216 : Exa Z T201.heap r92 "java/lang/Integer" := F200_5.keep Kq201
      have Fa217 : Exa Z T201.heap r125 "java/lang/Integer" := F200_6.keep Kq201
      have Fa218 : Exa Z T201.heap r142 "java/lang/Integer" := F200_7.keep Kq201
      have Fa219 : Exa Z T201.heap r160 "java/lang/Integer" := F200_8.keep Kq201
      refine goT (u' := T201.setTop (mkF m 190 #[.val (.int p0), .val (.int p1), .val (.int p2), .val (.int p3), .val (.int p4), .val (.long q5), .second, .val (.ref b1), .val (.ref b22), .val (.ref r125), .val (.ref r142), .val (.ref r160), .val (.int (0 : Int32)), .val (.int (1 : Int32)), .val (.int (2 : Int32)), .val (.int (1 : Int32)), .val (.int ia), .val (.int ja), .val (.int ka), .val (.int (0 : Int32)), .unset, .unset, .unset, .unset, .unset] [])) st201 ?_
      refine go (u' := T201.setTop (mkF m 192 #[.val (.int p0), .val (.int p1), .val (.int p2), .val (.int p3), .val (.int p4), .val (.long q5), .second, .val (.ref b1), .val (.ref b22), .val (.ref r125), .val (.ref r142), .val (.ref r160), .val (.int (0 : Int32)), .val (.int (1 : Int32)), .val (.int (2 : Int32)), .val (.int (1 : Int32)), .val (.int ia), .val (.int ja), .val (.int ka), .val (.int (0 : Int32)), .unset, .unset, .unset, .unset, .unset] [(.ref b1)])) (fun _ ks_ => XS.aload X201.here hx rfl (hb hby at_190) rfl rfl ks_) ?_
      refine go (u' := T201.setTop (mkF m 194 #[.val (.int p0), .val (.int p1), .val (.int p2), .val (.int p3), .val (.int p4), .val (.long q5), .second, .val (.ref b1), .val (.ref b22), .val (.ref r125), .val (.ref r142), .val (.ref r160), .val (.int (0 : Int32)), .val (.int (1 : Int32)), .val (.int (2 : Int32)), .val (.int (1 : Int32)), .val (.int ia), .val (.int ja), .val (.int ka), .val (.int (0 : Int32)), .unset, .unset, .unset, .unset, .unset] [(.int ia), (.ref b1)])) (fun _ ks_ => XS.iload X201.here hx rfl (hb hby at_192) rfl  ks_) ?_
      obtain ⟨cq220, kq220, q220a, q220b, q220c⟩ := isOf hZ (rfl : T201.heap = _) Fa202
      obtain ⟨_, _, ⟨T220, L220, k220, n220⟩, -, X220, ⟨Lc220, hQ220, l220, y220, z220⟩, st220⟩ := X201.virtualBack hx (y := (⟨"com/example/emberlot/emberlot/Slots", "remove", "(I)V"⟩ : MethodName)) (z := (⟨"com/example/emberlot/emberlot/Slots", "remove", "(I)V"⟩ : MethodName)) hown (mvT hZ (ww hw 102 rfl)) (mvT hZ (ww hw 103 rfl)) (notFace_of_selects (args := #[]) (mvT hZ (ww hw 105 rfl))) (mvT hZ (ww hw 105 rfl)) (mvT hZ (ww hw 104 rfl)) (by decide) (backOf (W := 0) (rm15 l Z a0 hw [] b1 ia na_ pa10 xa10 ca10 af_ fa.toNatClampNeg n_ ln_ nd_ (upd gs_ 0 (upd (gs_ 0) (ia).toNatClampNeg p4)) E10 (-1 : Int32) (3 : Int32) T201.heap n0 Z201 Fa202 Fa203 Fa204 Fa205 Fa206 Fa207 Fa208 Fa209 Fa210 hR.2.1 (own_j3 hI.1 hR.1.1)) hZ (ww hw 106 rfl) (ww hw 2 rfl) (by decide) (by decide)) q220a q220c (g := (mkF m 194 #[.val (.int p0), .val (.int p1), .val (.int p2), .val (.int p3), .val (.int p4), .val (.long q5), .second, .val (.ref b1), .val (.ref b22), .val (.ref r125), .val (.ref r142), .val (.ref r160), .val (.int (0 : Int32)), .val (.int (1 : Int32)), .val (.int (2 : Int32)), .val (.int (1 : Int32)), .val (.int ia), .val (.int ja), .val (.int ka), .val (.int (0 : Int32)), .unset, .unset, .unset, .unset, .unset] [(.int ia), (.ref b1)])) rfl (by rw [hml]; rfl) (Steps.refl _) (argsL := [(.int ia)]) (rest := []) (lenOf pd__40_I_41_V rfl) rfl (by show 2 * 0 + _ ≤ _; exact Nat.le_of_eq rfl) (hb hby at_194) (fun _ _ => ⟨rfl, (rfl : T201.heap = _), (by decide : 44 + 0 ≤ _), (by decide : 348 + 0 ≤ _)⟩)
      dsimp only [Pt.U, Pt.locs, Pt.cells, Pt.slots] at X220 l220 y220 z220 st220 hQ220
      subst l220 y220 z220
      obtain ⟨rfl, N220q, Kq220, Fa221, Fa222, Fa223, Fa224, Fa225, Fa226, Fa227, Fa228, Fa229⟩ := hQ220
      have N220 := Fr.app N201 N220q
      have K220 : Keep h0 T220.heap [] := K201.trans Kq220 (own_WlLo Fa210 hn0)
      have Z220 : n0 ≤ T220.heap.size := Nat.le_trans Z201 Kq220.1
      have Fa230 : Exa Z T220.heap b1 "com/example/emberlot/emberlot/Slots" := Fa202.keep Kq220
      have Fa231 : PR Z T220.heap b22 (.object "java/lang/Object") "java/lang/Object" 3 (fun u => Value.ref (oad r34 r62 r92 u)) := Fa212.keep Kq220 (own_nW hno3)
      have Fa232 : Exa Z T220.heap b22 "[Ljava/lang/Object;" := Fa213.keep Kq220
      have Fa233 : Exa Z T220.heap r34 "java/lang/Integer" := Fa214.keep Kq220
      have Fa234 : Exa Z T220.heap r62 "java/lang/Integer" := Fa215.keep Kq220
      have Fa235 : Exa Z T220.heap r92 "java/lang/Integer" := Fa216.keep Kq220
      have Fa236 : Exa Z T220.heap r125 "java/lang/Integer" := Fa217.keep Kq220
      have Fa237 : Exa Z T220.heap r142 "java/lang/Integer" := Fa218.keep Kq220
      have Fa238 : Exa Z T220.heap r160 "java/lang/Integer" := Fa219.keep Kq220
      refine goT (u' := T220.setTop (mkF m 197 #[.val (.int p0), .val (.int p1), .val (.int p2), .val (.int p3), .val (.int p4), .val (.long q5), .second, .val (.ref b1), .val (.ref b22), .val (.ref r125), .val (.ref r142), .val (.ref r160), .val (.int (0 : Int32)), .val (.int (1 : Int32)), .val (.int (2 : Int32)), .val (.int (1 : Int32)), .val (.int ia), .val (.int ja), .val (.int ka), .val (.int (0 : Int32)), .unset, .unset, .unset, .unset, .unset] [])) st220 ?_
      refine go (u' := T220.setTop (mkF m 199 #[.val (.int p0), .val (.int p1), .val (.int p2), .val (.int p3), .val (.int p4), .val (.long q5), .second, .val (.ref b1), .val (.ref b22), .val (.ref r125), .val (.ref r142), .val (.ref r160), .val (.int (0 : Int32)), .val (.int (1 : Int32)), .val (.int (2 : Int32)), .val (.int (1 : Int32)), .val (.int ia), .val (.int ja), .val (.int ka), .val (.int (0 : Int32)), .unset, .unset, .unset, .unset, .unset] [(.int (0 : Int32))])) (fun _ ks_ => XS.iload X220.here hx rfl (hb hby at_197) rfl  ks_) ?_
      refine go (u' := T220.setTop (mkF m 209 #[.val (.int p0), .val (.int p1), .val (.int p2), .val (.int p3), .val (.int p4), .val (.long q5), .second, .val (.ref b1), .val (.ref b22), .val (.ref r125), .val (.ref r142), .val (.ref r160), .val (.int (0 : Int32)), .val (.int (1 : Int32)), .val (.int (2 : Int32)), .val (.int (1 : Int32)), .val (.int ia), .val (.int ja), .val (.int ka), .val (.int (0 : Int32)), .unset, .unset, .unset, .unset, .unset] [])) (fun _ ks_ => XS.ifYes X220.here hx rfl (pc0 := 199) (pc' := 209) rfl (hb hby at_199) rfl ((if0 _ _).trans (teq (show (0 : Int32) = (0 : Int32) from (by decide))).1) (by decide) (by decide) ks_) ?_
      refine go (u' := T220.setTop (mkF m 211 #[.val (.int p0), .val (.int p1), .val (.int p2), .val (.int p3), .val (.int p4), .val (.long q5), .second, .val (.ref b1), .val (.ref b22), .val (.ref r125), .val (.ref r142), .val (.ref r160), .val (.int (0 : Int32)), .val (.int (1 : Int32)), .val (.int (2 : Int32)), .val (.int (1 : Int32)), .val (.int ia), .val (.int ja), .val (.int ka), .val (.int (0 : Int32)), .unset, .unset, .unset, .unset, .unset] [(.ref b1)])) (fun _ ks_ => XS.aload X220.here hx rfl (hb hby at_209) rfl rfl ks_) ?_
      refine go (u' := T220.setTop (mkF m 213 #[.val (.int p0), .val (.int p1), .val (.int p2), .val (.int p3), .val (.int p4), .val (.long q5), .second, .val (.ref b1), .val (.ref b22), .val (.ref r125), .val (.ref r142), .val (.ref r160), .val (.int (0 : Int32)), .val (.int (1 : Int32)), .val (.int (2 : Int32)), .val (.int (1 : Int32)), .val (.int ia), .val (.int ja), .val (.int ka), .val (.int (0 : Int32)), .unset, .unset, .unset, .unset, .unset] [(.int ia), (.ref b1)])) (fun _ ks_ => XS.iload X220.here hx rfl (hb hby at_211) rfl  ks_) ?_
      obtain ⟨cq239, kq239, q239a, q239b, q239c⟩ := isOf hZ (rfl : T220.heap = _) Fa221
      obtain ⟨_, _, ⟨T239, L239, k239, n239⟩, -, X239, ⟨Lc239, hQ239, l239, y239, z239⟩, st239⟩ := X220.virtualBack hx (y := (⟨"com/example/emberlot/emberlot/Slots", "node", "(I)Ljava/lang/Object;"⟩ : MethodName)) (z := (⟨"com/example/emberlot/emberlot/Slots", "node", "(I)Ljava/lang/Object;"⟩ : MethodName)) hown (mvT hZ (ww hw 107 rfl)) (mvT hZ (ww hw 108 rfl)) (notFace_of_selects (args := #[]) (mvT hZ (ww hw 110 rfl))) (mvT hZ (ww hw 110 rfl)) (mvT hZ (ww hw 109 rfl)) (by decide) (backOf (W := 0) (rm16 l Z a0 hw [] b1 ia na_ pa10 xa10 ca10 af_ fa.toNatClampNeg n_ ln_ (upd nd_ (ia).toNatClampNeg .null) (upd (upd gs_ 0 (upd (gs_ 0) (ia).toNatClampNeg p4)) 2 (upd ((upd gs_ 0 (upd (gs_ 0) (ia).toNatClampNeg p4)) 2) (ia).toNatClampNeg (-1 : Int32))) E10 ia (3 : Int32) T220.heap n0 Z220 Fa221 Fa222 Fa223 Fa224 Fa225 Fa226 Fa227 Fa228 Fa229 hR.2.1 (own_j3 hI.1 hR.1.1) hI.2.2.2.2.2.2.1) hZ (ww hw 111 rfl) (ww hw 2 rfl) (by decide) (by decide)) q239a q239c (g := (mkF m 213 #[.val (.int p0), .val (.int p1), .val (.int p2), .val (.int p3), .val (.int p4), .val (.long q5), .second, .val (.ref b1), .val (.ref b22), .val (.ref r125), .val (.ref r142), .val (.ref r160), .val (.int (0 : Int32)), .val (.int (1 : Int32)), .val (.int (2 : Int32)), .val (.int (1 : Int32)), .val (.int ia), .val (.int ja), .val (.int ka), .val (.int (0 : Int32)), .unset, .unset, .unset, .unset, .unset] [(.int ia), (.ref b1)])) rfl (by rw [hml]; rfl) (Steps.refl _) (argsL := [(.int ia)]) (rest := []) (lenOf pd__40_I_41_Ljava_47_lang_47_Object_59_ rfl) rfl (by show 2 * 0 + _ ≤ _; exact Nat.le_of_eq rfl) (hb hby at_213) (fun _ _ => ⟨rfl, (rfl : T220.heap = _), (by decide : 44 + 0 ≤ _), (by decide : 348 + 0 ≤ _)⟩)
      dsimp only [Pt.U, Pt.locs, Pt.cells, Pt.slots] at X239 l239 y239 z239 st239 hQ239
      subst l239 y239 z239
      obtain ⟨rfl, N239q, eq239⟩ := hQ239
      have N239 := Fr.app N220 N239q
      rw [show ((upd nd_ (ia).toNatClampNeg .null) ia.toNatClampNeg) = .null from own_u1] at st239
      refine goT (u' := T239.setTop (mkF m 216 #[.val (.int p0), .val (.int p1), .val (.int p2), .val (.int p3), .val (.int p4), .val (.long q5), .second, .val (.ref b1), .val (.ref b22), .val (.ref r125), .val (.ref r142), .val (.ref r160), .val (.int (0 : Int32)), .val (.int (1 : Int32)), .val (.int (2 : Int32)), .val (.int (1 : Int32)), .val (.int ia), .val (.int ja), .val (.int ka), .val (.int (0 : Int32)), .unset, .unset, .unset, .unset, .unset] [.null])) st239 ?_
      refine go (u' := T239.setTop (mkF m 219 #[.val (.int p0), .val (.int p1), .val (.int p2), .val (.int p3), .val (.int p4), .val (.long q5), .second, .val (.ref b1), .val (.ref b22), .val (.ref r125), .val (.ref r142), .val (.ref r160), .val (.int (0 : Int32)), .val (.int (1 : Int32)), .val (.int (2 : Int32)), .val (.int (1 : Int32)), .val (.int ia), .val (.int ja), .val (.int ka), .val (.int (0 : Int32)), .unset, .unset, .unset, .unset, .unset] [])) (fun _ ks_ => XS.ifnonnullNo X239.here hx rfl (hb hby at_216) rfl ks_) ?_
      refine go (u' := T239.setTop (mkF m 221 #[.val (.int p0), .val (.int p1), .val (.int p2), .val (.int p3), .val (.int p4), .val (.long q5), .second, .val (.ref b1), .val (.ref b22), .val (.ref r125), .val (.ref r142), .val (.ref r160), .val (.int (0 : Int32)), .val (.int (1 : Int32)), .val (.int (2 : Int32)), .val (.int (1 : Int32)), .val (.int ia), .val (.int ja), .val (.int ka), .val (.int (0 : Int32)), .unset, .unset, .unset, .unset, .unset] [(.ref b1)])) (fun _ ks_ => XS.aload X239.here hx rfl (hb hby at_219) rfl rfl ks_) ?_
      refine go (u' := T239.setTop (mkF m 223 #[.val (.int p0), .val (.int p1), .val (.int p2), .val (.int p3), .val (.int p4), .val (.long q5), .second, .val (.ref b1), .val (.ref b22), .val (.ref r125), .val (.ref r142), .val (.ref r160), .val (.int (0 : Int32)), .val (.int (1 : Int32)), .val (.int (2 : Int32)), .val (.int (1 : Int32)), .val (.int ia), .val (.int ja), .val (.int ka), .val (.int (0 : Int32)), .unset, .unset, .unset, .unset, .unset] [(.int ka), (.ref b1)])) (fun _ ks_ => XS.iload X239.here hx rfl (hb hby at_221) rfl  ks_) ?_
      obtain ⟨cq240, kq240, q240a, q240b, q240c⟩ := isOf hZ eq239 Fa221
      obtain ⟨_, _, ⟨T240, L240, k240, n240⟩, -, X240, ⟨Lc240, hQ240, l240, y240, z240⟩, st240⟩ := X239.virtualBack hx (y := (⟨"com/example/emberlot/emberlot/Slots", "node", "(I)Ljava/lang/Object;"⟩ : MethodName)) (z := (⟨"com/example/emberlot/emberlot/Slots", "node", "(I)Ljava/lang/Object;"⟩ : MethodName)) hown (mvT hZ (ww hw 107 rfl)) (mvT hZ (ww hw 108 rfl)) (notFace_of_selects (args := #[]) (mvT hZ (ww hw 110 rfl))) (mvT hZ (ww hw 110 rfl)) (mvT hZ (ww hw 109 rfl)) (by decide) (backOf (W := 0) (rm16 l Z a0 hw [] b1 ka na_ pa10 xa10 ca10 af_ fa.toNatClampNeg n_ ln_ (upd nd_ (ia).toNatClampNeg .null) (upd (upd gs_ 0 (upd (gs_ 0) (ia).toNatClampNeg p4)) 2 (upd ((upd gs_ 0 (upd (gs_ 0) (ia).toNatClampNeg p4)) 2) (ia).toNatClampNeg (-1 : Int32))) E10 ia (3 : Int32) T220.heap n0 Z220 Fa221 Fa222 Fa223 Fa224 Fa225 Fa226 Fa227 Fa228 Fa229 hR.2.1 (own_j3 hI.2.2.1 hR.1.1) hI.2.2.2.2.2.2.2.2) hZ (ww hw 111 rfl) (ww hw 2 rfl) (by decide) (by decide)) q240a q240c (g := (mkF m 223 #[.val (.int p0), .val (.int p1), .val (.int p2), .val (.int p3), .val (.int p4), .val (.long q5), .second, .val (.ref b1), .val (.ref b22), .val (.ref r125), .val (.ref r142), .val (.ref r160), .val (.int (0 : Int32)), .val (.int (1 : Int32)), .val (.int (2 : Int32)), .val (.int (1 : Int32)), .val (.int ia), .val (.int ja), .val (.int ka), .val (.int (0 : Int32)), .unset, .unset, .unset, .unset, .unset] [(.int ka), (.ref b1)])) rfl (by rw [hml]; rfl) (Steps.refl _) (argsL := [(.int ka)]) (rest := []) (lenOf pd__40_I_41_Ljava_47_lang_47_Object_59_ rfl) rfl (by show 2 * 0 + _ ≤ _; exact Nat.le_of_eq rfl) (hb hby at_223) (fun _ _ => ⟨rfl, eq239, (by decide : 44 + 0 ≤ _), (by decide : 348 + 0 ≤ _)⟩)
      dsimp only [Pt.U, Pt.locs, Pt.cells, Pt.slots] at X240 l240 y240 z240 st240 hQ240
      subst l240 y240 z240
      obtain ⟨rfl, N240q, eq240⟩ := hQ240
      have N240 := Fr.app N239 N240q
      rw [show ((upd nd_ (ia).toNatClampNeg .null) ka.toNatClampNeg) = (.ref (oad r34 r62 r92 ka.toNatClampNeg)) from ((own_u2 hI.2.2.2.2.1).trans (hR.2.2 _ hI.2.2.1.2))] at st240
      refine goT (u' := T240.setTop (mkF m 226 #[.val (.int p0), .val (.int p1), .val (.int p2), .val (.int p3), .val (.int p4), .val (.long q5), .second, .val (.ref b1), .val (.ref b22), .val (.ref r125), .val (.ref r142), .val (.ref r160), .val (.int (0 : Int32)), .val (.int (1 : Int32)), .val (.int (2 : Int32)), .val (.int (1 : Int32)), .val (.int ia), .val (.int ja), .val (.int ka), .val (.int (0 : Int32)), .unset, .unset, .unset, .unset, .unset] [(.ref (oad r34 r62 r92 ka.toNatClampNeg))])) st240 ?_
      refine go (u' := T240.setTop (mkF m 228 #[.val (.int p0), .val (.int p1), .val (.int p2), .val (.int p3), .val (.int p4), .val (.long q5), .second, .val (.ref b1), .val (.ref b22), .val (.ref r125), .val (.ref r142), .val (.ref r160), .val (.int (0 : Int32)), .val (.int (1 : Int32)), .val (.int (2 : Int32)), .val (.int (1 : Int32)), .val (.int ia), .val (.int ja), .val (.int ka), .val (.int (0 : Int32)), .unset, .unset, .unset, .unset, .unset] [(.ref b22), (.ref (oad r34 r62 r92 ka.toNatClampNeg))])) (fun _ ks_ => XS.aload X240.here hx rfl (hb hby at_226) rfl rfl ks_) ?_
      refine go (u' := T240.setTop (mkF m 230 #[.val (.int p0), .val (.int p1), .val (.int p2), .val (.int p3), .val (.int p4), .val (.long q5), .second, .val (.ref b1), .val (.ref b22), .val (.ref r125), .val (.ref r142), .val (.ref r160), .val (.int (0 : Int32)), .val (.int (1 : Int32)), .val (.int (2 : Int32)), .val (.int (1 : Int32)), .val (.int ia), .val (.int ja), .val (.int ka), .val (.int (0 : Int32)), .unset, .unset, .unset, .unset, .unset] [(.int ka), (.ref b22), (.ref (oad r34 r62 r92 ka.toNatClampNeg))])) (fun _ ks_ => XS.iload X240.here hx rfl (hb hby at_228) rfl  ks_) ?_
      refine go (u' := T240.setTop (mkF m 231 #[.val (.int p0), .val (.int p1), .val (.int p2), .val (.int p3), .val (.int p4), .val (.long q5), .second, .val (.ref b1), .val (.ref b22), .val (.ref r125), .val (.ref r142), .val (.ref r160), .val (.int (0 : Int32)), .val (.int (1 : Int32)), .val (.int (2 : Int32)), .val (.int (1 : Int32)), .val (.int ia), .val (.int ja), .val (.int ka), .val (.int (0 : Int32)), .unset, .unset, .unset, .unset, .unset] [(.ref (oad r34 r62 r92 ka.toNatClampNeg)), (.ref (oad r34 r62 r92 ka.toNatClampNeg))])) (own_aaload X240 hx hZ eq240 Fa231 rfl (j := ka) (v := (.ref (oad r34 r62 r92 ka.toNatClampNeg))) hI.2.2.1.1 hI.2.2.1.2 rfl (f := (mkF m 230 #[.val (.int p0), .val (.int p1), .val (.int p2), .val (.int p3), .val (.int p4), .val (.long q5), .second, .val (.ref b1), .val (.ref b22), .val (.ref r125), .val (.ref r142), .val (.ref r160), .val (.int (0 : Int32)), .val (.int (1 : Int32)), .val (.int (2 : Int32)), .val (.int (1 : Int32)), .val (.int ia), .val (.int ja), .val (.int ka), .val (.int (0 : Int32)), .unset, .unset, .unset, .unset, .unset] [(.int ka), (.ref b22), (.ref (oad r34 r62 r92 ka.toNatClampNeg))])) rfl rfl (hb hby at_230)) ?_
      refine go (u' := T240.setTop (mkF m 234 #[.val (.int p0), .val (.int p1), .val (.int p2), .val (.int p3), .val (.int p4), .val (.long q5), .second, .val (.ref b1), .val (.ref b22), .val (.ref r125), .val (.ref r142), .val (.ref r160), .val (.int (0 : Int32)), .val (.int (1 : Int32)), .val (.int (2 : Int32)), .val (.int (1 : Int32)), .val (.int ia), .val (.int ja), .val (.int ka), .val (.int (0 : Int32)), .unset, .unset, .unset, .unset, .unset] [])) (fun _ ks_ => Jvm.RoadKit.acmp (g := (mkF m 231 #[.val (.int p0), .val (.int p1), .val (.int p2), .val (.int p3), .val (.int p4), .val (.long q5), .second, .val (.ref b1), .val (.ref b22), .val (.ref r125), .val (.ref r142), .val (.ref r160), .val (.int (0 : Int32)), .val (.int (1 : Int32)), .val (.int (2 : Int32)), .val (.int (1 : Int32)), .val (.int ia), .val (.int ja), .val (.int ka), .val (.int (0 : Int32)), .unset, .unset, .unset, .unset, .unset] [(.ref (oad r34 r62 r92 ka.toNatClampNeg)), (.ref (oad r34 r62 r92 ka.toNatClampNeg))])) X240 hx rfl rfl rfl (pc0 := 231) (pc' := 234) (same := true) rfl (hb hby at_231) rfl (decide_eq_true rfl) (by decide) (by decide) ks_) ?_
      refine go (u' := T240.setTop (mkF m 236 #[.val (.int p0), .val (.int p1), .val (.int p2), .val (.int p3), .val (.int p4), .val (.long q5), .second, .val (.ref b1), .val (.ref b22), .val (.ref r125), .val (.ref r142), .val (.ref r160), .val (.int (0 : Int32)), .val (.int (1 : Int32)), .val (.int (2 : Int32)), .val (.int (1 : Int32)), .val (.int ia), .val (.int ja), .val (.int ka), .val (.int (0 : Int32)), .unset, .unset, .unset, .unset, .unset] [(.int (0 : Int32))])) (fun _ ks_ => XS.iload X240.here hx rfl (hb hby at_234) rfl  ks_) ?_
      refine go (u' := T240.setTop (mkF m 252 #[.val (.int p0), .val (.int p1), .val (.int p2), .val (.int p3), .val (.int p4), .val (.long q5), .second, .val (.ref b1), .val (.ref b22), .val (.ref r125), .val (.ref r142), .val (.ref r160), .val (.int (0 : Int32)), .val (.int (1 : Int32)), .val (.int (2 : Int32)), .val (.int (1 : Int32)), .val (.int ia), .val (.int ja), .val (.int ka), .val (.int (0 : Int32)), .unset, .unset, .unset, .unset, .unset] [])) (fun _ ks_ => XS.ifYes X240.here hx rfl (pc0 := 236) (pc' := 252) rfl (hb hby at_236) rfl ((if0 _ _).trans (teq (show (0 : Int32) = (0 : Int32) from (by decide))).1) (by decide) (by decide) ks_) ?_
      refine go (u' := T240.setTop (mkF m 254 #[.val (.int p0), .val (.int p1), .val (.int p2), .val (.int p3), .val (.int p4), .val (.long q5), .second, .val (.ref b1), .val (.ref b22), .val (.ref r125), .val (.ref r142), .val (.ref r160), .val (.int (0 : Int32)), .val (.int (1 : Int32)), .val (.int (2 : Int32)), .val (.int (1 : Int32)), .val (.int ia), .val (.int ja), .val (.int ka), .val (.int (0 : Int32)), .unset, .unset, .unset, .unset, .unset] [(.ref b1)])) (fun _ ks_ => XS.aload X240.here hx rfl (hb hby at_252) rfl rfl ks_) ?_
      refine go (u' := T240.setTop (mkF m 256 #[.val (.int p0), .val (.int p1), .val (.int p2), .val (.int p3), .val (.int p4), .val (.long q5), .second, .val (.ref b1), .val (.ref b22), .val (.ref r125), .val (.ref r142), .val (.ref r160), .val (.int (0 : Int32)), .val (.int (1 : Int32)), .val (.int (2 : Int32)), .val (.int (1 : Int32)), .val (.int ia), .val (.int ja), .val (.int ka), .val (.int (0 : Int32)), .unset, .unset, .unset, .unset, .unset] [(.int ja), (.ref b1)])) (fun _ ks_ => XS.iload X240.here hx rfl (hb hby at_254) rfl  ks_) ?_
      obtain ⟨cq241, kq241, q241a, q241b, q241c⟩ := isOf hZ eq240 Fa221
      obtain ⟨_, _, ⟨T241, L241, k241, n241⟩, -, X241, ⟨Lc241, hQ241, l241, y241, z241⟩, st241⟩ := X240.virtualBack hx (y := (⟨"com/example/emberlot/emberlot/Slots", "node", "(I)Ljava/lang/Object;"⟩ : MethodName)) (z := (⟨"com/example/emberlot/emberlot/Slots", "node", "(I)Ljava/lang/Object;"⟩ : MethodName)) hown (mvT hZ (ww hw 107 rfl)) (mvT hZ (ww hw 108 rfl)) (notFace_of_selects (args := #[]) (mvT hZ (ww hw 110 rfl))) (mvT hZ (ww hw 110 rfl)) (mvT hZ (ww hw 109 rfl)) (by decide) (backOf (W := 0) (rm16 l Z a0 hw [] b1 ja na_ pa10 xa10 ca10 af_ fa.toNatClampNeg n_ ln_ (upd nd_ (ia).toNatClampNeg .null) (upd (upd gs_ 0 (upd (gs_ 0) (ia).toNatClampNeg p4)) 2 (upd ((upd gs_ 0 (upd (gs_ 0) (ia).toNatClampNeg p4)) 2) (ia).toNatClampNeg (-1 : Int32))) E10 ia (3 : Int32) T220.heap n0 Z220 Fa221 Fa222 Fa223 Fa224 Fa225 Fa226 Fa227 Fa228 Fa229 hR.2.1 (own_j3 hI.2.1 hR.1.1) hI.2.2.2.2.2.2.2.1) hZ (ww hw 111 rfl) (ww hw 2 rfl) (by decide) (by decide)) q241a q241c (g := (mkF m 256 #[.val (.int p0), .val (.int p1), .val (.int p2), .val (.int p3), .val (.int p4), .val (.long q5), .second, .val (.ref b1), .val (.ref b22), .val (.ref r125), .val (.ref r142), .val (.ref r160), .val (.int (0 : Int32)), .val (.int (1 : Int32)), .val (.int (2 : Int32)), .val (.int (1 : Int32)), .val (.int ia), .val (.int ja), .val (.int ka), .val (.int (0 : Int32)), .unset, .unset, .unset, .unset, .unset] [(.int ja), (.ref b1)])) rfl (by rw [hml]; rfl) (Steps.refl _) (argsL := [(.int ja)]) (rest := []) (lenOf pd__40_I_41_Ljava_47_lang_47_Object_59_ rfl) rfl (by show 2 * 0 + _ ≤ _; exact Nat.le_of_eq rfl) (hb hby at_256) (fun _ _ => ⟨rfl, eq240, (by decide : 44 + 0 ≤ _), (by decide : 348 + 0 ≤ _)⟩)
      dsimp only [Pt.U, Pt.locs, Pt.cells, Pt.slots] at X241 l241 y241 z241 st241 hQ241
      subst l241 y241 z241
      obtain ⟨rfl, N241q, eq241⟩ := hQ241
      have N241 := Fr.app N240 N241q
      rw [show ((upd nd_ (ia).toNatClampNeg .null) ja.toNatClampNeg) = (.ref (oad r34 r62 r92 ja.toNatClampNeg)) from ((own_u2 (Ne.symm hI.2.2.2.1)).trans (hR.2.2 _ hI.2.1.2))] at st241
      refine goT (u' := T241.setTop (mkF m 259 #[.val (.int p0), .val (.int p1), .val (.int p2), .val (.int p3), .val (.int p4), .val (.long q5), .second, .val (.ref b1), .val (.ref b22), .val (.ref r125), .val (.ref r142), .val (.ref r160), .val (.int (0 : Int32)), .val (.int (1 : Int32)), .val (.int (2 : Int32)), .val (.int (1 : Int32)), .val (.int ia), .val (.int ja), .val (.int ka), .val (.int (0 : Int32)), .unset, .unset, .unset, .unset, .unset] [(.ref (oad r34 r62 r92 ja.toNatClampNeg))])) st241 ?_
      refine go (u' := T241.setTop (mkF m 261 #[.val (.int p0), .val (.int p1), .val (.int p2), .val (.int p3), .val (.int p4), .val (.long q5), .second, .val (.ref b1), .val (.ref b22), .val (.ref r125), .val (.ref r142), .val (.ref r160), .val (.int (0 : Int32)), .val (.int (1 : Int32)), .val (.int (2 : Int32)), .val (.int (1 : Int32)), .val (.int ia), .val (.int ja), .val (.int ka), .val (.int (0 : Int32)), .unset, .unset, .unset, .unset, .unset] [(.ref b22), (.ref (oad r34 r62 r92 ja.toNatClampNeg))])) (fun _ ks_ => XS.aload X241.here hx rfl (hb hby at_259) rfl rfl ks_) ?_
      refine go (u' := T241.setTop (mkF m 263 #[.val (.int p0), .val (.int p1), .val (.int p2), .val (.int p3), .val (.int p4), .val (.long q5), .second, .val (.ref b1), .val (.ref b22), .val (.ref r125), .val (.ref r142), .val (.ref r160), .val (.int (0 : Int32)), .val (.int (1 : Int32)), .val (.int (2 : Int32)), .val (.int (1 : Int32)), .val (.int ia), .val (.int ja), .val (.int ka), .val (.int (0 : Int32)), .unset, .unset, .unset, .unset, .unset] [(.int ja), (.ref b22), (.ref (oad r34 r62 r92 ja.toNatClampNeg))])) (fun _ ks_ => XS.iload X241.here hx rfl (hb hby at_261) rfl  ks_) ?_
      refine go (u' := T241.setTop (mkF m 264 #[.val (.int p0), .val (.int p1), .val (.int p2), .val (.int p3), .val (.int p4), .val (.long q5), .second, .val (.ref b1), .val (.ref b22), .val (.ref r125), .val (.ref r142), .val (.ref r160), .val (.int (0 : Int32)), .val (.int (1 : Int32)), .val (.int (2 : Int32)), .val (.int (1 : Int32)), .val (.int ia), .val (.int ja), .val (.int ka), .val (.int (0 : Int32)), .unset, .unset, .unset, .unset, .unset] [(.ref (oad r34 r62 r92 ja.toNatClampNeg)), (.ref (oad r34 r62 r92 ja.toNatClampNeg))])) (own_aaload X241 hx hZ eq241 Fa231 rfl (j := ja) (v := (.ref (oad r34 r62 r92 ja.toNatClampNeg))) hI.2.1.1 hI.2.1.2 rfl (f := (mkF m 263 #[.val (.int p0), .val (.int p1), .val (.int p2), .val (.int p3), .val (.int p4), .val (.long q5), .second, .val (.ref b1), .val (.ref b22), .val (.ref r125), .val (.ref r142), .val (.ref r160), .val (.int (0 : Int32)), .val (.int (1 : Int32)), .val (.int (2 : Int32)), .val (.int (1 : Int32)), .val (.int ia), .val (.int ja), .val (.int ka), .val (.int (0 : Int32)), .unset, .unset, .unset, .unset, .unset] [(.int ja), (.ref b22), (.ref (oad r34 r62 r92 ja.toNatClampNeg))])) rfl rfl (hb hby at_263)) ?_
      refine go (u' := T241.setTop (mkF m 267 #[.val (.int p0), .val (.int p1), .val (.int p2), .val (.int p3), .val (.int p4), .val (.long q5), .second, .val (.ref b1), .val (.ref b22), .val (.ref r125), .val (.ref r142), .val (.ref r160), .val (.int (0 : Int32)), .val (.int (1 : Int32)), .val (.int (2 : Int32)), .val (.int (1 : Int32)), .val (.int ia), .val (.int ja), .val (.int ka), .val (.int (0 : Int32)), .unset, .unset, .unset, .unset, .unset] [])) (fun _ ks_ => Jvm.RoadKit.acmp (g := (mkF m 264 #[.val (.int p0), .val (.int p1), .val (.int p2), .val (.int p3), .val (.int p4), .val (.long q5), .second, .val (.ref b1), .val (.ref b22), .val (.ref r125), .val (.ref r142), .val (.ref r160), .val (.int (0 : Int32)), .val (.int (1 : Int32)), .val (.int (2 : Int32)), .val (.int (1 : Int32)), .val (.int ia), .val (.int ja), .val (.int ka), .val (.int (0 : Int32)), .unset, .unset, .unset, .unset, .unset] [(.ref (oad r34 r62 r92 ja.toNatClampNeg)), (.ref (oad r34 r62 r92 ja.toNatClampNeg))])) X241 hx rfl rfl rfl (pc0 := 264) (pc' := 267) (same := true) rfl (hb hby at_264) rfl (decide_eq_true rfl) (by decide) (by decide) ks_) ?_
      refine go (u' := T241.setTop (mkF m 268 #[.val (.int p0), .val (.int p1), .val (.int p2), .val (.int p3), .val (.int p4), .val (.long q5), .second, .val (.ref b1), .val (.ref b22), .val (.ref r125), .val (.ref r142), .val (.ref r160), .val (.int (0 : Int32)), .val (.int (1 : Int32)), .val (.int (2 : Int32)), .val (.int (1 : Int32)), .val (.int ia), .val (.int ja), .val (.int ka), .val (.int (0 : Int32)), .unset, .unset, .unset, .unset, .unset] [(.int (1 : Int32))])) (fun _ ks_ => XS.iconst X241.here hx rfl (hb hby at_267) ks_) ?_
      refine go (u' := T241.setTop (mkF m 272 #[.val (.int p0), .val (.int p1), .val (.int p2), .val (.int p3), .val (.int p4), .val (.long q5), .second, .val (.ref b1), .val (.ref b22), .val (.ref r125), .val (.ref r142), .val (.ref r160), .val (.int (0 : Int32)), .val (.int (1 : Int32)), .val (.int (2 : Int32)), .val (.int (1 : Int32)), .val (.int ia), .val (.int ja), .val (.int ka), .val (.int (0 : Int32)), .unset, .unset, .unset, .unset, .unset] [(.int (1 : Int32))])) (fun _ ks_ => XS.goto X241.here hx rfl (pc0 := 268) (pc' := 272) rfl (hb hby at_268) (by decide) (by decide) ks_) ?_
      refine go (u' := T241.setTop (mkF m 274 #[.val (.int p0), .val (.int p1), .val (.int p2), .val (.int p3), .val (.int p4), .val (.long q5), .second, .val (.ref b1), .val (.ref b22), .val (.ref r125), .val (.ref r142), .val (.ref r160), .val (.int (0 : Int32)), .val (.int (1 : Int32)), .val (.int (2 : Int32)), .val (.int (1 : Int32)), .val (.int ia), .val (.int ja), .val (.int ka), .val (.int (0 : Int32)), .val (.int (1 : Int32)), .unset, .unset, .unset, .unset] [])) (fun _ ks_ => XS.istore X241.here hx rfl (hb hby at_272) rfl  (l' := #[.val (.int p0), .val (.int p1), .val (.int p2), .val (.int p3), .val (.int p4), .val (.long q5), .second, .val (.ref b1), .val (.ref b22), .val (.ref r125), .val (.ref r142), .val (.ref r160), .val (.int (0 : Int32)), .val (.int (1 : Int32)), .val (.int (2 : Int32)), .val (.int (1 : Int32)), .val (.int ia), .val (.int ja), .val (.int ka), .val (.int (0 : Int32)), .val (.int (1 : Int32)), .unset, .unset, .unset, .unset]) rfl ks_) ?_
      refine go (u' := T241.setTop (mkF m 276 #[.val (.int p0), .val (.int p1), .val (.int p2), .val (.int p3), .val (.int p4), .val (.long q5), .second, .val (.ref b1), .val (.ref b22), .val (.ref r125), .val (.ref r142), .val (.ref r160), .val (.int (0 : Int32)), .val (.int (1 : Int32)), .val (.int (2 : Int32)), .val (.int (1 : Int32)), .val (.int ia), .val (.int ja), .val (.int ka), .val (.int (0 : Int32)), .val (.int (1 : Int32)), .unset, .unset, .unset, .unset] [(.int (1 : Int32))])) (fun _ ks_ => XS.iload X241.here hx rfl (hb hby at_274) rfl  ks_) ?_
      refine go (u' := T241.setTop (mkF m 279 #[.val (.int p0), .val (.int p1), .val (.int p2), .val (.int p3), .val (.int p4), .val (.long q5), .second, .val (.ref b1), .val (.ref b22), .val (.ref r125), .val (.ref r142), .val (.ref r160), .val (.int (0 : Int32)), .val (.int (1 : Int32)), .val (.int (2 : Int32)), .val (.int (1 : Int32)), .val (.int ia), .val (.int ja), .val (.int ka), .val (.int (0 : Int32)), .val (.int (1 : Int32)), .unset, .unset, .unset, .unset] [])) (fun _ ks_ => XS.ifNo X241.here hx rfl (hb hby at_276) rfl ((if0 _ _).trans (feq (show ¬ ((1 : Int32) = (0 : Int32)) from (by decide))).1) ks_) ?_
      refine go (u' := T241.setTop (mkF m 281 #[.val (.int p0), .val (.int p1), .val (.int p2), .val (.int p3), .val (.int p4), .val (.long q5), .second, .val (.ref b1), .val (.ref b22), .val (.ref r125), .val (.ref r142), .val (.ref r160), .val (.int (0 : Int32)), .val (.int (1 : Int32)), .val (.int (2 : Int32)), .val (.int (1 : Int32)), .val (.int ia), .val (.int ja), .val (.int ka), .val (.int (0 : Int32)), .val (.int (1 : Int32)), .unset, .unset, .unset, .unset] [(.int (1 : Int32))])) (fun _ ks_ => XS.iload X241.here hx rfl (hb hby at_279) rfl  ks_) ?_
      refine go (u' := T241.setTop (mkF m 284 #[.val (.int p0), .val (.int p1), .val (.int p2), .val (.int p3), .val (.int p4), .val (.long q5), .second, .val (.ref b1), .val (.ref b22), .val (.ref r125), .val (.ref r142), .val (.ref r160), .val (.int (0 : Int32)), .val (.int (1 : Int32)), .val (.int (2 : Int32)), .val (.int (1 : Int32)), .val (.int ia), .val (.int ja), .val (.int ka), .val (.int (0 : Int32)), .val (.int (1 : Int32)), .unset, .unset, .unset, .unset] [])) (fun _ ks_ => XS.ifNo X241.here hx rfl (hb hby at_281) rfl ((if0 _ _).trans (feq (show ¬ ((1 : Int32) = (0 : Int32)) from (by decide))).1) ks_) ?_
      refine go (u' := T241.setTop (mkF m 285 #[.val (.int p0), .val (.int p1), .val (.int p2), .val (.int p3), .val (.int p4), .val (.long q5), .second, .val (.ref b1), .val (.ref b22), .val (.ref r125), .val (.ref r142), .val (.ref r160), .val (.int (0 : Int32)), .val (.int (1 : Int32)), .val (.int (2 : Int32)), .val (.int (1 : Int32)), .val (.int ia), .val (.int ja), .val (.int ka), .val (.int (0 : Int32)), .val (.int (1 : Int32)), .unset, .unset, .unset, .unset] [(.int (1 : Int32))])) (fun _ ks_ => XS.iconst X241.here hx rfl (hb hby at_284) ks_) ?_
      refine go (u' := T241.setTop (mkF m 289 #[.val (.int p0), .val (.int p1), .val (.int p2), .val (.int p3), .val (.int p4), .val (.long q5), .second, .val (.ref b1), .val (.ref b22), .val (.ref r125), .val (.ref r142), .val (.ref r160), .val (.int (0 : Int32)), .val (.int (1 : Int32)), .val (.int (2 : Int32)), .val (.int (1 : Int32)), .val (.int ia), .val (.int ja), .val (.int ka), .val (.int (0 : Int32)), .val (.int (1 : Int32)), .unset, .unset, .unset, .unset] [(.int (1 : Int32))])) (fun _ ks_ => XS.goto X241.here hx rfl (pc0 := 285) (pc' := 289) rfl (hb hby at_285) (by decide) (by decide) ks_) ?_
      refine go (u' := T241.setTop (mkF m 291 #[.val (.int p0), .val (.int p1), .val (.int p2), .val (.int p3), .val (.int p4), .val (.long q5), .second, .val (.ref b1), .val (.ref b22), .val (.ref r125), .val (.ref r142), .val (.ref r160), .val (.int (0 : Int32)), .val (.int (1 : Int32)), .val (.int (2 : Int32)), .val (.int (1 : Int32)), .val (.int ia), .val (.int ja), .val (.int ka), .val (.int (0 : Int32)), .val (.int (1 : Int32)), .unset, .unset, .unset, .unset] [])) (fun _ ks_ => XS.istore X241.here hx rfl (hb hby at_289) rfl  (l' := #[.val (.int p0), .val (.int p1), .val (.int p2), .val (.int p3), .val (.int p4), .val (.long q5), .second, .val (.ref b1), .val (.ref b22), .val (.ref r125), .val (.ref r142), .val (.ref r160), .val (.int (0 : Int32)), .val (.int (1 : Int32)), .val (.int (2 : Int32)), .val (.int (1 : Int32)), .val (.int ia), .val (.int ja), .val (.int ka), .val (.int (0 : Int32)), .val (.int (1 : Int32)), .unset, .unset, .unset, .unset]) rfl ks_) ?_
      refine go (u' := T241.setTop (mkF m 293 #[.val (.int p0), .val (.int p1), .val (.int p2), .val (.int p3), .val (.int p4), .val (.long q5), .second, .val (.ref b1), .val (.ref b22), .val (.ref r125), .val (.ref r142), .val (.ref r160), .val (.int (0 : Int32)), .val (.int (1 : Int32)), .val (.int (2 : Int32)), .val (.int (1 : Int32)), .val (.int ia), .val (.int ja), .val (.int ka), .val (.int (0 : Int32)), .val (.int (1 : Int32)), .unset, .unset, .unset, .unset] [(.ref b1)])) (fun _ ks_ => XS.aload X241.here hx rfl (hb hby at_291) rfl rfl ks_) ?_
      refine go (u' := T241.setTop (mkF m 295 #[.val (.int p0), .val (.int p1), .val (.int p2), .val (.int p3), .val (.int p4), .val (.long q5), .second, .val (.ref b1), .val (.ref b22), .val (.ref r125), .val (.ref r142), .val (.ref r160), .val (.int (0 : Int32)), .val (.int (1 : Int32)), .val (.int (2 : Int32)), .val (.int (1 : Int32)), .val (.int ia), .val (.int ja), .val (.int ka), .val (.int (0 : Int32)), .val (.int (1 : Int32)), .unset, .unset, .unset, .unset] [(.ref r125), (.ref b1)])) (fun _ ks_ => XS.aload X241.here hx rfl (hb hby at_293) rfl rfl ks_) ?_
      obtain ⟨cq242, kq242, q242a, q242b, q242c⟩ := isOf hZ eq241 Fa221
      obtain ⟨_, _, ⟨T242, L242, k242, n242⟩, -, X242, ⟨Lc242, hQ242, l242, y242, z242⟩, st242⟩ := X241.virtualBack hx (y := (⟨"com/example/emberlot/emberlot/Slots", "add", "(Ljava/lang/Object;)I"⟩ : MethodName)) (z := (⟨"com/example/emberlot/emberlot/Slots", "add", "(Ljava/lang/Object;)I"⟩ : MethodName)) hown (mvT hZ (ww hw 58 rfl)) (mvT hZ (ww hw 59 rfl)) (notFace_of_selects (args := #[]) (mvT hZ (ww hw 61 rfl))) (mvT hZ (ww hw 61 rfl)) (mvT hZ (ww hw 60 rfl)) (by decide) (backOf (W := 0) (rm8a l Z a0 hw [] b1 r125 na_ pa10 xa10 ca10 af_ fa.toNatClampNeg n_ ln_ (upd nd_ (ia).toNatClampNeg .null) (upd (upd gs_ 0 (upd (gs_ 0) (ia).toNatClampNeg p4)) 2 (upd ((upd gs_ 0 (upd (gs_ 0) (ia).toNatClampNeg p4)) 2) (ia).toNatClampNeg (-1 : Int32))) E10 ia (3 : Int32) T220.heap n0 Z220 Fa221 Fa222 Fa223 Fa224 Fa225 Fa226 Fa227 Fa228 Fa229 Fa236 hR.2.1 hI.2.2.2.2.2.2.1 (own_j3 hI.1 hR.1.1)) hZ (ww hw 62 rfl) (ww hw 2 rfl) (by decide) (by decide)) q242a q242c (g := (mkF m 295 #[.val (.int p0), .val (.int p1), .val (.int p2), .val (.int p3), .val (.int p4), .val (.long q5), .second, .val (.ref b1), .val (.ref b22), .val (.ref r125), .val (.ref r142), .val (.ref r160), .val (.int (0 : Int32)), .val (.int (1 : Int32)), .val (.int (2 : Int32)), .val (.int (1 : Int32)), .val (.int ia), .val (.int ja), .val (.int ka), .val (.int (0 : Int32)), .val (.int (1 : Int32)), .unset, .unset, .unset, .unset] [(.ref r125), (.ref b1)])) rfl (by rw [hml]; rfl) (Steps.refl _) (argsL := [(.ref r125)]) (rest := []) (lenOf pd__40_Ljava_47_lang_47_Object_59__41_I rfl) rfl (by show 2 * 0 + _ ≤ _; exact Nat.le_of_eq rfl) (hb hby at_295) (fun _ _ => ⟨rfl, eq241, (by decide : 44 + 0 ≤ _), (by decide : 348 + 0 ≤ _)⟩)
      dsimp only [Pt.U, Pt.locs, Pt.cells, Pt.slots] at X242 l242 y242 z242 st242 hQ242
      subst l242 y242 z242
      obtain ⟨gs1242, rfl, N242q, Kq242, Fa243, Fa244, Fa245, Fa246, Fa247, Fa248, Fa249, Fa250, Fa251, a0_242, a2_242⟩ := hQ242
      have N242 := Fr.app N241 N242q
      have K242 : Keep h0 T242.heap [] := K220.trans Kq242 (own_WlLo Fa229 hn0)
      have Z242 : n0 ≤ T242.heap.size := Nat.le_trans Z220 Kq242.1
      have Fa252 : Exa Z T242.heap b1 "com/example/emberlot/emberlot/Slots" := Fa221.keep Kq242
      have Fa253 : PR Z T242.heap b22 (.object "java/lang/Object") "java/lang/Object" 3 (fun u => Value.ref (oad r34 r62 r92 u)) := Fa231.keep Kq242 (own_nW hno3)
      have Fa254 : Exa Z T242.heap b22 "[Ljava/lang/Object;" := Fa232.keep Kq242
      have Fa255 : Exa Z T242.heap r34 "java/lang/Integer" := Fa233.keep Kq242
      have Fa256 : Exa Z T242.heap r62 "java/lang/Integer" := Fa234.keep Kq242
      have Fa257 : Exa Z T242.heap r92 "java/lang/Integer" := Fa235.keep Kq242
      have Fa258 : Exa Z T242.heap r125 "java/lang/Integer" := Fa236.keep Kq242
      have Fa259 : Exa Z T242.heap r142 "java/lang/Integer" := Fa237.keep Kq242
      have Fa260 : Exa Z T242.heap r160 "java/lang/Integer" := Fa238.keep Kq242
      refine goT (u' := T242.setTop (mkF m 298 #[.val (.int p0), .val (.int p1), .val (.int p2), .val (.int p3), .val (.int p4), .val (.long q5), .second, .val (.ref b1), .val (.ref b22), .val (.ref r125), .val (.ref r142), .val (.ref r160), .val (.int (0 : Int32)), .val (.int (1 : Int32)), .val (.int (2 : Int32)), .val (.int (1 : Int32)), .val (.int ia), .val (.int ja), .val (.int ka), .val (.int (0 : Int32)), .val (.int (1 : Int32)), .unset, .unset, .unset, .unset] [(.int ia)])) st242 ?_
      have Fa261 : Fld Z T242.heap b1 "com/example/emberlot/emberlot/Slots" "free" "I" (.int (-1 : Int32)) := own_Fto Fa249 (congrArg Value.int own_u3)
      refine go (u' := T242.setTop (mkF m 300 #[.val (.int p0), .val (.int p1), .val (.int p2), .val (.int p3), .val (.int p4), .val (.long q5), .second, .val (.ref b1), .val (.ref b22), .val (.ref r125), .val (.ref r142), .val (.ref r160), .val (.int (0 : Int32)), .val (.int (1 : Int32)), .val (.int (2 : Int32)), .val (.int (1 : Int32)), .val (.int ia), .val (.int ja), .val (.int ka), .val (.int (0 : Int32)), .val (.int (1 : Int32)), .val (.int ia), .unset, .unset, .unset] [])) (fun _ ks_ => XS.istore X242.here hx rfl (hb hby at_298) rfl  (l' := #[.val (.int p0), .val (.int p1), .val (.int p2), .val (.int p3), .val (.int p4), .val (.long q5), .second, .val (.ref b1), .val (.ref b22), .val (.ref r125), .val (.ref r142), .val (.ref r160), .val (.int (0 : Int32)), .val (.int (1 : Int32)), .val (.int (2 : Int32)), .val (.int (1 : Int32)), .val (.int ia), .val (.int ja), .val (.int ka), .val (.int (0 : Int32)), .val (.int (1 : Int32)), .val (.int ia), .unset, .unset, .unset]) rfl ks_) ?_
      refine go (u' := T242.setTop (mkF m 302 #[.val (.int p0), .val (.int p1), .val (.int p2), .val (.int p3), .val (.int p4), .val (.long q5), .second, .val (.ref b1), .val (.ref b22), .val (.ref r125), .val (.ref r142), .val (.ref r160), .val (.int (0 : Int32)), .val (.int (1 : Int32)), .val (.int (2 : Int32)), .val (.int (1 : Int32)), .val (.int ia), .val (.int ja), .val (.int ka), .val (.int (0 : Int32)), .val (.int (1 : Int32)), .val (.int ia), .unset, .unset, .unset] [(.int (0 : Int32))])) (fun _ ks_ => XS.iload X242.here hx rfl (hb hby at_300) rfl  ks_) ?_
      refine go (u' := T242.setTop (mkF m 310 #[.val (.int p0), .val (.int p1), .val (.int p2), .val (.int p3), .val (.int p4), .val (.long q5), .second, .val (.ref b1), .val (.ref b22), .val (.ref r125), .val (.ref r142), .val (.ref r160), .val (.int (0 : Int32)), .val (.int (1 : Int32)), .val (.int (2 : Int32)), .val (.int (1 : Int32)), .val (.int ia), .val (.int ja), .val (.int ka), .val (.int (0 : Int32)), .val (.int (1 : Int32)), .val (.int ia), .unset, .unset, .unset] [])) (fun _ ks_ => XS.ifYes X242.here hx rfl (pc0 := 302) (pc' := 310) rfl (hb hby at_302) rfl ((if0 _ _).trans (teq (show (0 : Int32) = (0 : Int32) from (by decide))).1) (by decide) (by decide) ks_) ?_
      refine go (u' := T242.setTop (mkF m 312 #[.val (.int p0), .val (.int p1), .val (.int p2), .val (.int p3), .val (.int p4), .val (.long q5), .second, .val (.ref b1), .val (.ref b22), .val (.ref r125), .val (.ref r142), .val (.ref r160), .val (.int (0 : Int32)), .val (.int (1 : Int32)), .val (.int (2 : Int32)), .val (.int (1 : Int32)), .val (.int ia), .val (.int ja), .val (.int ka), .val (.int (0 : Int32)), .val (.int (1 : Int32)), .val (.int ia), .unset, .unset, .unset] [(.int ia)])) (fun _ ks_ => XS.iload X242.here hx rfl (hb hby at_310) rfl  ks_) ?_
      refine go (u' := T242.setTop (mkF m 314 #[.val (.int p0), .val (.int p1), .val (.int p2), .val (.int p3), .val (.int p4), .val (.long q5), .second, .val (.ref b1), .val (.ref b22), .val (.ref r125), .val (.ref r142), .val (.ref r160), .val (.int (0 : Int32)), .val (.int (1 : Int32)), .val (.int (2 : Int32)), .val (.int (1 : Int32)), .val (.int ia), .val (.int ja), .val (.int ka), .val (.int (0 : Int32)), .val (.int (1 : Int32)), .val (.int ia), .val (.int ia), .unset, .unset] [])) (fun _ ks_ => XS.istore X242.here hx rfl (hb hby at_312) rfl  (l' := #[.val (.int p0), .val (.int p1), .val (.int p2), .val (.int p3), .val (.int p4), .val (.long q5), .second, .val (.ref b1), .val (.ref b22), .val (.ref r125), .val (.ref r142), .val (.ref r160), .val (.int (0 : Int32)), .val (.int (1 : Int32)), .val (.int (2 : Int32)), .val (.int (1 : Int32)), .val (.int ia), .val (.int ja), .val (.int ka), .val (.int (0 : Int32)), .val (.int (1 : Int32)), .val (.int ia), .val (.int ia), .unset, .unset]) rfl ks_) ?_
      refine go (u' := T242.setTop (mkF m 316 #[.val (.int p0), .val (.int p1), .val (.int p2), .val (.int p3), .val (.int p4), .val (.long q5), .second, .val (.ref b1), .val (.ref b22), .val (.ref r125), .val (.ref r142), .val (.ref r160), .val (.int (0 : Int32)), .val (.int (1 : Int32)), .val (.int (2 : Int32)), .val (.int (1 : Int32)), .val (.int ia), .val (.int ja), .val (.int ka), .val (.int (0 : Int32)), .val (.int (1 : Int32)), .val (.int ia), .val (.int ia), .unset, .unset] [(.int (1 : Int32))])) (fun _ ks_ => XS.iload X242.here hx rfl (hb hby at_314) rfl  ks_) ?_
      refine go (u' := T242.setTop (mkF m 319 #[.val (.int p0), .val (.int p1), .val (.int p2), .val (.int p3), .val (.int p4), .val (.long q5), .second, .val (.ref b1), .val (.ref b22), .val (.ref r125), .val (.ref r142), .val (.ref r160), .val (.int (0 : Int32)), .val (.int (1 : Int32)), .val (.int (2 : Int32)), .val (.int (1 : Int32)), .val (.int ia), .val (.int ja), .val (.int ka), .val (.int (0 : Int32)), .val (.int (1 : Int32)), .val (.int ia), .val (.int ia), .unset, .unset] [])) (fun _ ks_ => XS.ifNo X242.here hx rfl (hb hby at_316) rfl ((if0 _ _).trans (feq (show ¬ ((1 : Int32) = (0 : Int32)) from (by decide))).1) ks_) ?_
      refine go (u' := T242.setTop (mkF m 321 #[.val (.int p0), .val (.int p1), .val (.int p2), .val (.int p3), .val (.int p4), .val (.long q5), .second, .val (.ref b1), .val (.ref b22), .val (.ref r125), .val (.ref r142), .val (.ref r160), .val (.int (0 : Int32)), .val (.int (1 : Int32)), .val (.int (2 : Int32)), .val (.int (1 : Int32)), .val (.int ia), .val (.int ja), .val (.int ka), .val (.int (0 : Int32)), .val (.int (1 : Int32)), .val (.int ia), .val (.int ia), .unset, .unset] [(.int ia)])) (fun _ ks_ => XS.iload X242.here hx rfl (hb hby at_319) rfl  ks_) ?_
      refine go (u' := T242.setTop (mkF m 323 #[.val (.int p0), .val (.int p1), .val (.int p2), .val (.int p3), .val (.int p4), .val (.long q5), .second, .val (.ref b1), .val (.ref b22), .val (.ref r125), .val (.ref r142), .val (.ref r160), .val (.int (0 : Int32)), .val (.int (1 : Int32)), .val (.int (2 : Int32)), .val (.int (1 : Int32)), .val (.int ia), .val (.int ja), .val (.int ka), .val (.int (0 : Int32)), .val (.int (1 : Int32)), .val (.int ia), .val (.int ia), .unset, .unset] [(.int ia), (.int ia)])) (fun _ ks_ => XS.iload X242.here hx rfl (hb hby at_321) rfl  ks_) ?_
      refine go (u' := T242.setTop (mkF m 326 #[.val (.int p0), .val (.int p1), .val (.int p2), .val (.int p3), .val (.int p4), .val (.long q5), .second, .val (.ref b1), .val (.ref b22), .val (.ref r125), .val (.ref r142), .val (.ref r160), .val (.int (0 : Int32)), .val (.int (1 : Int32)), .val (.int (2 : Int32)), .val (.int (1 : Int32)), .val (.int ia), .val (.int ja), .val (.int ka), .val (.int (0 : Int32)), .val (.int (1 : Int32)), .val (.int ia), .val (.int ia), .unset, .unset] [])) (fun _ ks_ => XS.icmpNo X242.here hx rfl (hb hby at_323) rfl (teq rfl).2 ks_) ?_
      refine go (u' := T242.setTop (mkF m 327 #[.val (.int p0), .val (.int p1), .val (.int p2), .val (.int p3), .val (.int p4), .val (.long q5), .second, .val (.ref b1), .val (.ref b22), .val (.ref r125), .val (.ref r142), .val (.ref r160), .val (.int (0 : Int32)), .val (.int (1 : Int32)), .val (.int (2 : Int32)), .val (.int (1 : Int32)), .val (.int ia), .val (.int ja), .val (.int ka), .val (.int (0 : Int32)), .val (.int (1 : Int32)), .val (.int ia), .val (.int ia), .unset, .unset] [(.int (1 : Int32))])) (fun _ ks_ => XS.iconst X242.here hx rfl (hb hby at_326) ks_) ?_
      refine go (u' := T242.setTop (mkF m 331 #[.val (.int p0), .val (.int p1), .val (.int p2), .val (.int p3), .val (.int p4), .val (.long q5), .second, .val (.ref b1), .val (.ref b22), .val (.ref r125), .val (.ref r142), .val (.ref r160), .val (.int (0 : Int32)), .val (.int (1 : Int32)), .val (.int (2 : Int32)), .val (.int (1 : Int32)), .val (.int ia), .val (.int ja), .val (.int ka), .val (.int (0 : Int32)), .val (.int (1 : Int32)), .val (.int ia), .val (.int ia), .unset, .unset] [(.int (1 : Int32))])) (fun _ ks_ => XS.goto X242.here hx rfl (pc0 := 327) (pc' := 331) rfl (hb hby at_327) (by decide) (by decide) ks_) ?_
      refine go (u' := T242.setTop (mkF m 333 #[.val (.int p0), .val (.int p1), .val (.int p2), .val (.int p3), .val (.int p4), .val (.long q5), .second, .val (.ref b1), .val (.ref b22), .val (.ref r125), .val (.ref r142), .val (.ref r160), .val (.int (0 : Int32)), .val (.int (1 : Int32)), .val (.int (2 : Int32)), .val (.int (1 : Int32)), .val (.int ia), .val (.int ja), .val (.int ka), .val (.int (0 : Int32)), .val (.int (1 : Int32)), .val (.int ia), .val (.int ia), .unset, .unset] [])) (fun _ ks_ => XS.istore X242.here hx rfl (hb hby at_331) rfl  (l' := #[.val (.int p0), .val (.int p1), .val (.int p2), .val (.int p3), .val (.int p4), .val (.long q5), .second, .val (.ref b1), .val (.ref b22), .val (.ref r125), .val (.ref r142), .val (.ref r160), .val (.int (0 : Int32)), .val (.int (1 : Int32)), .val (.int (2 : Int32)), .val (.int (1 : Int32)), .val (.int ia), .val (.int ja), .val (.int ka), .val (.int (0 : Int32)), .val (.int (1 : Int32)), .val (.int ia), .val (.int ia), .unset, .unset]) rfl ks_) ?_
      refine go (u' := T242.setTop (mkF m 335 #[.val (.int p0), .val (.int p1), .val (.int p2), .val (.int p3), .val (.int p4), .val (.long q5), .second, .val (.ref b1), .val (.ref b22), .val (.ref r125), .val (.ref r142), .val (.ref r160), .val (.int (0 : Int32)), .val (.int (1 : Int32)), .val (.int (2 : Int32)), .val (.int (1 : Int32)), .val (.int ia), .val (.int ja), .val (.int ka), .val (.int (0 : Int32)), .val (.int (1 : Int32)), .val (.int ia), .val (.int ia), .unset, .unset] [(.int (0 : Int32))])) (fun _ ks_ => XS.iload X242.here hx rfl (hb hby at_333) rfl  ks_) ?_
      refine go (u' := T242.setTop (mkF m 366 #[.val (.int p0), .val (.int p1), .val (.int p2), .val (.int p3), .val (.int p4), .val (.long q5), .second, .val (.ref b1), .val (.ref b22), .val (.ref r125), .val (.ref r142), .val (.ref r160), .val (.int (0 : Int32)), .val (.int (1 : Int32)), .val (.int (2 : Int32)), .val (.int (1 : Int32)), .val (.int ia), .val (.int ja), .val (.int ka), .val (.int (0 : Int32)), .val (.int (1 : Int32)), .val (.int ia), .val (.int ia), .unset, .unset] [])) (fun _ ks_ => XS.ifYes X242.here hx rfl (pc0 := 335) (pc' := 366) rfl (hb hby at_335) rfl ((if0 _ _).trans (teq (show (0 : Int32) = (0 : Int32) from (by decide))).1) (by decide) (by decide) ks_) ?_
      by_cases hc3 : n_ = 3
      ·
        refine go (u' := T242.setTop (mkF m 368 #[.val (.int p0), .val (.int p1), .val (.int p2), .val (.int p3), .val (.int p4), .val (.long q5), .second, .val (.ref b1), .val (.ref b22), .val (.ref r125), .val (.ref r142), .val (.ref r160), .val (.int (0 : Int32)), .val (.int (1 : Int32)), .val (.int (2 : Int32)), .val (.int (1 : Int32)), .val (.int ia), .val (.int ja), .val (.int ka), .val (.int (0 : Int32)), .val (.int (1 : Int32)), .val (.int ia), .val (.int ia), .unset, .unset] [(.ref b1)])) (fun _ ks_ => XS.aload X242.here hx rfl (hb hby at_366) rfl rfl ks_) ?_
        refine go (u' := T242.setTop (mkF m 370 #[.val (.int p0), .val (.int p1), .val (.int p2), .val (.int p3), .val (.int p4), .val (.long q5), .second, .val (.ref b1), .val (.ref b22), .val (.ref r125), .val (.ref r142), .val (.ref r160), .val (.int (0 : Int32)), .val (.int (1 : Int32)), .val (.int (2 : Int32)), .val (.int (1 : Int32)), .val (.int ia), .val (.int ja), .val (.int ka), .val (.int (0 : Int32)), .val (.int (1 : Int32)), .val (.int ia), .val (.int ia), .unset, .unset] [(.ref r160), (.ref b1)])) (fun _ ks_ => XS.aload X242.here hx rfl (hb hby at_368) rfl rfl ks_) ?_
        obtain ⟨cq262, kq262, q262a, q262b, q262c⟩ := isOf hZ (rfl : T242.heap = _) Fa243
        obtain ⟨_, _, ⟨T262, L262, k262, n262⟩, -, X262, ⟨Lc262, hQ262, l262, y262, z262⟩, st262⟩ := X242.virtualBack hx (y := (⟨"com/example/emberlot/emberlot/Slots", "add", "(Ljava/lang/Object;)I"⟩ : MethodName)) (z := (⟨"com/example/emberlot/emberlot/Slots", "add", "(Ljava/lang/Object;)I"⟩ : MethodName)) hown (mvT hZ (ww hw 58 rfl)) (mvT hZ (ww hw 59 rfl)) (notFace_of_selects (args := #[]) (mvT hZ (ww hw 61 rfl))) (mvT hZ (ww hw 61 rfl)) (mvT hZ (ww hw 60 rfl)) (by decide) (backOf (W := 0) (rm8 l Z a0 hw [] b1 r160 na_ pa10 xa10 ca10 af_ fa.toNatClampNeg n_ ln_ (upd (upd nd_ (ia).toNatClampNeg .null) (ia).toNatClampNeg (.ref r125)) gs1242 E10 (-1 : Int32) (3 : Int32) mr T242.heap n0 Z242 Fa243 Fa244 Fa245 Fa246 Fa247 Fa248 Fa261 Fa250 Fa251 Fa260 hR.2.1 rfl (own_tk3 hc3).1 (own_tk3 hc3).2 hE_10 hM) hZ (ww hw 62 rfl) (ww hw 2 rfl) (by decide) (by decide)) q262a q262c (g := (mkF m 370 #[.val (.int p0), .val (.int p1), .val (.int p2), .val (.int p3), .val (.int p4), .val (.long q5), .second, .val (.ref b1), .val (.ref b22), .val (.ref r125), .val (.ref r142), .val (.ref r160), .val (.int (0 : Int32)), .val (.int (1 : Int32)), .val (.int (2 : Int32)), .val (.int (1 : Int32)), .val (.int ia), .val (.int ja), .val (.int ka), .val (.int (0 : Int32)), .val (.int (1 : Int32)), .val (.int ia), .val (.int ia), .unset, .unset] [(.ref r160), (.ref b1)])) rfl (by rw [hml]; rfl) (Steps.refl _) (argsL := [(.ref r160)]) (rest := []) (lenOf pd__40_Ljava_47_lang_47_Object_59__41_I rfl) rfl (by show 2 * 0 + _ ≤ _; exact Nat.le_of_eq rfl) (hb hby at_370) (fun _ _ => ⟨rfl, (rfl : T242.heap = _), (by decide : 44 + 10 ≤ _), (by decide : 348 + 160 ≤ _)⟩)
        dsimp only [Pt.U, Pt.locs, Pt.cells, Pt.slots] at X262 l262 y262 z262 st262 hQ262
        subst l262 y262 z262
        obtain ⟨na1262, af1262, n1262, ln1262, nd1262, gs1262, rfl, N262q, Kq262, Fa263, Fa264, Fa265, Fa266, Fa267, Fa268, Fa269, Fa270, Fa271, sub_262, add_262, gx_262⟩ := hQ262
        have N262 := Fr.app N242 N262q
        have K262 : Keep h0 T262.heap [] := K242.trans Kq262 (own_WlLo Fa251 hn0)
        have Z262 : n0 ≤ T262.heap.size := Nat.le_trans Z242 Kq262.1
        have Fa272 : Exa Z T262.heap b1 "com/example/emberlot/emberlot/Slots" := Fa243.keep Kq262
        have Fa273 : PR Z T262.heap b22 (.object "java/lang/Object") "java/lang/Object" 3 (fun u => Value.ref (oad r34 r62 r92 u)) := Fa253.keep Kq262 (own_nW hno3)
        have Fa274 : Exa Z T262.heap b22 "[Ljava/lang/Object;" := Fa254.keep Kq262
        have Fa275 : Exa Z T262.heap r34 "java/lang/Integer" := Fa255.keep Kq262
        have Fa276 : Exa Z T262.heap r62 "java/lang/Integer" := Fa256.keep Kq262
        have Fa277 : Exa Z T262.heap r92 "java/lang/Integer" := Fa257.keep Kq262
        have Fa278 : Exa Z T262.heap r125 "java/lang/Integer" := Fa258.keep Kq262
        have Fa279 : Exa Z T262.heap r142 "java/lang/Integer" := Fa259.keep Kq262
        have Fa280 : Exa Z T262.heap r160 "java/lang/Integer" := Fa260.keep Kq262
        refine goT (u' := T262.setTop (mkF m 373 #[.val (.int p0), .val (.int p1), .val (.int p2), .val (.int p3), .val (.int p4), .val (.long q5), .second, .val (.ref b1), .val (.ref b22), .val (.ref r125), .val (.ref r142), .val (.ref r160), .val (.int (0 : Int32)), .val (.int (1 : Int32)), .val (.int (2 : Int32)), .val (.int (1 : Int32)), .val (.int ia), .val (.int ja), .val (.int ka), .val (.int (0 : Int32)), .val (.int (1 : Int32)), .val (.int ia), .val (.int ia), .unset, .unset] [(.int (3 : Int32))])) st262 ?_
        have Fa281 : Fld Z T262.heap b1 "com/example/emberlot/emberlot/Slots" "taken" "I" (.int (4 : Int32)) := own_Fto Fa270 (congrArg Value.int (by decide))
        have hno282 : ∀ i, i < 6 + 2 * fa.toNatClampNeg → adr b1 na1262 pa10 xa10 ca10 af1262 i ≠ b22 := own_nS hno3 Fa253.lt sub_262
        refine go (u' := T262.setTop (mkF m 375 #[.val (.int p0), .val (.int p1), .val (.int p2), .val (.int p3), .val (.int p4), .val (.long q5), .second, .val (.ref b1), .val (.ref b22), .val (.ref r125), .val (.ref r142), .val (.ref r160), .val (.int (0 : Int32)), .val (.int (1 : Int32)), .val (.int (2 : Int32)), .val (.int (1 : Int32)), .val (.int ia), .val (.int ja), .val (.int ka), .val (.int (0 : Int32)), .val (.int (1 : Int32)), .val (.int ia), .val (.int ia), .val (.int (3 : Int32)), .unset] [])) (fun _ ks_ => XS.istore X262.here hx rfl (hb hby at_373) rfl  (l' := #[.val (.int p0), .val (.int p1), .val (.int p2), .val (.int p3), .val (.int p4), .val (.long q5), .second, .val (.ref b1), .val (.ref b22), .val (.ref r125), .val (.ref r142), .val (.ref r160), .val (.int (0 : Int32)), .val (.int (1 : Int32)), .val (.int (2 : Int32)), .val (.int (1 : Int32)), .val (.int ia), .val (.int ja), .val (.int ka), .val (.int (0 : Int32)), .val (.int (1 : Int32)), .val (.int ia), .val (.int ia), .val (.int (3 : Int32)), .unset]) rfl ks_) ?_
        refine go (u' := T262.setTop (mkF m 377 #[.val (.int p0), .val (.int p1), .val (.int p2), .val (.int p3), .val (.int p4), .val (.long q5), .second, .val (.ref b1), .val (.ref b22), .val (.ref r125), .val (.ref r142), .val (.ref r160), .val (.int (0 : Int32)), .val (.int (1 : Int32)), .val (.int (2 : Int32)), .val (.int (1 : Int32)), .val (.int ia), .val (.int ja), .val (.int ka), .val (.int (0 : Int32)), .val (.int (1 : Int32)), .val (.int ia), .val (.int ia), .val (.int (3 : Int32)), .unset] [(.int (1 : Int32))])) (fun _ ks_ => XS.iload X262.here hx rfl (hb hby at_375) rfl  ks_) ?_
        refine go (u' := T262.setTop (mkF m 380 #[.val (.int p0), .val (.int p1), .val (.int p2), .val (.int p3), .val (.int p4), .val (.long q5), .second, .val (.ref b1), .val (.ref b22), .val (.ref r125), .val (.ref r142), .val (.ref r160), .val (.int (0 : Int32)), .val (.int (1 : Int32)), .val (.int (2 : Int32)), .val (.int (1 : Int32)), .val (.int ia), .val (.int ja), .val (.int ka), .val (.int (0 : Int32)), .val (.int (1 : Int32)), .val (.int ia), .val (.int ia), .val (.int (3 : Int32)), .unset] [])) (fun _ ks_ => XS.ifNo X262.here hx rfl (hb hby at_377) rfl ((if0 _ _).trans (feq (show ¬ ((1 : Int32) = (0 : Int32)) from (by decide))).1) ks_) ?_
        refine go (u' := T262.setTop (mkF m 382 #[.val (.int p0), .val (.int p1), .val (.int p2), .val (.int p3), .val (.int p4), .val (.long q5), .second, .val (.ref b1), .val (.ref b22), .val (.ref r125), .val (.ref r142), .val (.ref r160), .val (.int (0 : Int32)), .val (.int (1 : Int32)), .val (.int (2 : Int32)), .val (.int (1 : Int32)), .val (.int ia), .val (.int ja), .val (.int ka), .val (.int (0 : Int32)), .val (.int (1 : Int32)), .val (.int ia), .val (.int ia), .val (.int (3 : Int32)), .unset] [(.int (3 : Int32))])) (fun _ ks_ => XS.iload X262.here hx rfl (hb hby at_380) rfl  ks_) ?_
        refine go (u' := T262.setTop (mkF m 383 #[.val (.int p0), .val (.int p1), .val (.int p2), .val (.int p3), .val (.int p4), .val (.long q5), .second, .val (.ref b1), .val (.ref b22), .val (.ref r125), .val (.ref r142), .val (.ref r160), .val (.int (0 : Int32)), .val (.int (1 : Int32)), .val (.int (2 : Int32)), .val (.int (1 : Int32)), .val (.int ia), .val (.int ja), .val (.int ka), .val (.int (0 : Int32)), .val (.int (1 : Int32)), .val (.int ia), .val (.int ia), .val (.int (3 : Int32)), .unset] [(.int (3 : Int32)), (.int (3 : Int32))])) (fun _ ks_ => XS.iconst X262.here hx rfl (hb hby at_382) ks_) ?_
        refine go (u' := T262.setTop (mkF m 386 #[.val (.int p0), .val (.int p1), .val (.int p2), .val (.int p3), .val (.int p4), .val (.long q5), .second, .val (.ref b1), .val (.ref b22), .val (.ref r125), .val (.ref r142), .val (.ref r160), .val (.int (0 : Int32)), .val (.int (1 : Int32)), .val (.int (2 : Int32)), .val (.int (1 : Int32)), .val (.int ia), .val (.int ja), .val (.int ka), .val (.int (0 : Int32)), .val (.int (1 : Int32)), .val (.int ia), .val (.int ia), .val (.int (3 : Int32)), .unset] [])) (fun _ ks_ => XS.icmpNo X262.here hx rfl (hb hby at_383) rfl (teq (show (3 : Int32) = (3 : Int32) from (by decide))).2 ks_) ?_
        refine go (u' := T262.setTop (mkF m 387 #[.val (.int p0), .val (.int p1), .val (.int p2), .val (.int p3), .val (.int p4), .val (.long q5), .second, .val (.ref b1), .val (.ref b22), .val (.ref r125), .val (.ref r142), .val (.ref r160), .val (.int (0 : Int32)), .val (.int (1 : Int32)), .val (.int (2 : Int32)), .val (.int (1 : Int32)), .val (.int ia), .val (.int ja), .val (.int ka), .val (.int (0 : Int32)), .val (.int (1 : Int32)), .val (.int ia), .val (.int ia), .val (.int (3 : Int32)), .unset] [(.int (1 : Int32))])) (fun _ ks_ => XS.iconst X262.here hx rfl (hb hby at_386) ks_) ?_
        refine go (u' := T262.setTop (mkF m 391 #[.val (.int p0), .val (.int p1), .val (.int p2), .val (.int p3), .val (.int p4), .val (.long q5), .second, .val (.ref b1), .val (.ref b22), .val (.ref r125), .val (.ref r142), .val (.ref r160), .val (.int (0 : Int32)), .val (.int (1 : Int32)), .val (.int (2 : Int32)), .val (.int (1 : Int32)), .val (.int ia), .val (.int ja), .val (.int ka), .val (.int (0 : Int32)), .val (.int (1 : Int32)), .val (.int ia), .val (.int ia), .val (.int (3 : Int32)), .unset] [(.int (1 : Int32))])) (fun _ ks_ => XS.goto X262.here hx rfl (pc0 := 387) (pc' := 391) rfl (hb hby at_387) (by decide) (by decide) ks_) ?_
        refine go (u' := T262.setTop (mkF m 393 #[.val (.int p0), .val (.int p1), .val (.int p2), .val (.int p3), .val (.int p4), .val (.long q5), .second, .val (.ref b1), .val (.ref b22), .val (.ref r125), .val (.ref r142), .val (.ref r160), .val (.int (0 : Int32)), .val (.int (1 : Int32)), .val (.int (2 : Int32)), .val (.int (1 : Int32)), .val (.int ia), .val (.int ja), .val (.int ka), .val (.int (0 : Int32)), .val (.int (1 : Int32)), .val (.int ia), .val (.int ia), .val (.int (3 : Int32)), .unset] [])) (fun _ ks_ => XS.istore X262.here hx rfl (hb hby at_391) rfl  (l' := #[.val (.int p0), .val (.int p1), .val (.int p2), .val (.int p3), .val (.int p4), .val (.long q5), .second, .val (.ref b1), .val (.ref b22), .val (.ref r125), .val (.ref r142), .val (.ref r160), .val (.int (0 : Int32)), .val (.int (1 : Int32)), .val (.int (2 : Int32)), .val (.int (1 : Int32)), .val (.int ia), .val (.int ja), .val (.int ka), .val (.int (0 : Int32)), .val (.int (1 : Int32)), .val (.int ia), .val (.int ia), .val (.int (3 : Int32)), .unset]) rfl ks_) ?_
        refine go (u' := T262.setTop (mkF m 395 #[.val (.int p0), .val (.int p1), .val (.int p2), .val (.int p3), .val (.int p4), .val (.long q5), .second, .val (.ref b1), .val (.ref b22), .val (.ref r125), .val (.ref r142), .val (.ref r160), .val (.int (0 : Int32)), .val (.int (1 : Int32)), .val (.int (2 : Int32)), .val (.int (1 : Int32)), .val (.int ia), .val (.int ja), .val (.int ka), .val (.int (0 : Int32)), .val (.int (1 : Int32)), .val (.int ia), .val (.int ia), .val (.int (3 : Int32)), .unset] [(.int (0 : Int32))])) (fun _ ks_ => XS.iload X262.here hx rfl (hb hby at_393) rfl  ks_) ?_
        refine go (u' := T262.setTop (mkF m 403 #[.val (.int p0), .val (.int p1), .val (.int p2), .val (.int p3), .val (.int p4), .val (.long q5), .second, .val (.ref b1), .val (.ref b22), .val (.ref r125), .val (.ref r142), .val (.ref r160), .val (.int (0 : Int32)), .val (.int (1 : Int32)), .val (.int (2 : Int32)), .val (.int (1 : Int32)), .val (.int ia), .val (.int ja), .val (.int ka), .val (.int (0 : Int32)), .val (.int (1 : Int32)), .val (.int ia), .val (.int ia), .val (.int (3 : Int32)), .unset] [])) (fun _ ks_ => XS.ifYes X262.here hx rfl (pc0 := 395) (pc' := 403) rfl (hb hby at_395) rfl ((if0 _ _).trans (teq (show (0 : Int32) = (0 : Int32) from (by decide))).1) (by decide) (by decide) ks_) ?_
        refine go (u' := T262.setTop (mkF m 405 #[.val (.int p0), .val (.int p1), .val (.int p2), .val (.int p3), .val (.int p4), .val (.long q5), .second, .val (.ref b1), .val (.ref b22), .val (.ref r125), .val (.ref r142), .val (.ref r160), .val (.int (0 : Int32)), .val (.int (1 : Int32)), .val (.int (2 : Int32)), .val (.int (1 : Int32)), .val (.int ia), .val (.int ja), .val (.int ka), .val (.int (0 : Int32)), .val (.int (1 : Int32)), .val (.int ia), .val (.int ia), .val (.int (3 : Int32)), .unset] [(.ref r125)])) (fun _ ks_ => XS.aload X262.here hx rfl (hb hby at_403) rfl rfl ks_) ?_
        refine go (u' := T262.setTop (mkF m 407 #[.val (.int p0), .val (.int p1), .val (.int p2), .val (.int p3), .val (.int p4), .val (.long q5), .second, .val (.ref b1), .val (.ref b22), .val (.ref r125), .val (.ref r142), .val (.ref r160), .val (.int (0 : Int32)), .val (.int (1 : Int32)), .val (.int (2 : Int32)), .val (.int (1 : Int32)), .val (.int ia), .val (.int ja), .val (.int ka), .val (.int (0 : Int32)), .val (.int (1 : Int32)), .val (.int ia), .val (.int ia), .val (.int (3 : Int32)), .val (.ref r125)] [])) (fun _ ks_ => XS.astore X262.here hx rfl (hb hby at_405) rfl rfl (l' := #[.val (.int p0), .val (.int p1), .val (.int p2), .val (.int p3), .val (.int p4), .val (.long q5), .second, .val (.ref b1), .val (.ref b22), .val (.ref r125), .val (.ref r142), .val (.ref r160), .val (.int (0 : Int32)), .val (.int (1 : Int32)), .val (.int (2 : Int32)), .val (.int (1 : Int32)), .val (.int ia), .val (.int ja), .val (.int ka), .val (.int (0 : Int32)), .val (.int (1 : Int32)), .val (.int ia), .val (.int ia), .val (.int (3 : Int32)), .val (.ref r125)]) rfl ks_) ?_
        refine go (u' := T262.setTop (mkF m 409 #[.val (.int p0), .val (.int p1), .val (.int p2), .val (.int p3), .val (.int p4), .val (.long q5), .second, .val (.ref b1), .val (.ref b22), .val (.ref r125), .val (.ref r142), .val (.ref r160), .val (.int (0 : Int32)), .val (.int (1 : Int32)), .val (.int (2 : Int32)), .val (.int (1 : Int32)), .val (.int ia), .val (.int ja), .val (.int ka), .val (.int (0 : Int32)), .val (.int (1 : Int32)), .val (.int ia), .val (.int ia), .val (.int (3 : Int32)), .val (.ref r125)] [(.int (1 : Int32))])) (fun _ ks_ => XS.iload X262.here hx rfl (hb hby at_407) rfl  ks_) ?_
        refine go (u' := T262.setTop (mkF m 412 #[.val (.int p0), .val (.int p1), .val (.int p2), .val (.int p3), .val (.int p4), .val (.long q5), .second, .val (.ref b1), .val (.ref b22), .val (.ref r125), .val (.ref r142), .val (.ref r160), .val (.int (0 : Int32)), .val (.int (1 : Int32)), .val (.int (2 : Int32)), .val (.int (1 : Int32)), .val (.int ia), .val (.int ja), .val (.int ka), .val (.int (0 : Int32)), .val (.int (1 : Int32)), .val (.int ia), .val (.int ia), .val (.int (3 : Int32)), .val (.ref r125)] [])) (fun _ ks_ => XS.ifNo X262.here hx rfl (hb hby at_409) rfl ((if0 _ _).trans (feq (show ¬ ((1 : Int32) = (0 : Int32)) from (by decide))).1) ks_) ?_
        refine go (u' := T262.setTop (mkF m 414 #[.val (.int p0), .val (.int p1), .val (.int p2), .val (.int p3), .val (.int p4), .val (.long q5), .second, .val (.ref b1), .val (.ref b22), .val (.ref r125), .val (.ref r142), .val (.ref r160), .val (.int (0 : Int32)), .val (.int (1 : Int32)), .val (.int (2 : Int32)), .val (.int (1 : Int32)), .val (.int ia), .val (.int ja), .val (.int ka), .val (.int (0 : Int32)), .val (.int (1 : Int32)), .val (.int ia), .val (.int ia), .val (.int (3 : Int32)), .val (.ref r125)] [(.ref b1)])) (fun _ ks_ => XS.aload X262.here hx rfl (hb hby at_412) rfl rfl ks_) ?_
        refine go (u' := T262.setTop (mkF m 416 #[.val (.int p0), .val (.int p1), .val (.int p2), .val (.int p3), .val (.int p4), .val (.long q5), .second, .val (.ref b1), .val (.ref b22), .val (.ref r125), .val (.ref r142), .val (.ref r160), .val (.int (0 : Int32)), .val (.int (1 : Int32)), .val (.int (2 : Int32)), .val (.int (1 : Int32)), .val (.int ia), .val (.int ja), .val (.int ka), .val (.int (0 : Int32)), .val (.int (1 : Int32)), .val (.int ia), .val (.int ia), .val (.int (3 : Int32)), .val (.ref r125)] [(.int ia), (.ref b1)])) (fun _ ks_ => XS.iload X262.here hx rfl (hb hby at_414) rfl  ks_) ?_
        obtain ⟨cq283, kq283, q283a, q283b, q283c⟩ := isOf hZ (rfl : T262.heap = _) Fa263
        obtain ⟨_, _, ⟨T283, L283, k283, n283⟩, -, X283, ⟨Lc283, hQ283, l283, y283, z283⟩, st283⟩ := X262.virtualBack hx (y := (⟨"com/example/emberlot/emberlot/Slots", "node", "(I)Ljava/lang/Object;"⟩ : MethodName)) (z := (⟨"com/example/emberlot/emberlot/Slots", "node", "(I)Ljava/lang/Object;"⟩ : MethodName)) hown (mvT hZ (ww hw 107 rfl)) (mvT hZ (ww hw 108 rfl)) (notFace_of_selects (args := #[]) (mvT hZ (ww hw 110 rfl))) (mvT hZ (ww hw 110 rfl)) (mvT hZ (ww hw 109 rfl)) (by decide) (backOf (W := 0) (rm16 l Z a0 hw [] b1 ia na1262 pa10 xa10 ca10 af1262 fa.toNatClampNeg n1262 ln1262 nd1262 gs1262 E10 (-1 : Int32) (4 : Int32) T262.heap n0 Z262 Fa263 Fa264 Fa265 Fa266 Fa267 Fa268 Fa269 Fa281 Fa271 add_262.2.1 (own_j3 hI.1 (own_aj add_262)) hI.2.2.2.2.2.2.1) hZ (ww hw 111 rfl) (ww hw 2 rfl) (by decide) (by decide)) q283a q283c (g := (mkF m 416 #[.val (.int p0), .val (.int p1), .val (.int p2), .val (.int p3), .val (.int p4), .val (.long q5), .second, .val (.ref b1), .val (.ref b22), .val (.ref r125), .val (.ref r142), .val (.ref r160), .val (.int (0 : Int32)), .val (.int (1 : Int32)), .val (.int (2 : Int32)), .val (.int (1 : Int32)), .val (.int ia), .val (.int ja), .val (.int ka), .val (.int (0 : Int32)), .val (.int (1 : Int32)), .val (.int ia), .val (.int ia), .val (.int (3 : Int32)), .val (.ref r125)] [(.int ia), (.ref b1)])) rfl (by rw [hml]; rfl) (Steps.refl _) (argsL := [(.int ia)]) (rest := []) (lenOf pd__40_I_41_Ljava_47_lang_47_Object_59_ rfl) rfl (by show 2 * 0 + _ ≤ _; exact Nat.le_of_eq rfl) (hb hby at_416) (fun _ _ => ⟨rfl, (rfl : T262.heap = _), (by decide : 54 + 0 ≤ _), (by decide : 508 + 0 ≤ _)⟩)
        dsimp only [Pt.U, Pt.locs, Pt.cells, Pt.slots] at X283 l283 y283 z283 st283 hQ283
        subst l283 y283 z283
        obtain ⟨rfl, N283q, eq283⟩ := hQ283
        have N283 := Fr.app N262 N283q
        rw [show (nd1262 ia.toNatClampNeg) = (.ref r125) from ((add_262.2.2.2.1 _ hI.1.2).trans own_u1)] at st283
        refine goT (u' := T283.setTop (mkF m 419 #[.val (.int p0), .val (.int p1), .val (.int p2), .val (.int p3), .val (.int p4), .val (.long q5), .second, .val (.ref b1), .val (.ref b22), .val (.ref r125), .val (.ref r142), .val (.ref r160), .val (.int (0 : Int32)), .val (.int (1 : Int32)), .val (.int (2 : Int32)), .val (.int (1 : Int32)), .val (.int ia), .val (.int ja), .val (.int ka), .val (.int (0 : Int32)), .val (.int (1 : Int32)), .val (.int ia), .val (.int ia), .val (.int (3 : Int32)), .val (.ref r125)] [(.ref r125)])) st283 ?_
        refine go (u' := T283.setTop (mkF m 421 #[.val (.int p0), .val (.int p1), .val (.int p2), .val (.int p3), .val (.int p4), .val (.long q5), .second, .val (.ref b1), .val (.ref b22), .val (.ref r125), .val (.ref r142), .val (.ref r160), .val (.int (0 : Int32)), .val (.int (1 : Int32)), .val (.int (2 : Int32)), .val (.int (1 : Int32)), .val (.int ia), .val (.int ja), .val (.int ka), .val (.int (0 : Int32)), .val (.int (1 : Int32)), .val (.int ia), .val (.int ia), .val (.int (3 : Int32)), .val (.ref r125)] [(.ref r125), (.ref r125)])) (fun _ ks_ => XS.aload X283.here hx rfl (hb hby at_419) rfl rfl ks_) ?_
        refine go (u' := T283.setTop (mkF m 424 #[.val (.int p0), .val (.int p1), .val (.int p2), .val (.int p3), .val (.int p4), .val (.long q5), .second, .val (.ref b1), .val (.ref b22), .val (.ref r125), .val (.ref r142), .val (.ref r160), .val (.int (0 : Int32)), .val (.int (1 : Int32)), .val (.int (2 : Int32)), .val (.int (1 : Int32)), .val (.int ia), .val (.int ja), .val (.int ka), .val (.int (0 : Int32)), .val (.int (1 : Int32)), .val (.int ia), .val (.int ia), .val (.int (3 : Int32)), .val (.ref r125)] [])) (fun _ ks_ => Jvm.RoadKit.acmp (g := (mkF m 421 #[.val (.int p0), .val (.int p1), .val (.int p2), .val (.int p3), .val (.int p4), .val (.long q5), .second, .val (.ref b1), .val (.ref b22), .val (.ref r125), .val (.ref r142), .val (.ref r160), .val (.int (0 : Int32)), .val (.int (1 : Int32)), .val (.int (2 : Int32)), .val (.int (1 : Int32)), .val (.int ia), .val (.int ja), .val (.int ka), .val (.int (0 : Int32)), .val (.int (1 : Int32)), .val (.int ia), .val (.int ia), .val (.int (3 : Int32)), .val (.ref r125)] [(.ref r125), (.ref r125)])) X283 hx rfl rfl rfl (pc0 := 421) (pc' := 424) (same := true) rfl (hb hby at_421) rfl (decide_eq_true rfl) (by decide) (by decide) ks_) ?_
        refine go (u' := T283.setTop (mkF m 426 #[.val (.int p0), .val (.int p1), .val (.int p2), .val (.int p3), .val (.int p4), .val (.long q5), .second, .val (.ref b1), .val (.ref b22), .val (.ref r125), .val (.ref r142), .val (.ref r160), .val (.int (0 : Int32)), .val (.int (1 : Int32)), .val (.int (2 : Int32)), .val (.int (1 : Int32)), .val (.int ia), .val (.int ja), .val (.int ka), .val (.int (0 : Int32)), .val (.int (1 : Int32)), .val (.int ia), .val (.int ia), .val (.int (3 : Int32)), .val (.ref r125)] [(.ref b1)])) (fun _ ks_ => XS.aload X283.here hx rfl (hb hby at_424) rfl rfl ks_) ?_
        refine go (u' := T283.setTop (mkF m 427 #[.val (.int p0), .val (.int p1), .val (.int p2), .val (.int p3), .val (.int p4), .val (.long q5), .second, .val (.ref b1), .val (.ref b22), .val (.ref r125), .val (.ref r142), .val (.ref r160), .val (.int (0 : Int32)), .val (.int (1 : Int32)), .val (.int (2 : Int32)), .val (.int (1 : Int32)), .val (.int ia), .val (.int ja), .val (.int ka), .val (.int (0 : Int32)), .val (.int (1 : Int32)), .val (.int ia), .val (.int ia), .val (.int (3 : Int32)), .val (.ref r125)] [(.int (0 : Int32)), (.ref b1)])) (fun _ ks_ => XS.iconst X283.here hx rfl (hb hby at_426) ks_) ?_
        refine go (u' := T283.setTop (mkF m 429 #[.val (.int p0), .val (.int p1), .val (.int p2), .val (.int p3), .val (.int p4), .val (.long q5), .second, .val (.ref b1), .val (.ref b22), .val (.ref r125), .val (.ref r142), .val (.ref r160), .val (.int (0 : Int32)), .val (.int (1 : Int32)), .val (.int (2 : Int32)), .val (.int (1 : Int32)), .val (.int ia), .val (.int ja), .val (.int ka), .val (.int (0 : Int32)), .val (.int (1 : Int32)), .val (.int ia), .val (.int ia), .val (.int (3 : Int32)), .val (.ref r125)] [(.int ia), (.int (0 : Int32)), (.ref b1)])) (fun _ ks_ => XS.iload X283.here hx rfl (hb hby at_427) rfl  ks_) ?_
        obtain ⟨cq284, kq284, q284a, q284b, q284c⟩ := isOf hZ eq283 Fa263
        obtain ⟨_, _, ⟨T284, L284, k284, n284⟩, -, X284, ⟨Lc284, hQ284, l284, y284, z284⟩, st284⟩ := X283.virtualBack hx (y := (⟨"com/example/emberlot/emberlot/Slots", "get", "(II)I"⟩ : MethodName)) (z := (⟨"com/example/emberlot/emberlot/Slots", "get", "(II)I"⟩ : MethodName)) hown (mvT hZ (ww hw 112 rfl)) (mvT hZ (ww hw 113 rfl)) (notFace_of_selects (args := #[]) (mvT hZ (ww hw 115 rfl))) (mvT hZ (ww hw 115 rfl)) (mvT hZ (ww hw 114 rfl)) (by decide) (backOf (W := 0) (rm17 l Z a0 hw [] b1 ia na1262 pa10 xa10 ca10 af1262 fa.toNatClampNeg n1262 ln1262 nd1262 gs1262 E10 (-1 : Int32) (4 : Int32) T262.heap n0 Z262 Fa263 Fa264 Fa265 Fa266 Fa267 Fa268 Fa269 Fa281 Fa271 add_262.2.1 (own_j3 hI.1 (own_aj add_262))) hZ (ww hw 116 rfl) (ww hw 2 rfl) (by decide) (by decide)) q284a q284c (g := (mkF m 429 #[.val (.int p0), .val (.int p1), .val (.int p2), .val (.int p3), .val (.int p4), .val (.long q5), .second, .val (.ref b1), .val (.ref b22), .val (.ref r125), .val (.ref r142), .val (.ref r160), .val (.int (0 : Int32)), .val (.int (1 : Int32)), .val (.int (2 : Int32)), .val (.int (1 : Int32)), .val (.int ia), .val (.int ja), .val (.int ka), .val (.int (0 : Int32)), .val (.int (1 : Int32)), .val (.int ia), .val (.int ia), .val (.int (3 : Int32)), .val (.ref r125)] [(.int ia), (.int (0 : Int32)), (.ref b1)])) rfl (by rw [hml]; rfl) (Steps.refl _) (argsL := [(.int (0 : Int32)), (.int ia)]) (rest := []) (lenOf pd__40_II_41_I rfl) rfl (by show 2 * 0 + _ ≤ _; exact Nat.le_of_eq rfl) (hb hby at_429) (fun _ _ => ⟨rfl, eq283, (by decide : 54 + 0 ≤ _), (by decide : 508 + 0 ≤ _)⟩)
        dsimp only [Pt.U, Pt.locs, Pt.cells, Pt.slots] at X284 l284 y284 z284 st284 hQ284
        subst l284 y284 z284
        obtain ⟨rfl, N284q, eq284⟩ := hQ284
        have N284 := Fr.app N283 N284q
        rw [show (gs1262 0 ia.toNatClampNeg) = p4 from (own_g1 (add_262.2.2.2.2.2 _ hI.1.2).1 a0_242)] at st284
        refine goT (u' := T284.setTop (mkF m 432 #[.val (.int p0), .val (.int p1), .val (.int p2), .val (.int p3), .val (.int p4), .val (.long q5), .second, .val (.ref b1), .val (.ref b22), .val (.ref r125), .val (.ref r142), .val (.ref r160), .val (.int (0 : Int32)), .val (.int (1 : Int32)), .val (.int (2 : Int32)), .val (.int (1 : Int32)), .val (.int ia), .val (.int ja), .val (.int ka), .val (.int (0 : Int32)), .val (.int (1 : Int32)), .val (.int ia), .val (.int ia), .val (.int (3 : Int32)), .val (.ref r125)] [(.int p4)])) st284 ?_
        refine go (u' := T284.setTop (mkF m 434 #[.val (.int p0), .val (.int p1), .val (.int p2), .val (.int p3), .val (.int p4), .val (.long q5), .second, .val (.ref b1), .val (.ref b22), .val (.ref r125), .val (.ref r142), .val (.ref r160), .val (.int (0 : Int32)), .val (.int (1 : Int32)), .val (.int (2 : Int32)), .val (.int (1 : Int32)), .val (.int ia), .val (.int ja), .val (.int ka), .val (.int (0 : Int32)), .val (.int (1 : Int32)), .val (.int ia), .val (.int ia), .val (.int (3 : Int32)), .val (.ref r125)] [(.int p4), (.int p4)])) (fun _ ks_ => XS.iload X284.here hx rfl (hb hby at_432) rfl  ks_) ?_
        refine go (u' := T284.setTop (mkF m 437 #[.val (.int p0), .val (.int p1), .val (.int p2), .val (.int p3), .val (.int p4), .val (.long q5), .second, .val (.ref b1), .val (.ref b22), .val (.ref r125), .val (.ref r142), .val (.ref r160), .val (.int (0 : Int32)), .val (.int (1 : Int32)), .val (.int (2 : Int32)), .val (.int (1 : Int32)), .val (.int ia), .val (.int ja), .val (.int ka), .val (.int (0 : Int32)), .val (.int (1 : Int32)), .val (.int ia), .val (.int ia), .val (.int (3 : Int32)), .val (.ref r125)] [])) (fun _ ks_ => XS.icmpNo X284.here hx rfl (hb hby at_434) rfl (teq rfl).2 ks_) ?_
        refine go (u' := T284.setTop (mkF m 438 #[.val (.int p0), .val (.int p1), .val (.int p2), .val (.int p3), .val (.int p4), .val (.long q5), .second, .val (.ref b1), .val (.ref b22), .val (.ref r125), .val (.ref r142), .val (.ref r160), .val (.int (0 : Int32)), .val (.int (1 : Int32)), .val (.int (2 : Int32)), .val (.int (1 : Int32)), .val (.int ia), .val (.int ja), .val (.int ka), .val (.int (0 : Int32)), .val (.int (1 : Int32)), .val (.int ia), .val (.int ia), .val (.int (3 : Int32)), .val (.ref r125)] [(.int (1 : Int32))])) (fun _ ks_ => XS.iconst X284.here hx rfl (hb hby at_437) ks_) ?_
        refine go (u' := T284.setTop (mkF m 442 #[.val (.int p0), .val (.int p1), .val (.int p2), .val (.int p3), .val (.int p4), .val (.long q5), .second, .val (.ref b1), .val (.ref b22), .val (.ref r125), .val (.ref r142), .val (.ref r160), .val (.int (0 : Int32)), .val (.int (1 : Int32)), .val (.int (2 : Int32)), .val (.int (1 : Int32)), .val (.int ia), .val (.int ja), .val (.int ka), .val (.int (0 : Int32)), .val (.int (1 : Int32)), .val (.int ia), .val (.int ia), .val (.int (3 : Int32)), .val (.ref r125)] [(.int (1 : Int32))])) (fun _ ks_ => XS.goto X284.here hx rfl (pc0 := 438) (pc' := 442) rfl (hb hby at_438) (by decide) (by decide) ks_) ?_
        refine go (u' := T284.setTop (mkF m 444 #[.val (.int p0), .val (.int p1), .val (.int p2), .val (.int p3), .val (.int p4), .val (.long q5), .second, .val (.ref b1), .val (.ref b22), .val (.ref r125), .val (.ref r142), .val (.ref r160), .val (.int (0 : Int32)), .val (.int (1 : Int32)), .val (.int (2 : Int32)), .val (.int (1 : Int32)), .val (.int ia), .val (.int ja), .val (.int ka), .val (.int (0 : Int32)), .val (.int (1 : Int32)), .val (.int ia), .val (.int ia), .val (.int (3 : Int32)), .val (.ref r125)] [])) (fun _ ks_ => XS.istore X284.here hx rfl (hb hby at_442) rfl  (l' := #[.val (.int p0), .val (.int p1), .val (.int p2), .val (.int p3), .val (.int p4), .val (.long q5), .second, .val (.ref b1), .val (.ref b22), .val (.ref r125), .val (.ref r142), .val (.ref r160), .val (.int (0 : Int32)), .val (.int (1 : Int32)), .val (.int (2 : Int32)), .val (.int (1 : Int32)), .val (.int ia), .val (.int ja), .val (.int ka), .val (.int (0 : Int32)), .val (.int (1 : Int32)), .val (.int ia), .val (.int ia), .val (.int (3 : Int32)), .val (.ref r125)]) rfl ks_) ?_
        refine go (u' := T284.setTop (mkF m 446 #[.val (.int p0), .val (.int p1), .val (.int p2), .val (.int p3), .val (.int p4), .val (.long q5), .second, .val (.ref b1), .val (.ref b22), .val (.ref r125), .val (.ref r142), .val (.ref r160), .val (.int (0 : Int32)), .val (.int (1 : Int32)), .val (.int (2 : Int32)), .val (.int (1 : Int32)), .val (.int ia), .val (.int ja), .val (.int ka), .val (.int (0 : Int32)), .val (.int (1 : Int32)), .val (.int ia), .val (.int ia), .val (.int (3 : Int32)), .val (.ref r125)] [(.int (1 : Int32))])) (fun _ ks_ => XS.iload X284.here hx rfl (hb hby at_444) rfl  ks_) ?_
        rw [hG]
        refine gN X284 hx hlk (t := .boolean) hret (by simp) rfl (hb hby at_446) ?_ (Nat.le_of_ble_eq_true rfl) (Nat.le_of_ble_eq_true rfl)
        show Q_rm0 Z p0 p1 p2 p3 p4 q5 h0 n0 (some (.int (1 : Int32))) T284.heap _
        rw [eq284]
        exact ⟨rfl, N284⟩
      ·
        have hd3 : 3 < n_ ∧ n_ ≤ 16 := own_ln3 ⟨hR.1.1, hR.1.2⟩ hc3
        refine go (u' := T242.setTop (mkF m 368 #[.val (.int p0), .val (.int p1), .val (.int p2), .val (.int p3), .val (.int p4), .val (.long q5), .second, .val (.ref b1), .val (.ref b22), .val (.ref r125), .val (.ref r142), .val (.ref r160), .val (.int (0 : Int32)), .val (.int (1 : Int32)), .val (.int (2 : Int32)), .val (.int (1 : Int32)), .val (.int ia), .val (.int ja), .val (.int ka), .val (.int (0 : Int32)), .val (.int (1 : Int32)), .val (.int ia), .val (.int ia), .unset, .unset] [(.ref b1)])) (fun _ ks_ => XS.aload X242.here hx rfl (hb hby at_366) rfl rfl ks_) ?_
        refine go (u' := T242.setTop (mkF m 370 #[.val (.int p0), .val (.int p1), .val (.int p2), .val (.int p3), .val (.int p4), .val (.long q5), .second, .val (.ref b1), .val (.ref b22), .val (.ref r125), .val (.ref r142), .val (.ref r160), .val (.int (0 : Int32)), .val (.int (1 : Int32)), .val (.int (2 : Int32)), .val (.int (1 : Int32)), .val (.int ia), .val (.int ja), .val (.int ka), .val (.int (0 : Int32)), .val (.int (1 : Int32)), .val (.int ia), .val (.int ia), .unset, .unset] [(.ref r160), (.ref b1)])) (fun _ ks_ => XS.aload X242.here hx rfl (hb hby at_368) rfl rfl ks_) ?_
        obtain ⟨cq285, kq285, q285a, q285b, q285c⟩ := isOf hZ (rfl : T242.heap = _) Fa243
        obtain ⟨_, _, ⟨T285, L285, k285, n285⟩, -, X285, ⟨Lc285, hQ285, l285, y285, z285⟩, st285⟩ := X242.virtualBack hx (y := (⟨"com/example/emberlot/emberlot/Slots", "add", "(Ljava/lang/Object;)I"⟩ : MethodName)) (z := (⟨"com/example/emberlot/emberlot/Slots", "add", "(Ljava/lang/Object;)I"⟩ : MethodName)) hown (mvT hZ (ww hw 58 rfl)) (mvT hZ (ww hw 59 rfl)) (notFace_of_selects (args := #[]) (mvT hZ (ww hw 61 rfl))) (mvT hZ (ww hw 61 rfl)) (mvT hZ (ww hw 60 rfl)) (by decide) (backOf (W := 0) (rm8n l Z a0 hw [] b1 r160 na_ pa10 xa10 ca10 af_ fa.toNatClampNeg n_ ln_ (upd (upd nd_ (ia).toNatClampNeg .null) (ia).toNatClampNeg (.ref r125)) gs1242 E10 (-1 : Int32) (3 : Int32) T242.heap n0 Z242 Fa243 Fa244 Fa245 Fa246 Fa247 Fa248 Fa261 Fa250 Fa251 Fa260 hR.2.1 rfl (own_nt3 hd3).1 (own_nt3 hd3).2 hd3.2) hZ (ww hw 62 rfl) (ww hw 2 rfl) (by decide) (by decide)) q285a q285c (g := (mkF m 370 #[.val (.int p0), .val (.int p1), .val (.int p2), .val (.int p3), .val (.int p4), .val (.long q5), .second, .val (.ref b1), .val (.ref b22), .val (.ref r125), .val (.ref r142), .val (.ref r160), .val (.int (0 : Int32)), .val (.int (1 : Int32)), .val (.int (2 : Int32)), .val (.int (1 : Int32)), .val (.int ia), .val (.int ja), .val (.int ka), .val (.int (0 : Int32)), .val (.int (1 : Int32)), .val (.int ia), .val (.int ia), .unset, .unset] [(.ref r160), (.ref b1)])) rfl (by rw [hml]; rfl) (Steps.refl _) (argsL := [(.ref r160)]) (rest := []) (lenOf pd__40_Ljava_47_lang_47_Object_59__41_I rfl) rfl (by show 2 * 0 + _ ≤ _; exact Nat.le_of_eq rfl) (hb hby at_370) (fun _ _ => ⟨rfl, (rfl : T242.heap = _), (by decide : 44 + 0 ≤ _), (by decide : 348 + 0 ≤ _)⟩)
        dsimp only [Pt.U, Pt.locs, Pt.cells, Pt.slots] at X285 l285 y285 z285 st285 hQ285
        subst l285 y285 z285
        obtain ⟨na1285, af1285, n1285, ln1285, nd1285, gs1285, rfl, N285q, Kq285, Fa286, Fa287, Fa288, Fa289, Fa290, Fa291, Fa292, Fa293, Fa294, sub_285, add_285, gx_285⟩ := hQ285
        have N285 := Fr.app N242 N285q
        have K285 : Keep h0 T285.heap [] := K242.trans Kq285 (own_WlLo Fa251 hn0)
        have Z285 : n0 ≤ T285.heap.size := Nat.le_trans Z242 Kq285.1
        have Fa295 : Exa Z T285.heap b1 "com/example/emberlot/emberlot/Slots" := Fa243.keep Kq285
        have Fa296 : PR Z T285.heap b22 (.object "java/lang/Object") "java/lang/Object" 3 (fun u => Value.ref (oad r34 r62 r92 u)) := Fa253.keep Kq285 (own_nW hno3)
        have Fa297 : Exa Z T285.heap b22 "[Ljava/lang/Object;" := Fa254.keep Kq285
        have Fa298 : Exa Z T285.heap r34 "java/lang/Integer" := Fa255.keep Kq285
        have Fa299 : Exa Z T285.heap r62 "java/lang/Integer" := Fa256.keep Kq285
        have Fa300 : Exa Z T285.heap r92 "java/lang/Integer" := Fa257.keep Kq285
        have Fa301 : Exa Z T285.heap r125 "java/lang/Integer" := Fa258.keep Kq285
        have Fa302 : Exa Z T285.heap r142 "java/lang/Integer" := Fa259.keep Kq285
        have Fa303 : Exa Z T285.heap r160 "java/lang/Integer" := Fa260.keep Kq285
        refine goT (u' := T285.setTop (mkF m 373 #[.val (.int p0), .val (.int p1), .val (.int p2), .val (.int p3), .val (.int p4), .val (.long q5), .second, .val (.ref b1), .val (.ref b22), .val (.ref r125), .val (.ref r142), .val (.ref r160), .val (.int (0 : Int32)), .val (.int (1 : Int32)), .val (.int (2 : Int32)), .val (.int (1 : Int32)), .val (.int ia), .val (.int ja), .val (.int ka), .val (.int (0 : Int32)), .val (.int (1 : Int32)), .val (.int ia), .val (.int ia), .unset, .unset] [(.int (3 : Int32))])) st285 ?_
        have Fa304 : Fld Z T285.heap b1 "com/example/emberlot/emberlot/Slots" "taken" "I" (.int (4 : Int32)) := own_Fto Fa293 (congrArg Value.int (by decide))
        have hno305 : ∀ i, i < 6 + 2 * fa.toNatClampNeg → adr b1 na1285 pa10 xa10 ca10 af1285 i ≠ b22 := own_nS hno3 Fa253.lt sub_285
        refine go (u' := T285.setTop (mkF m 375 #[.val (.int p0), .val (.int p1), .val (.int p2), .val (.int p3), .val (.int p4), .val (.long q5), .second, .val (.ref b1), .val (.ref b22), .val (.ref r125), .val (.ref r142), .val (.ref r160), .val (.int (0 : Int32)), .val (.int (1 : Int32)), .val (.int (2 : Int32)), .val (.int (1 : Int32)), .val (.int ia), .val (.int ja), .val (.int ka), .val (.int (0 : Int32)), .val (.int (1 : Int32)), .val (.int ia), .val (.int ia), .val (.int (3 : Int32)), .unset] [])) (fun _ ks_ => XS.istore X285.here hx rfl (hb hby at_373) rfl  (l' := #[.val (.int p0), .val (.int p1), .val (.int p2), .val (.int p3), .val (.int p4), .val (.long q5), .second, .val (.ref b1), .val (.ref b22), .val (.ref r125), .val (.ref r142), .val (.ref r160), .val (.int (0 : Int32)), .val (.int (1 : Int32)), .val (.int (2 : Int32)), .val (.int (1 : Int32)), .val (.int ia), .val (.int ja), .val (.int ka), .val (.int (0 : Int32)), .val (.int (1 : Int32)), .val (.int ia), .val (.int ia), .val (.int (3 : Int32)), .unset]) rfl ks_) ?_
        refine go (u' := T285.setTop (mkF m 377 #[.val (.int p0), .val (.int p1), .val (.int p2), .val (.int p3), .val (.int p4), .val (.long q5), .second, .val (.ref b1), .val (.ref b22), .val (.ref r125), .val (.ref r142), .val (.ref r160), .val (.int (0 : Int32)), .val (.int (1 : Int32)), .val (.int (2 : Int32)), .val (.int (1 : Int32)), .val (.int ia), .val (.int ja), .val (.int ka), .val (.int (0 : Int32)), .val (.int (1 : Int32)), .val (.int ia), .val (.int ia), .val (.int (3 : Int32)), .unset] [(.int (1 : Int32))])) (fun _ ks_ => XS.iload X285.here hx rfl (hb hby at_375) rfl  ks_) ?_
        refine go (u' := T285.setTop (mkF m 380 #[.val (.int p0), .val (.int p1), .val (.int p2), .val (.int p3), .val (.int p4), .val (.long q5), .second, .val (.ref b1), .val (.ref b22), .val (.ref r125), .val (.ref r142), .val (.ref r160), .val (.int (0 : Int32)), .val (.int (1 : Int32)), .val (.int (2 : Int32)), .val (.int (1 : Int32)), .val (.int ia), .val (.int ja), .val (.int ka), .val (.int (0 : Int32)), .val (.int (1 : Int32)), .val (.int ia), .val (.int ia), .val (.int (3 : Int32)), .unset] [])) (fun _ ks_ => XS.ifNo X285.here hx rfl (hb hby at_377) rfl ((if0 _ _).trans (feq (show ¬ ((1 : Int32) = (0 : Int32)) from (by decide))).1) ks_) ?_
        refine go (u' := T285.setTop (mkF m 382 #[.val (.int p0), .val (.int p1), .val (.int p2), .val (.int p3), .val (.int p4), .val (.long q5), .second, .val (.ref b1), .val (.ref b22), .val (.ref r125), .val (.ref r142), .val (.ref r160), .val (.int (0 : Int32)), .val (.int (1 : Int32)), .val (.int (2 : Int32)), .val (.int (1 : Int32)), .val (.int ia), .val (.int ja), .val (.int ka), .val (.int (0 : Int32)), .val (.int (1 : Int32)), .val (.int ia), .val (.int ia), .val (.int (3 : Int32)), .unset] [(.int (3 : Int32))])) (fun _ ks_ => XS.iload X285.here hx rfl (hb hby at_380) rfl  ks_) ?_
        refine go (u' := T285.setTop (mkF m 383 #[.val (.int p0), .val (.int p1), .val (.int p2), .val (.int p3), .val (.int p4), .val (.long q5), .second, .val (.ref b1), .val (.ref b22), .val (.ref r125), .val (.ref r142), .val (.ref r160), .val (.int (0 : Int32)), .val (.int (1 : Int32)), .val (.int (2 : Int32)), .val (.int (1 : Int32)), .val (.int ia), .val (.int ja), .val (.int ka), .val (.int (0 : Int32)), .val (.int (1 : Int32)), .val (.int ia), .val (.int ia), .val (.int (3 : Int32)), .unset] [(.int (3 : Int32)), (.int (3 : Int32))])) (fun _ ks_ => XS.iconst X285.here hx rfl (hb hby at_382) ks_) ?_
        refine go (u' := T285.setTop (mkF m 386 #[.val (.int p0), .val (.int p1), .val (.int p2), .val (.int p3), .val (.int p4), .val (.long q5), .second, .val (.ref b1), .val (.ref b22), .val (.ref r125), .val (.ref r142), .val (.ref r160), .val (.int (0 : Int32)), .val (.int (1 : Int32)), .val (.int (2 : Int32)), .val (.int (1 : Int32)), .val (.int ia), .val (.int ja), .val (.int ka), .val (.int (0 : Int32)), .val (.int (1 : Int32)), .val (.int ia), .val (.int ia), .val (.int (3 : Int32)), .unset] [])) (fun _ ks_ => XS.icmpNo X285.here hx rfl (hb hby at_383) rfl (teq (show (3 : Int32) = (3 : Int32) from (by decide))).2 ks_) ?_
        refine go (u' := T285.setTop (mkF m 387 #[.val (.int p0), .val (.int p1), .val (.int p2), .val (.int p3), .val (.int p4), .val (.long q5), .second, .val (.ref b1), .val (.ref b22), .val (.ref r125), .val (.ref r142), .val (.ref r160), .val (.int (0 : Int32)), .val (.int (1 : Int32)), .val (.int (2 : Int32)), .val (.int (1 : Int32)), .val (.int ia), .val (.int ja), .val (.int ka), .val (.int (0 : Int32)), .val (.int (1 : Int32)), .val (.int ia), .val (.int ia), .val (.int (3 : Int32)), .unset] [(.int (1 : Int32))])) (fun _ ks_ => XS.iconst X285.here hx rfl (hb hby at_386) ks_) ?_
        refine go (u' := T285.setTop (mkF m 391 #[.val (.int p0), .val (.int p1), .val (.int p2), .val (.int p3), .val (.int p4), .val (.long q5), .second, .val (.ref b1), .val (.ref b22), .val (.ref r125), .val (.ref r142), .val (.ref r160), .val (.int (0 : Int32)), .val (.int (1 : Int32)), .val (.int (2 : Int32)), .val (.int (1 : Int32)), .val (.int ia), .val (.int ja), .val (.int ka), .val (.int (0 : Int32)), .val (.int (1 : Int32)), .val (.int ia), .val (.int ia), .val (.int (3 : Int32)), .unset] [(.int (1 : Int32))])) (fun _ ks_ => XS.goto X285.here hx rfl (pc0 := 387) (pc' := 391) rfl (hb hby at_387) (by decide) (by decide) ks_) ?_
        refine go (u' := T285.setTop (mkF m 393 #[.val (.int p0), .val (.int p1), .val (.int p2), .val (.int p3), .val (.int p4), .val (.long q5), .second, .val (.ref b1), .val (.ref b22), .val (.ref r125), .val (.ref r142), .val (.ref r160), .val (.int (0 : Int32)), .val (.int (1 : Int32)), .val (.int (2 : Int32)), .val (.int (1 : Int32)), .val (.int ia), .val (.int ja), .val (.int ka), .val (.int (0 : Int32)), .val (.int (1 : Int32)), .val (.int ia), .val (.int ia), .val (.int (3 : Int32)), .unset] [])) (fun _ ks_ => XS.istore X285.here hx rfl (hb hby at_391) rfl  (l' := #[.val (.int p0), .val (.int p1), .val (.int p2), .val (.int p3), .val (.int p4), .val (.long q5), .second, .val (.ref b1), .val (.ref b22), .val (.ref r125), .val (.ref r142), .val (.ref r160), .val (.int (0 : Int32)), .val (.int (1 : Int32)), .val (.int (2 : Int32)), .val (.int (1 : Int32)), .val (.int ia), .val (.int ja), .val (.int ka), .val (.int (0 : Int32)), .val (.int (1 : Int32)), .val (.int ia), .val (.int ia), .val (.int (3 : Int32)), .unset]) rfl ks_) ?_
        refine go (u' := T285.setTop (mkF m 395 #[.val (.int p0), .val (.int p1), .val (.int p2), .val (.int p3), .val (.int p4), .val (.long q5), .second, .val (.ref b1), .val (.ref b22), .val (.ref r125), .val (.ref r142), .val (.ref r160), .val (.int (0 : Int32)), .val (.int (1 : Int32)), .val (.int (2 : Int32)), .val (.int (1 : Int32)), .val (.int ia), .val (.int ja), .val (.int ka), .val (.int (0 : Int32)), .val (.int (1 : Int32)), .val (.int ia), .val (.int ia), .val (.int (3 : Int32)), .unset] [(.int (0 : Int32))])) (fun _ ks_ => XS.iload X285.here hx rfl (hb hby at_393) rfl  ks_) ?_
        refine go (u' := T285.setTop (mkF m 403 #[.val (.int p0), .val (.int p1), .val (.int p2), .val (.int p3), .val (.int p4), .val (.long q5), .second, .val (.ref b1), .val (.ref b22), .val (.ref r125), .val (.ref r142), .val (.ref r160), .val (.int (0 : Int32)), .val (.int (1 : Int32)), .val (.int (2 : Int32)), .val (.int (1 : Int32)), .val (.int ia), .val (.int ja), .val (.int ka), .val (.int (0 : Int32)), .val (.int (1 : Int32)), .val (.int ia), .val (.int ia), .val (.int (3 : Int32)), .unset] [])) (fun _ ks_ => XS.ifYes X285.here hx rfl (pc0 := 395) (pc' := 403) rfl (hb hby at_395) rfl ((if0 _ _).trans (teq (show (0 : Int32) = (0 : Int32) from (by decide))).1) (by decide) (by decide) ks_) ?_
        refine go (u' := T285.setTop (mkF m 405 #[.val (.int p0), .val (.int p1), .val (.int p2), .val (.int p3), .val (.int p4), .val (.long q5), .second, .val (.ref b1), .val (.ref b22), .val (.ref r125), .val (.ref r142), .val (.ref r160), .val (.int (0 : Int32)), .val (.int (1 : Int32)), .val (.int (2 : Int32)), .val (.int (1 : Int32)), .val (.int ia), .val (.int ja), .val (.int ka), .val (.int (0 : Int32)), .val (.int (1 : Int32)), .val (.int ia), .val (.int ia), .val (.int (3 : Int32)), .unset] [(.ref r125)])) (fun _ ks_ => XS.aload X285.here hx rfl (hb hby at_403) rfl rfl ks_) ?_
        refine go (u' := T285.setTop (mkF m 407 #[.val (.int p0), .val (.int p1), .val (.int p2), .val (.int p3), .val (.int p4), .val (.long q5), .second, .val (.ref b1), .val (.ref b22), .val (.ref r125), .val (.ref r142), .val (.ref r160), .val (.int (0 : Int32)), .val (.int (1 : Int32)), .val (.int (2 : Int32)), .val (.int (1 : Int32)), .val (.int ia), .val (.int ja), .val (.int ka), .val (.int (0 : Int32)), .val (.int (1 : Int32)), .val (.int ia), .val (.int ia), .val (.int (3 : Int32)), .val (.ref r125)] [])) (fun _ ks_ => XS.astore X285.here hx rfl (hb hby at_405) rfl rfl (l' := #[.val (.int p0), .val (.int p1), .val (.int p2), .val (.int p3), .val (.int p4), .val (.long q5), .second, .val (.ref b1), .val (.ref b22), .val (.ref r125), .val (.ref r142), .val (.ref r160), .val (.int (0 : Int32)), .val (.int (1 : Int32)), .val (.int (2 : Int32)), .val (.int (1 : Int32)), .val (.int ia), .val (.int ja), .val (.int ka), .val (.int (0 : Int32)), .val (.int (1 : Int32)), .val (.int ia), .val (.int ia), .val (.int (3 : Int32)), .val (.ref r125)]) rfl ks_) ?_
        refine go (u' := T285.setTop (mkF m 409 #[.val (.int p0), .val (.int p1), .val (.int p2), .val (.int p3), .val (.int p4), .val (.long q5), .second, .val (.ref b1), .val (.ref b22), .val (.ref r125), .val (.ref r142), .val (.ref r160), .val (.int (0 : Int32)), .val (.int (1 : Int32)), .val (.int (2 : Int32)), .val (.int (1 : Int32)), .val (.int ia), .val (.int ja), .val (.int ka), .val (.int (0 : Int32)), .val (.int (1 : Int32)), .val (.int ia), .val (.int ia), .val (.int (3 : Int32)), .val (.ref r125)] [(.int (1 : Int32))])) (fun _ ks_ => XS.iload X285.here hx rfl (hb hby at_407) rfl  ks_) ?_
        refine go (u' := T285.setTop (mkF m 412 #[.val (.int p0), .val (.int p1), .val (.int p2), .val (.int p3), .val (.int p4), .val (.long q5), .second, .val (.ref b1), .val (.ref b22), .val (.ref r125), .val (.ref r142), .val (.ref r160), .val (.int (0 : Int32)), .val (.int (1 : Int32)), .val (.int (2 : Int32)), .val (.int (1 : Int32)), .val (.int ia), .val (.int ja), .val (.int ka), .val (.int (0 : Int32)), .val (.int (1 : Int32)), .val (.int ia), .val (.int ia), .val (.int (3 : Int32)), .val (.ref r125)] [])) (fun _ ks_ => XS.ifNo X285.here hx rfl (hb hby at_409) rfl ((if0 _ _).trans (feq (show ¬ ((1 : Int32) = (0 : Int32)) from (by decide))).1) ks_) ?_
        refine go (u' := T285.setTop (mkF m 414 #[.val (.int p0), .val (.int p1), .val (.int p2), .val (.int p3), .val (.int p4), .val (.long q5), .second, .val (.ref b1), .val (.ref b22), .val (.ref r125), .val (.ref r142), .val (.ref r160), .val (.int (0 : Int32)), .val (.int (1 : Int32)), .val (.int (2 : Int32)), .val (.int (1 : Int32)), .val (.int ia), .val (.int ja), .val (.int ka), .val (.int (0 : Int32)), .val (.int (1 : Int32)), .val (.int ia), .val (.int ia), .val (.int (3 : Int32)), .val (.ref r125)] [(.ref b1)])) (fun _ ks_ => XS.aload X285.here hx rfl (hb hby at_412) rfl rfl ks_) ?_
        refine go (u' := T285.setTop (mkF m 416 #[.val (.int p0), .val (.int p1), .val (.int p2), .val (.int p3), .val (.int p4), .val (.long q5), .second, .val (.ref b1), .val (.ref b22), .val (.ref r125), .val (.ref r142), .val (.ref r160), .val (.int (0 : Int32)), .val (.int (1 : Int32)), .val (.int (2 : Int32)), .val (.int (1 : Int32)), .val (.int ia), .val (.int ja), .val (.int ka), .val (.int (0 : Int32)), .val (.int (1 : Int32)), .val (.int ia), .val (.int ia), .val (.int (3 : Int32)), .val (.ref r125)] [(.int ia), (.ref b1)])) (fun _ ks_ => XS.iload X285.here hx rfl (hb hby at_414) rfl  ks_) ?_
        obtain ⟨cq306, kq306, q306a, q306b, q306c⟩ := isOf hZ (rfl : T285.heap = _) Fa286
        obtain ⟨_, _, ⟨T306, L306, k306, n306⟩, -, X306, ⟨Lc306, hQ306, l306, y306, z306⟩, st306⟩ := X285.virtualBack hx (y := (⟨"com/example/emberlot/emberlot/Slots", "node", "(I)Ljava/lang/Object;"⟩ : MethodName)) (z := (⟨"com/example/emberlot/emberlot/Slots", "node", "(I)Ljava/lang/Object;"⟩ : MethodName)) hown (mvT hZ (ww hw 107 rfl)) (mvT hZ (ww hw 108 rfl)) (notFace_of_selects (args := #[]) (mvT hZ (ww hw 110 rfl))) (mvT hZ (ww hw 110 rfl)) (mvT hZ (ww hw 109 rfl)) (by decide) (backOf (W := 0) (rm16 l Z a0 hw [] b1 ia na1285 pa10 xa10 ca10 af1285 fa.toNatClampNeg n1285 ln1285 nd1285 gs1285 E10 (-1 : Int32) (4 : Int32) T285.heap n0 Z285 Fa286 Fa287 Fa288 Fa289 Fa290 Fa291 Fa292 Fa304 Fa294 add_285.2.1 (own_j3 hI.1 (own_aj add_285)) hI.2.2.2.2.2.2.1) hZ (ww hw 111 rfl) (ww hw 2 rfl) (by decide) (by decide)) q306a q306c (g := (mkF m 416 #[.val (.int p0), .val (.int p1), .val (.int p2), .val (.int p3), .val (.int p4), .val (.long q5), .second, .val (.ref b1), .val (.ref b22), .val (.ref r125), .val (.ref r142), .val (.ref r160), .val (.int (0 : Int32)), .val (.int (1 : Int32)), .val (.int (2 : Int32)), .val (.int (1 : Int32)), .val (.int ia), .val (.int ja), .val (.int ka), .val (.int (0 : Int32)), .val (.int (1 : Int32)), .val (.int ia), .val (.int ia), .val (.int (3 : Int32)), .val (.ref r125)] [(.int ia), (.ref b1)])) rfl (by rw [hml]; rfl) (Steps.refl _) (argsL := [(.int ia)]) (rest := []) (lenOf pd__40_I_41_Ljava_47_lang_47_Object_59_ rfl) rfl (by show 2 * 0 + _ ≤ _; exact Nat.le_of_eq rfl) (hb hby at_416) (fun _ _ => ⟨rfl, (rfl : T285.heap = _), (by decide : 44 + 0 ≤ _), (by decide : 348 + 0 ≤ _)⟩)
        dsimp only [Pt.U, Pt.locs, Pt.cells, Pt.slots] at X306 l306 y306 z306 st306 hQ306
        subst l306 y306 z306
        obtain ⟨rfl, N306q, eq306⟩ := hQ306
        have N306 := Fr.app N285 N306q
        rw [show (nd1285 ia.toNatClampNeg) = (.ref r125) from ((add_285.2.2.2.1 _ hI.1.2).trans own_u1)] at st306
        refine goT (u' := T306.setTop (mkF m 419 #[.val (.int p0), .val (.int p1), .val (.int p2), .val (.int p3), .val (.int p4), .val (.long q5), .second, .val (.ref b1), .val (.ref b22), .val (.ref r125), .val (.ref r142), .val (.ref r160), .val (.int (0 : Int32)), .val (.int (1 : Int32)), .val (.int (2 : Int32)), .val (.int (1 : Int32)), .val (.int ia), .val (.int ja), .val (.int ka), .val (.int (0 : Int32)), .val (.int (1 : Int32)), .val (.int ia), .val (.int ia), .val (.int (3 : Int32)), .val (.ref r125)] [(.ref r125)])) st306 ?_
        refine go (u' := T306.setTop (mkF m 421 #[.val (.int p0), .val (.int p1), .val (.int p2), .val (.int p3), .val (.int p4), .val (.long q5), .second, .val (.ref b1), .val (.ref b22), .val (.ref r125), .val (.ref r142), .val (.ref r160), .val (.int (0 : Int32)), .val (.int (1 : Int32)), .val (.int (2 : Int32)), .val (.int (1 : Int32)), .val (.int ia), .val (.int ja), .val (.int ka), .val (.int (0 : Int32)), .val (.int (1 : Int32)), .val (.int ia), .val (.int ia), .val (.int (3 : Int32)), .val (.ref r125)] [(.ref r125), (.ref r125)])) (fun _ ks_ => XS.aload X306.here hx rfl (hb hby at_419) rfl rfl ks_) ?_
        refine go (u' := T306.setTop (mkF m 424 #[.val (.int p0), .val (.int p1), .val (.int p2), .val (.int p3), .val (.int p4), .val (.long q5), .second, .val (.ref b1), .val (.ref b22), .val (.ref r125), .val (.ref r142), .val (.ref r160), .val (.int (0 : Int32)), .val (.int (1 : Int32)), .val (.int (2 : Int32)), .val (.int (1 : Int32)), .val (.int ia), .val (.int ja), .val (.int ka), .val (.int (0 : Int32)), .val (.int (1 : Int32)), .val (.int ia), .val (.int ia), .val (.int (3 : Int32)), .val (.ref r125)] [])) (fun _ ks_ => Jvm.RoadKit.acmp (g := (mkF m 421 #[.val (.int p0), .val (.int p1), .val (.int p2), .val (.int p3), .val (.int p4), .val (.long q5), .second, .val (.ref b1), .val (.ref b22), .val (.ref r125), .val (.ref r142), .val (.ref r160), .val (.int (0 : Int32)), .val (.int (1 : Int32)), .val (.int (2 : Int32)), .val (.int (1 : Int32)), .val (.int ia), .val (.int ja), .val (.int ka), .val (.int (0 : Int32)), .val (.int (1 : Int32)), .val (.int ia), .val (.int ia), .val (.int (3 : Int32)), .val (.ref r125)] [(.ref r125), (.ref r125)])) X306 hx rfl rfl rfl (pc0 := 421) (pc' := 424) (same := true) rfl (hb hby at_421) rfl (decide_eq_true rfl) (by decide) (by decide) ks_) ?_
        refine go (u' := T306.setTop (mkF m 426 #[.val (.int p0), .val (.int p1), .val (.int p2), .val (.int p3), .val (.int p4), .val (.long q5), .second, .val (.ref b1), .val (.ref b22), .val (.ref r125), .val (.ref r142), .val (.ref r160), .val (.int (0 : Int32)), .val (.int (1 : Int32)), .val (.int (2 : Int32)), .val (.int (1 : Int32)), .val (.int ia), .val (.int ja), .val (.int ka), .val (.int (0 : Int32)), .val (.int (1 : Int32)), .val (.int ia), .val (.int ia), .val (.int (3 : Int32)), .val (.ref r125)] [(.ref b1)])) (fun _ ks_ => XS.aload X306.here hx rfl (hb hby at_424) rfl rfl ks_) ?_
        refine go (u' := T306.setTop (mkF m 427 #[.val (.int p0), .val (.int p1), .val (.int p2), .val (.int p3), .val (.int p4), .val (.long q5), .second, .val (.ref b1), .val (.ref b22), .val (.ref r125), .val (.ref r142), .val (.ref r160), .val (.int (0 : Int32)), .val (.int (1 : Int32)), .val (.int (2 : Int32)), .val (.int (1 : Int32)), .val (.int ia), .val (.int ja), .val (.int ka), .val (.int (0 : Int32)), .val (.int (1 : Int32)), .val (.int ia), .val (.int ia), .val (.int (3 : Int32)), .val (.ref r125)] [(.int (0 : Int32)), (.ref b1)])) (fun _ ks_ => XS.iconst X306.here hx rfl (hb hby at_426) ks_) ?_
        refine go (u' := T306.setTop (mkF m 429 #[.val (.int p0), .val (.int p1), .val (.int p2), .val (.int p3), .val (.int p4), .val (.long q5), .second, .val (.ref b1), .val (.ref b22), .val (.ref r125), .val (.ref r142), .val (.ref r160), .val (.int (0 : Int32)), .val (.int (1 : Int32)), .val (.int (2 : Int32)), .val (.int (1 : Int32)), .val (.int ia), .val (.int ja), .val (.int ka), .val (.int (0 : Int32)), .val (.int (1 : Int32)), .val (.int ia), .val (.int ia), .val (.int (3 : Int32)), .val (.ref r125)] [(.int ia), (.int (0 : Int32)), (.ref b1)])) (fun _ ks_ => XS.iload X306.here hx rfl (hb hby at_427) rfl  ks_) ?_
        obtain ⟨cq307, kq307, q307a, q307b, q307c⟩ := isOf hZ eq306 Fa286
        obtain ⟨_, _, ⟨T307, L307, k307, n307⟩, -, X307, ⟨Lc307, hQ307, l307, y307, z307⟩, st307⟩ := X306.virtualBack hx (y := (⟨"com/example/emberlot/emberlot/Slots", "get", "(II)I"⟩ : MethodName)) (z := (⟨"com/example/emberlot/emberlot/Slots", "get", "(II)I"⟩ : MethodName)) hown (mvT hZ (ww hw 112 rfl)) (mvT hZ (ww hw 113 rfl)) (notFace_of_selects (args := #[]) (mvT hZ (ww hw 115 rfl))) (mvT hZ (ww hw 115 rfl)) (mvT hZ (ww hw 114 rfl)) (by decide) (backOf (W := 0) (rm17 l Z a0 hw [] b1 ia na1285 pa10 xa10 ca10 af1285 fa.toNatClampNeg n1285 ln1285 nd1285 gs1285 E10 (-1 : Int32) (4 : Int32) T285.heap n0 Z285 Fa286 Fa287 Fa288 Fa289 Fa290 Fa291 Fa292 Fa304 Fa294 add_285.2.1 (own_j3 hI.1 (own_aj add_285))) hZ (ww hw 116 rfl) (ww hw 2 rfl) (by decide) (by decide)) q307a q307c (g := (mkF m 429 #[.val (.int p0), .val (.int p1), .val (.int p2), .val (.int p3), .val (.int p4), .val (.long q5), .second, .val (.ref b1), .val (.ref b22), .val (.ref r125), .val (.ref r142), .val (.ref r160), .val (.int (0 : Int32)), .val (.int (1 : Int32)), .val (.int (2 : Int32)), .val (.int (1 : Int32)), .val (.int ia), .val (.int ja), .val (.int ka), .val (.int (0 : Int32)), .val (.int (1 : Int32)), .val (.int ia), .val (.int ia), .val (.int (3 : Int32)), .val (.ref r125)] [(.int ia), (.int (0 : Int32)), (.ref b1)])) rfl (by rw [hml]; rfl) (Steps.refl _) (argsL := [(.int (0 : Int32)), (.int ia)]) (rest := []) (lenOf pd__40_II_41_I rfl) rfl (by show 2 * 0 + _ ≤ _; exact Nat.le_of_eq rfl) (hb hby at_429) (fun _ _ => ⟨rfl, eq306, (by decide : 44 + 0 ≤ _), (by decide : 348 + 0 ≤ _)⟩)
        dsimp only [Pt.U, Pt.locs, Pt.cells, Pt.slots] at X307 l307 y307 z307 st307 hQ307
        subst l307 y307 z307
        obtain ⟨rfl, N307q, eq307⟩ := hQ307
        have N307 := Fr.app N306 N307q
        rw [show (gs1285 0 ia.toNatClampNeg) = p4 from (own_g1 (add_285.2.2.2.2.2 _ hI.1.2).1 a0_242)] at st307
        refine goT (u' := T307.setTop (mkF m 432 #[.val (.int p0), .val (.int p1), .val (.int p2), .val (.int p3), .val (.int p4), .val (.long q5), .second, .val (.ref b1), .val (.ref b22), .val (.ref r125), .val (.ref r142), .val (.ref r160), .val (.int (0 : Int32)), .val (.int (1 : Int32)), .val (.int (2 : Int32)), .val (.int (1 : Int32)), .val (.int ia), .val (.int ja), .val (.int ka), .val (.int (0 : Int32)), .val (.int (1 : Int32)), .val (.int ia), .val (.int ia), .val (.int (3 : Int32)), .val (.ref r125)] [(.int p4)])) st307 ?_
        refine go (u' := T307.setTop (mkF m 434 #[.val (.int p0), .val (.int p1), .val (.int p2), .val (.int p3), .val (.int p4), .val (.long q5), .second, .val (.ref b1), .val (.ref b22), .val (.ref r125), .val (.ref r142), .val (.ref r160), .val (.int (0 : Int32)), .val (.int (1 : Int32)), .val (.int (2 : Int32)), .val (.int (1 : Int32)), .val (.int ia), .val (.int ja), .val (.int ka), .val (.int (0 : Int32)), .val (.int (1 : Int32)), .val (.int ia), .val (.int ia), .val (.int (3 : Int32)), .val (.ref r125)] [(.int p4), (.int p4)])) (fun _ ks_ => XS.iload X307.here hx rfl (hb hby at_432) rfl  ks_) ?_
        refine go (u' := T307.setTop (mkF m 437 #[.val (.int p0), .val (.int p1), .val (.int p2), .val (.int p3), .val (.int p4), .val (.long q5), .second, .val (.ref b1), .val (.ref b22), .val (.ref r125), .val (.ref r142), .val (.ref r160), .val (.int (0 : Int32)), .val (.int (1 : Int32)), .val (.int (2 : Int32)), .val (.int (1 : Int32)), .val (.int ia), .val (.int ja), .val (.int ka), .val (.int (0 : Int32)), .val (.int (1 : Int32)), .val (.int ia), .val (.int ia), .val (.int (3 : Int32)), .val (.ref r125)] [])) (fun _ ks_ => XS.icmpNo X307.here hx rfl (hb hby at_434) rfl (teq rfl).2 ks_) ?_
        refine go (u' := T307.setTop (mkF m 438 #[.val (.int p0), .val (.int p1), .val (.int p2), .val (.int p3), .val (.int p4), .val (.long q5), .second, .val (.ref b1), .val (.ref b22), .val (.ref r125), .val (.ref r142), .val (.ref r160), .val (.int (0 : Int32)), .val (.int (1 : Int32)), .val (.int (2 : Int32)), .val (.int (1 : Int32)), .val (.int ia), .val (.int ja), .val (.int ka), .val (.int (0 : Int32)), .val (.int (1 : Int32)), .val (.int ia), .val (.int ia), .val (.int (3 : Int32)), .val (.ref r125)] [(.int (1 : Int32))])) (fun _ ks_ => XS.iconst X307.here hx rfl (hb hby at_437) ks_) ?_
        refine go (u' := T307.setTop (mkF m 442 #[.val (.int p0), .val (.int p1), .val (.int p2), .val (.int p3), .val (.int p4), .val (.long q5), .second, .val (.ref b1), .val (.ref b22), .val (.ref r125), .val (.ref r142), .val (.ref r160), .val (.int (0 : Int32)), .val (.int (1 : Int32)), .val (.int (2 : Int32)), .val (.int (1 : Int32)), .val (.int ia), .val (.int ja), .val (.int ka), .val (.int (0 : Int32)), .val (.int (1 : Int32)), .val (.int ia), .val (.int ia), .val (.int (3 : Int32)), .val (.ref r125)] [(.int (1 : Int32))])) (fun _ ks_ => XS.goto X307.here hx rfl (pc0 := 438) (pc' := 442) rfl (hb hby at_438) (by decide) (by decide) ks_) ?_
        refine go (u' := T307.setTop (mkF m 444 #[.val (.int p0), .val (.int p1), .val (.int p2), .val (.int p3), .val (.int p4), .val (.long q5), .second, .val (.ref b1), .val (.ref b22), .val (.ref r125), .val (.ref r142), .val (.ref r160), .val (.int (0 : Int32)), .val (.int (1 : Int32)), .val (.int (2 : Int32)), .val (.int (1 : Int32)), .val (.int ia), .val (.int ja), .val (.int ka), .val (.int (0 : Int32)), .val (.int (1 : Int32)), .val (.int ia), .val (.int ia), .val (.int (3 : Int32)), .val (.ref r125)] [])) (fun _ ks_ => XS.istore X307.here hx rfl (hb hby at_442) rfl  (l' := #[.val (.int p0), .val (.int p1), .val (.int p2), .val (.int p3), .val (.int p4), .val (.long q5), .second, .val (.ref b1), .val (.ref b22), .val (.ref r125), .val (.ref r142), .val (.ref r160), .val (.int (0 : Int32)), .val (.int (1 : Int32)), .val (.int (2 : Int32)), .val (.int (1 : Int32)), .val (.int ia), .val (.int ja), .val (.int ka), .val (.int (0 : Int32)), .val (.int (1 : Int32)), .val (.int ia), .val (.int ia), .val (.int (3 : Int32)), .val (.ref r125)]) rfl ks_) ?_
        refine go (u' := T307.setTop (mkF m 446 #[.val (.int p0), .val (.int p1), .val (.int p2), .val (.int p3), .val (.int p4), .val (.long q5), .second, .val (.ref b1), .val (.ref b22), .val (.ref r125), .val (.ref r142), .val (.ref r160), .val (.int (0 : Int32)), .val (.int (1 : Int32)), .val (.int (2 : Int32)), .val (.int (1 : Int32)), .val (.int ia), .val (.int ja), .val (.int ka), .val (.int (0 : Int32)), .val (.int (1 : Int32)), .val (.int ia), .val (.int ia), .val (.int (3 : Int32)), .val (.ref r125)] [(.int (1 : Int32))])) (fun _ ks_ => XS.iload X307.here hx rfl (hb hby at_444) rfl  ks_) ?_
        rw [hG]
        refine gN X307 hx hlk (t := .boolean) hret (by simp) rfl (hb hby at_446) ?_ (Nat.le_of_ble_eq_true rfl) (Nat.le_of_ble_eq_true rfl)
        show Q_rm0 Z p0 p1 p2 p3 p4 q5 h0 n0 (some (.int (1 : Int32))) T307.heap _
        rw [eq307]
        exact ⟨rfl, N307⟩
    ·
      refine go (u' := T200.setTop (mkF m 173 #[.val (.int p0), .val (.int p1), .val (.int p2), .val (.int p3), .val (.int p4), .val (.long q5), .second, .val (.ref b1), .val (.ref b22), .val (.ref r125), .val (.ref r142), .val (.ref r160), .val (.int (0 : Int32)), .val (.int (1 : Int32)), .val (.int (2 : Int32)), .val (.int (1 : Int32)), .val (.int ia), .val (.int ja), .val (.int ka), .unset, .unset, .unset, .unset, .unset, .unset] [])) (fun _ ks_ => XS.ifNo X200.here hx rfl (hb hby at_170) rfl ((if0 _ _).trans (feq c170_1).1) ks_) ?_
      refine go (u' := T200.setTop (mkF m 174 #[.val (.int p0), .val (.int p1), .val (.int p2), .val (.int p3), .val (.int p4), .val (.long q5), .second, .val (.ref b1), .val (.ref b22), .val (.ref r125), .val (.ref r142), .val (.ref r160), .val (.int (0 : Int32)), .val (.int (1 : Int32)), .val (.int (2 : Int32)), .val (.int (1 : Int32)), .val (.int ia), .val (.int ja), .val (.int ka), .unset, .unset, .unset, .unset, .unset, .unset] [(.int (1 : Int32))])) (fun _ ks_ => XS.iconst X200.here hx rfl (hb hby at_173) ks_) ?_
      refine go (u' := T200.setTop (mkF m 178 #[.val (.int p0), .val (.int p1), .val (.int p2), .val (.int p3), .val (.int p4), .val (.long q5), .second, .val (.ref b1), .val (.ref b22), .val (.ref r125), .val (.ref r142), .val (.ref r160), .val (.int (0 : Int32)), .val (.int (1 : Int32)), .val (.int (2 : Int32)), .val (.int (1 : Int32)), .val (.int ia), .val (.int ja), .val (.int ka), .unset, .unset, .unset, .unset, .unset, .unset] [(.int (1 : Int32))])) (fun _ ks_ => XS.goto X200.here hx rfl (pc0 := 174) (pc' := 178) rfl (hb hby at_174) (by decide) (by decide) ks_) ?_
      refine go (u' := T200.setTop (mkF m 180 #[.val (.int p0), .val (.int p1), .val (.int p2), .val (.int p3), .val (.int p4), .val (.long q5), .second, .val (.ref b1), .val (.ref b22), .val (.ref r125), .val (.ref r142), .val (.ref r160), .val (.int (0 : Int32)), .val (.int (1 : Int32)), .val (.int (2 : Int32)), .val (.int (1 : Int32)), .val (.int ia), .val (.int ja), .val (.int ka), .val (.int (1 : Int32)), .unset, .unset, .unset, .unset, .unset] [])) (fun _ ks_ => XS.istore X200.here hx rfl (hb hby at_178) rfl  (l' := #[.val (.int p0), .val (.int p1), .val (.int p2), .val (.int p3), .val (.int p4), .val (.long q5), .second, .val (.ref b1), .val (.ref b22), .val (.ref r125), .val (.ref r142), .val (.ref r160), .val (.int (0 : Int32)), .val (.int (1 : Int32)), .val (.int (2 : Int32)), .val (.int (1 : Int32)), .val (.int ia), .val (.int ja), .val (.int ka), .val (.int (1 : Int32)), .unset, .unset, .unset, .unset, .unset]) rfl ks_) ?_
      refine go (u' := T200.setTop (mkF m 182 #[.val (.int p0), .val (.int p1), .val (.int p2), .val (.int p3), .val (.int p4), .val (.long q5), .second, .val (.ref b1), .val (.ref b22), .val (.ref r125), .val (.ref r142), .val (.ref r160), .val (.int (0 : Int32)), .val (.int (1 : Int32)), .val (.int (2 : Int32)), .val (.int (1 : Int32)), .val (.int ia), .val (.int ja), .val (.int ka), .val (.int (1 : Int32)), .unset, .unset, .unset, .unset, .unset] [(.ref b1)])) (fun _ ks_ => XS.aload X200.here hx rfl (hb hby at_180) rfl rfl ks_) ?_
      refine go (u' := T200.setTop (mkF m 183 #[.val (.int p0), .val (.int p1), .val (.int p2), .val (.int p3), .val (.int p4), .val (.long q5), .second, .val (.ref b1), .val (.ref b22), .val (.ref r125), .val (.ref r142), .val (.ref r160), .val (.int (0 : Int32)), .val (.int (1 : Int32)), .val (.int (2 : Int32)), .val (.int (1 : Int32)), .val (.int ia), .val (.int ja), .val (.int ka), .val (.int (1 : Int32)), .unset, .unset, .unset, .unset, .unset] [(.int (0 : Int32)), (.ref b1)])) (fun _ ks_ => XS.iconst X200.here hx rfl (hb hby at_182) ks_) ?_
      refine go (u' := T200.setTop (mkF m 185 #[.val (.int p0), .val (.int p1), .val (.int p2), .val (.int p3), .val (.int p4), .val (.long q5), .second, .val (.ref b1), .val (.ref b22), .val (.ref r125), .val (.ref r142), .val (.ref r160), .val (.int (0 : Int32)), .val (.int (1 : Int32)), .val (.int (2 : Int32)), .val (.int (1 : Int32)), .val (.int ia), .val (.int ja), .val (.int ka), .val (.int (1 : Int32)), .unset, .unset, .unset, .unset, .unset] [(.int ia), (.int (0 : Int32)), (.ref b1)])) (fun _ ks_ => XS.iload X200.here hx rfl (hb hby at_183) rfl  ks_) ?_
      refine go (u' := T200.setTop (mkF m 187 #[.val (.int p0), .val (.int p1), .val (.int p2), .val (.int p3), .val (.int p4), .val (.long q5), .second, .val (.ref b1), .val (.ref b22), .val (.ref r125), .val (.ref r142), .val (.ref r160), .val (.int (0 : Int32)), .val (.int (1 : Int32)), .val (.int (2 : Int32)), .val (.int (1 : Int32)), .val (.int ia), .val (.int ja), .val (.int ka), .val (.int (1 : Int32)), .unset, .unset, .unset, .unset, .unset] [(.int p4), (.int ia), (.int (0 : Int32)), (.ref b1)])) (fun _ ks_ => XS.iload X200.here hx rfl (hb hby at_185) rfl  ks_) ?_
      obtain ⟨cq308, kq308, q308a, q308b, q308c⟩ := isOf hZ e200 F200_0
      obtain ⟨_, _, ⟨T308, L308, k308, n308⟩, -, X308, ⟨Lc308, hQ308, l308, y308, z308⟩, st308⟩ := X200.virtualBack hx (y := (⟨"com/example/emberlot/emberlot/Slots", "set", "(III)V"⟩ : MethodName)) (z := (⟨"com/example/emberlot/emberlot/Slots", "set", "(III)V"⟩ : MethodName)) hown (mvT hZ (ww hw 97 rfl)) (mvT hZ (ww hw 98 rfl)) (notFace_of_selects (args := #[]) (mvT hZ (ww hw 100 rfl))) (mvT hZ (ww hw 100 rfl)) (mvT hZ (ww hw 99 rfl)) (by decide) (backOf (W := 0) (rm14 l Z a0 hw [] b1 ia p4 na_ pa10 xa10 ca10 af_ fa.toNatClampNeg n_ ln_ nd_ gs_ E10 (-1 : Int32) (3 : Int32) h200 n0 Z200 F200_0 F200_9 F200_10 F200_11 F200_12 F200_13 F200_14 F200_15 F200_16 hR.2.1 (own_j3 hI.1 hR.1.1)) hZ (ww hw 101 rfl) (ww hw 2 rfl) (by decide) (by decide)) q308a q308c (g := (mkF m 187 #[.val (.int p0), .val (.int p1), .val (.int p2), .val (.int p3), .val (.int p4), .val (.long q5), .second, .val (.ref b1), .val (.ref b22), .val (.ref r125), .val (.ref r142), .val (.ref r160), .val (.int (0 : Int32)), .val (.int (1 : Int32)), .val (.int (2 : Int32)), .val (.int (1 : Int32)), .val (.int ia), .val (.int ja), .val (.int ka), .val (.int (1 : Int32)), .unset, .unset, .unset, .unset, .unset] [(.int p4), (.int ia), (.int (0 : Int32)), (.ref b1)])) rfl (by rw [hml]; rfl) (Steps.refl _) (argsL := [(.int (0 : Int32)), (.int ia), (.int p4)]) (rest := []) (lenOf pd__40_III_41_V rfl) rfl (by show 2 * 0 + _ ≤ _; exact Nat.le_of_eq rfl) (hb hby at_187) (fun _ _ => ⟨rfl, e200, (by decide : 44 + 0 ≤ _), (by decide : 348 + 0 ≤ _)⟩)
      dsimp only [Pt.U, Pt.locs, Pt.cells, Pt.slots] at X308 l308 y308 z308 st308 hQ308
      subst l308 y308 z308
      obtain ⟨rfl, N308q, Kq308, Fa309, Fa310, Fa311, Fa312, Fa313, Fa314, Fa315, Fa316, Fa317⟩ := hQ308
      have N308 := Fr.app N200 N308q
      have K308 : Keep h0 T308.heap [] := K200.trans Kq308 (own_WlLo F200_16 hn0)
      have Z308 : n0 ≤ T308.heap.size := Nat.le_trans Z200 Kq308.1
      have Fa318 : Exa Z T308.heap b1 "com/example/emberlot/emberlot/Slots" := F200_0.keep Kq308
      have Fa319 : PR Z T308.heap b22 (.object "java/lang/Object") "java/lang/Object" 3 (fun u => Value.ref (oad r34 r62 r92 u)) := F200_1.keep Kq308 (own_nW hno3)
      have Fa320 : Exa Z T308.heap b22 "[Ljava/lang/Object;" := F200_2.keep Kq308
      have Fa321 : Exa Z T308.heap r34 "java/lang/Integer" := F200_3.keep Kq308
      have Fa322 : Exa Z T308.heap r62 "java/lang/Integer" := F200_4.keep Kq308
      have Fa323 : Exa Z T308.heap r92 "java/lang/Integer" := F200_5.keep Kq308
      have Fa324 : Exa Z T308.heap r125 "java/lang/Integer" := F200_6.keep Kq308
      have Fa325 : Exa Z T308.heap r142 "java/lang/Integer" := F200_7.keep Kq308
      have Fa326 : Exa Z T308.heap r160 "java/lang/Integer" := F200_8.keep Kq308
      refine goT (u' := T308.setTop (mkF m 190 #[.val (.int p0), .val (.int p1), .val (.int p2), .val (.int p3), .val (.int p4), .val (.long q5), .second, .val (.ref b1), .val (.ref b22), .val (.ref r125), .val (.ref r142), .val (.ref r160), .val (.int (0 : Int32)), .val (.int (1 : Int32)), .val (.int (2 : Int32)), .val (.int (1 : Int32)), .val (.int ia), .val (.int ja), .val (.int ka), .val (.int (1 : Int32)), .unset, .unset, .unset, .unset, .unset] [])) st308 ?_
      refine go (u' := T308.setTop (mkF m 192 #[.val (.int p0), .val (.int p1), .val (.int p2), .val (.int p3), .val (.int p4), .val (.long q5), .second, .val (.ref b1), .val (.ref b22), .val (.ref r125), .val (.ref r142), .val (.ref r160), .val (.int (0 : Int32)), .val (.int (1 : Int32)), .val (.int (2 : Int32)), .val (.int (1 : Int32)), .val (.int ia), .val (.int ja), .val (.int ka), .val (.int (1 : Int32)), .unset, .unset, .unset, .unset, .unset] [(.ref b1)])) (fun _ ks_ => XS.aload X308.here hx rfl (hb hby at_190) rfl rfl ks_) ?_
      refine go (u' := T308.setTop (mkF m 194 #[.val (.int p0), .val (.int p1), .val (.int p2), .val (.int p3), .val (.int p4), .val (.long q5), .second, .val (.ref b1), .val (.ref b22), .val (.ref r125), .val (.ref r142), .val (.ref r160), .val (.int (0 : Int32)), .val (.int (1 : Int32)), .val (.int (2 : Int32)), .val (.int (1 : Int32)), .val (.int ia), .val (.int ja), .val (.int ka), .val (.int (1 : Int32)), .unset, .unset, .unset, .unset, .unset] [(.int ia), (.ref b1)])) (fun _ ks_ => XS.iload X308.here hx rfl (hb hby at_192) rfl  ks_) ?_
      obtain ⟨cq327, kq327, q327a, q327b, q327c⟩ := isOf hZ (rfl : T308.heap = _) Fa309
      obtain ⟨_, _, ⟨T327, L327, k327, n327⟩, -, X327, ⟨Lc327, hQ327, l327, y327, z327⟩, st327⟩ := X308.virtualBack hx (y := (⟨"com/example/emberlot/emberlot/Slots", "remove", "(I)V"⟩ : MethodName)) (z := (⟨"com/example/emberlot/emberlot/Slots", "remove", "(I)V"⟩ : MethodName)) hown (mvT hZ (ww hw 102 rfl)) (mvT hZ (ww hw 103 rfl)) (notFace_of_selects (args := #[]) (mvT hZ (ww hw 105 rfl))) (mvT hZ (ww hw 105 rfl)) (mvT hZ (ww hw 104 rfl)) (by decide) (backOf (W := 0) (rm15 l Z a0 hw [] b1 ia na_ pa10 xa10 ca10 af_ fa.toNatClampNeg n_ ln_ nd_ (upd gs_ 0 (upd (gs_ 0) (ia).toNatClampNeg p4)) E10 (-1 : Int32) (3 : Int32) T308.heap n0 Z308 Fa309 Fa310 Fa311 Fa312 Fa313 Fa314 Fa315 Fa316 Fa317 hR.2.1 (own_j3 hI.1 hR.1.1)) hZ (ww hw 106 rfl) (ww hw 2 rfl) (by decide) (by decide)) q327a q327c (g := (mkF m 194 #[.val (.int p0), .val (.int p1), .val (.int p2), .val (.int p3), .val (.int p4), .val (.long q5), .second, .val (.ref b1), .val (.ref b22), .val (.ref r125), .val (.ref r142), .val (.ref r160), .val (.int (0 : Int32)), .val (.int (1 : Int32)), .val (.int (2 : Int32)), .val (.int (1 : Int32)), .val (.int ia), .val (.int ja), .val (.int ka), .val (.int (1 : Int32)), .unset, .unset, .unset, .unset, .unset] [(.int ia), (.ref b1)])) rfl (by rw [hml]; rfl) (Steps.refl _) (argsL := [(.int ia)]) (rest := []) (lenOf pd__40_I_41_V rfl) rfl (by show 2 * 0 + _ ≤ _; exact Nat.le_of_eq rfl) (hb hby at_194) (fun _ _ => ⟨rfl, (rfl : T308.heap = _), (by decide : 44 + 0 ≤ _), (by decide : 348 + 0 ≤ _)⟩)
      dsimp only [Pt.U, Pt.locs, Pt.cells, Pt.slots] at X327 l327 y327 z327 st327 hQ327
      subst l327 y327 z327
      obtain ⟨rfl, N327q, Kq327, Fa328, Fa329, Fa330, Fa331, Fa332, Fa333, Fa334, Fa335, Fa336⟩ := hQ327
      have N327 := Fr.app N308 N327q
      have K327 : Keep h0 T327.heap [] := K308.trans Kq327 (own_WlLo Fa317 hn0)
      have Z327 : n0 ≤ T327.heap.size := Nat.le_trans Z308 Kq327.1
      have Fa337 : Exa Z T327.heap b1 "com/example/emberlot/emberlot/Slots" := Fa309.keep Kq327
      have Fa338 : PR Z T327.heap b22 (.object "java/lang/Object") "java/lang/Object" 3 (fun u => Value.ref (oad r34 r62 r92 u)) := Fa319.keep Kq327 (own_nW hno3)
      have Fa339 : Exa Z T327.heap b22 "[Ljava/lang/Object;" := Fa320.keep Kq327
      have Fa340 : Exa Z T327.heap r34 "java/lang/Integer" := Fa321.keep Kq327
      have Fa341 : Exa Z T327.heap r62 "java/lang/Integer" := Fa322.keep Kq327
      have Fa342 : Exa Z T327.heap r92 "java/lang/Integer" := Fa323.keep Kq327
      have Fa343 : Exa Z T327.heap r125 "java/lang/Integer" := Fa324.keep Kq327
      have Fa344 : Exa Z T327.heap r142 "java/lang/Integer" := Fa325.keep Kq327
      have Fa345 : Exa Z T327.heap r160 "java/lang/Integer" := Fa326.keep Kq327
      refine goT (u' := T327.setTop (mkF m 197 #[.val (.int p0), .val (.int p1), .val (.int p2), .val (.int p3), .val (.int p4), .val (.long q5), .second, .val (.ref b1), .val (.ref b22), .val (.ref r125), .val (.ref r142), .val (.ref r160), .val (.int (0 : Int32)), .val (.int (1 : Int32)), .val (.int (2 : Int32)), .val (.int (1 : Int32)), .val (.int ia), .val (.int ja), .val (.int ka), .val (.int (1 : Int32)), .unset, .unset, .unset, .unset, .unset] [])) st327 ?_
      refine go (u' := T327.setTop (mkF m 199 #[.val (.int p0), .val (.int p1), .val (.int p2), .val (.int p3), .val (.int p4), .val (.long q5), .second, .val (.ref b1), .val (.ref b22), .val (.ref r125), .val (.ref r142), .val (.ref r160), .val (.int (0 : Int32)), .val (.int (1 : Int32)), .val (.int (2 : Int32)), .val (.int (1 : Int32)), .val (.int ia), .val (.int ja), .val (.int ka), .val (.int (1 : Int32)), .unset, .unset, .unset, .unset, .unset] [(.int (1 : Int32))])) (fun _ ks_ => XS.iload X327.here hx rfl (hb hby at_197) rfl  ks_) ?_
      refine go (u' := T327.setTop (mkF m 202 #[.val (.int p0), .val (.int p1), .val (.int p2), .val (.int p3), .val (.int p4), .val (.long q5), .second, .val (.ref b1), .val (.ref b22), .val (.ref r125), .val (.ref r142), .val (.ref r160), .val (.int (0 : Int32)), .val (.int (1 : Int32)), .val (.int (2 : Int32)), .val (.int (1 : Int32)), .val (.int ia), .val (.int ja), .val (.int ka), .val (.int (1 : Int32)), .unset, .unset, .unset, .unset, .unset] [])) (fun _ ks_ => XS.ifNo X327.here hx rfl (hb hby at_199) rfl ((if0 _ _).trans (feq (show ¬ ((1 : Int32) = (0 : Int32)) from (by decide))).1) ks_) ?_
      refine go (u' := T327.setTop (mkF m 204 #[.val (.int p0), .val (.int p1), .val (.int p2), .val (.int p3), .val (.int p4), .val (.long q5), .second, .val (.ref b1), .val (.ref b22), .val (.ref r125), .val (.ref r142), .val (.ref r160), .val (.int (0 : Int32)), .val (.int (1 : Int32)), .val (.int (2 : Int32)), .val (.int (1 : Int32)), .val (.int ia), .val (.int ja), .val (.int ka), .val (.int (1 : Int32)), .unset, .unset, .unset, .unset, .unset] [(.ref b1)])) (fun _ ks_ => XS.aload X327.here hx rfl (hb hby at_202) rfl rfl ks_) ?_
      refine go (u' := T327.setTop (mkF m 206 #[.val (.int p0), .val (.int p1), .val (.int p2), .val (.int p3), .val (.int p4), .val (.long q5), .second, .val (.ref b1), .val (.ref b22), .val (.ref r125), .val (.ref r142), .val (.ref r160), .val (.int (0 : Int32)), .val (.int (1 : Int32)), .val (.int (2 : Int32)), .val (.int (1 : Int32)), .val (.int ia), .val (.int ja), .val (.int ka), .val (.int (1 : Int32)), .unset, .unset, .unset, .unset, .unset] [(.int ja), (.ref b1)])) (fun _ ks_ => XS.iload X327.here hx rfl (hb hby at_204) rfl  ks_) ?_
      obtain ⟨cq346, kq346, q346a, q346b, q346c⟩ := isOf hZ (rfl : T327.heap = _) Fa328
      obtain ⟨_, _, ⟨T346, L346, k346, n346⟩, -, X346, ⟨Lc346, hQ346, l346, y346, z346⟩, st346⟩ := X327.virtualBack hx (y := (⟨"com/example/emberlot/emberlot/Slots", "remove", "(I)V"⟩ : MethodName)) (z := (⟨"com/example/emberlot/emberlot/Slots", "remove", "(I)V"⟩ : MethodName)) hown (mvT hZ (ww hw 102 rfl)) (mvT hZ (ww hw 103 rfl)) (notFace_of_selects (args := #[]) (mvT hZ (ww hw 105 rfl))) (mvT hZ (ww hw 105 rfl)) (mvT hZ (ww hw 104 rfl)) (by decide) (backOf (W := 0) (rm15 l Z a0 hw [] b1 ja na_ pa10 xa10 ca10 af_ fa.toNatClampNeg n_ ln_ (upd nd_ (ia).toNatClampNeg .null) (upd (upd gs_ 0 (upd (gs_ 0) (ia).toNatClampNeg p4)) 2 (upd ((upd gs_ 0 (upd (gs_ 0) (ia).toNatClampNeg p4)) 2) (ia).toNatClampNeg (-1 : Int32))) E10 ia (3 : Int32) T327.heap n0 Z327 Fa328 Fa329 Fa330 Fa331 Fa332 Fa333 Fa334 Fa335 Fa336 hR.2.1 (own_j3 hI.2.1 hR.1.1)) hZ (ww hw 106 rfl) (ww hw 2 rfl) (by decide) (by decide)) q346a q346c (g := (mkF m 206 #[.val (.int p0), .val (.int p1), .val (.int p2), .val (.int p3), .val (.int p4), .val (.long q5), .second, .val (.ref b1), .val (.ref b22), .val (.ref r125), .val (.ref r142), .val (.ref r160), .val (.int (0 : Int32)), .val (.int (1 : Int32)), .val (.int (2 : Int32)), .val (.int (1 : Int32)), .val (.int ia), .val (.int ja), .val (.int ka), .val (.int (1 : Int32)), .unset, .unset, .unset, .unset, .unset] [(.int ja), (.ref b1)])) rfl (by rw [hml]; rfl) (Steps.refl _) (argsL := [(.int ja)]) (rest := []) (lenOf pd__40_I_41_V rfl) rfl (by show 2 * 0 + _ ≤ _; exact Nat.le_of_eq rfl) (hb hby at_206) (fun _ _ => ⟨rfl, (rfl : T327.heap = _), (by decide : 44 + 0 ≤ _), (by decide : 348 + 0 ≤ _)⟩)
      dsimp only [Pt.U, Pt.locs, Pt.cells, Pt.slots] at X346 l346 y346 z346 st346 hQ346
      subst l346 y346 z346
      obtain ⟨rfl, N346q, Kq346, Fa347, Fa348, Fa349, Fa350, Fa351, Fa352, Fa353, Fa354, Fa355⟩ := hQ346
      have N346 := Fr.app N327 N346q
      have K346 : Keep h0 T346.heap [] := K327.trans Kq346 (own_WlLo Fa336 hn0)
      have Z346 : n0 ≤ T346.heap.size := Nat.le_trans Z327 Kq346.1
      have Fa356 : Exa Z T346.heap b1 "com/example/emberlot/emberlot/Slots" := Fa328.keep Kq346
      have Fa357 : PR Z T346.heap b22 (.object "java/lang/Object") "java/lang/Object" 3 (fun u => Value.ref (oad r34 r62 r92 u)) := Fa338.keep Kq346 (own_nW hno3)
      have Fa358 : Exa Z T346.heap b22 "[Ljava/lang/Object;" := Fa339.keep Kq346
      have Fa359 : Exa Z T346.heap r34 "java/lang/Integer" := Fa340.keep Kq346
      have Fa360 : Exa Z T346.heap r62 "java/lang/Integer" := Fa341.keep Kq346
      have Fa361 : Exa Z T346.heap r92 "java/lang/Integer" := Fa342.keep Kq346
      have Fa362 : Exa Z T346.heap r125 "java/lang/Integer" := Fa343.keep Kq346
      have Fa363 : Exa Z T346.heap r142 "java/lang/Integer" := Fa344.keep Kq346
      have Fa364 : Exa Z T346.heap r160 "java/lang/Integer" := Fa345.keep Kq346
      refine goT (u' := T346.setTop (mkF m 209 #[.val (.int p0), .val (.int p1), .val (.int p2), .val (.int p3), .val (.int p4), .val (.long q5), .second, .val (.ref b1), .val (.ref b22), .val (.ref r125), .val (.ref r142), .val (.ref r160), .val (.int (0 : Int32)), .val (.int (1 : Int32)), .val (.int (2 : Int32)), .val (.int (1 : Int32)), .val (.int ia), .val (.int ja), .val (.int ka), .val (.int (1 : Int32)), .unset, .unset, .unset, .unset, .unset] [])) st346 ?_
      refine go (u' := T346.setTop (mkF m 211 #[.val (.int p0), .val (.int p1), .val (.int p2), .val (.int p3), .val (.int p4), .val (.long q5), .second, .val (.ref b1), .val (.ref b22), .val (.ref r125), .val (.ref r142), .val (.ref r160), .val (.int (0 : Int32)), .val (.int (1 : Int32)), .val (.int (2 : Int32)), .val (.int (1 : Int32)), .val (.int ia), .val (.int ja), .val (.int ka), .val (.int (1 : Int32)), .unset, .unset, .unset, .unset, .unset] [(.ref b1)])) (fun _ ks_ => XS.aload X346.here hx rfl (hb hby at_209) rfl rfl ks_) ?_
      refine go (u' := T346.setTop (mkF m 213 #[.val (.int p0), .val (.int p1), .val (.int p2), .val (.int p3), .val (.int p4), .val (.long q5), .second, .val (.ref b1), .val (.ref b22), .val (.ref r125), .val (.ref r142), .val (.ref r160), .val (.int (0 : Int32)), .val (.int (1 : Int32)), .val (.int (2 : Int32)), .val (.int (1 : Int32)), .val (.int ia), .val (.int ja), .val (.int ka), .val (.int (1 : Int32)), .unset, .unset, .unset, .unset, .unset] [(.int ia), (.ref b1)])) (fun _ ks_ => XS.iload X346.here hx rfl (hb hby at_211) rfl  ks_) ?_
      obtain ⟨cq365, kq365, q365a, q365b, q365c⟩ := isOf hZ (rfl : T346.heap = _) Fa347
      obtain ⟨_, _, ⟨T365, L365, k365, n365⟩, -, X365, ⟨Lc365, hQ365, l365, y365, z365⟩, st365⟩ := X346.virtualBack hx (y := (⟨"com/example/emberlot/emberlot/Slots", "node", "(I)Ljava/lang/Object;"⟩ : MethodName)) (z := (⟨"com/example/emberlot/emberlot/Slots", "node", "(I)Ljava/lang/Object;"⟩ : MethodName)) hown (mvT hZ (ww hw 107 rfl)) (mvT hZ (ww hw 108 rfl)) (notFace_of_selects (args := #[]) (mvT hZ (ww hw 110 rfl))) (mvT hZ (ww hw 110 rfl)) (mvT hZ (ww hw 109 rfl)) (by decide) (backOf (W := 0) (rm16 l Z a0 hw [] b1 ia na_ pa10 xa10 ca10 af_ fa.toNatClampNeg n_ ln_ (upd (upd nd_ (ia).toNatClampNeg .null) (ja).toNatClampNeg .null) (upd (upd (upd gs_ 0 (upd (gs_ 0) (ia).toNatClampNeg p4)) 2 (upd ((upd gs_ 0 (upd (gs_ 0) (ia).toNatClampNeg p4)) 2) (ia).toNatClampNeg (-1 : Int32))) 2 (upd ((upd (upd gs_ 0 (upd (gs_ 0) (ia).toNatClampNeg p4)) 2 (upd ((upd gs_ 0 (upd (gs_ 0) (ia).toNatClampNeg p4)) 2) (ia).toNatClampNeg (-1 : Int32))) 2) (ja).toNatClampNeg ia)) E10 ja (3 : Int32) T346.heap n0 Z346 Fa347 Fa348 Fa349 Fa350 Fa351 Fa352 Fa353 Fa354 Fa355 hR.2.1 (own_j3 hI.1 hR.1.1) hI.2.2.2.2.2.2.1) hZ (ww hw 111 rfl) (ww hw 2 rfl) (by decide) (by decide)) q365a q365c (g := (mkF m 213 #[.val (.int p0), .val (.int p1), .val (.int p2), .val (.int p3), .val (.int p4), .val (.long q5), .second, .val (.ref b1), .val (.ref b22), .val (.ref r125), .val (.ref r142), .val (.ref r160), .val (.int (0 : Int32)), .val (.int (1 : Int32)), .val (.int (2 : Int32)), .val (.int (1 : Int32)), .val (.int ia), .val (.int ja), .val (.int ka), .val (.int (1 : Int32)), .unset, .unset, .unset, .unset, .unset] [(.int ia), (.ref b1)])) rfl (by rw [hml]; rfl) (Steps.refl _) (argsL := [(.int ia)]) (rest := []) (lenOf pd__40_I_41_Ljava_47_lang_47_Object_59_ rfl) rfl (by show 2 * 0 + _ ≤ _; exact Nat.le_of_eq rfl) (hb hby at_213) (fun _ _ => ⟨rfl, (rfl : T346.heap = _), (by decide : 44 + 0 ≤ _), (by decide : 348 + 0 ≤ _)⟩)
      dsimp only [Pt.U, Pt.locs, Pt.cells, Pt.slots] at X365 l365 y365 z365 st365 hQ365
      subst l365 y365 z365
      obtain ⟨rfl, N365q, eq365⟩ := hQ365
      have N365 := Fr.app N346 N365q
      rw [show ((upd (upd nd_ (ia).toNatClampNeg .null) (ja).toNatClampNeg .null) ia.toNatClampNeg) = .null from ((own_u2 hI.2.2.2.1).trans own_u1)] at st365
      refine goT (u' := T365.setTop (mkF m 216 #[.val (.int p0), .val (.int p1), .val (.int p2), .val (.int p3), .val (.int p4), .val (.long q5), .second, .val (.ref b1), .val (.ref b22), .val (.ref r125), .val (.ref r142), .val (.ref r160), .val (.int (0 : Int32)), .val (.int (1 : Int32)), .val (.int (2 : Int32)), .val (.int (1 : Int32)), .val (.int ia), .val (.int ja), .val (.int ka), .val (.int (1 : Int32)), .unset, .unset, .unset, .unset, .unset] [.null])) st365 ?_
      refine go (u' := T365.setTop (mkF m 219 #[.val (.int p0), .val (.int p1), .val (.int p2), .val (.int p3), .val (.int p4), .val (.long q5), .second, .val (.ref b1), .val (.ref b22), .val (.ref r125), .val (.ref r142), .val (.ref r160), .val (.int (0 : Int32)), .val (.int (1 : Int32)), .val (.int (2 : Int32)), .val (.int (1 : Int32)), .val (.int ia), .val (.int ja), .val (.int ka), .val (.int (1 : Int32)), .unset, .unset, .unset, .unset, .unset] [])) (fun _ ks_ => XS.ifnonnullNo X365.here hx rfl (hb hby at_216) rfl ks_) ?_
      refine go (u' := T365.setTop (mkF m 221 #[.val (.int p0), .val (.int p1), .val (.int p2), .val (.int p3), .val (.int p4), .val (.long q5), .second, .val (.ref b1), .val (.ref b22), .val (.ref r125), .val (.ref r142), .val (.ref r160), .val (.int (0 : Int32)), .val (.int (1 : Int32)), .val (.int (2 : Int32)), .val (.int (1 : Int32)), .val (.int ia), .val (.int ja), .val (.int ka), .val (.int (1 : Int32)), .unset, .unset, .unset, .unset, .unset] [(.ref b1)])) (fun _ ks_ => XS.aload X365.here hx rfl (hb hby at_219) rfl rfl ks_) ?_
      refine go (u' := T365.setTop (mkF m 223 #[.val (.int p0), .val (.int p1), .val (.int p2), .val (.int p3), .val (.int p4), .val (.long q5), .second, .val (.ref b1), .val (.ref b22), .val (.ref r125), .val (.ref r142), .val (.ref r160), .val (.int (0 : Int32)), .val (.int (1 : Int32)), .val (.int (2 : Int32)), .val (.int (1 : Int32)), .val (.int ia), .val (.int ja), .val (.int ka), .val (.int (1 : Int32)), .unset, .unset, .unset, .unset, .unset] [(.int ka), (.ref b1)])) (fun _ ks_ => XS.iload X365.here hx rfl (hb hby at_221) rfl  ks_) ?_
      obtain ⟨cq366, kq366, q366a, q366b, q366c⟩ := isOf hZ eq365 Fa347
      obtain ⟨_, _, ⟨T366, L366, k366, n366⟩, -, X366, ⟨Lc366, hQ366, l366, y366, z366⟩, st366⟩ := X365.virtualBack hx (y := (⟨"com/example/emberlot/emberlot/Slots", "node", "(I)Ljava/lang/Object;"⟩ : MethodName)) (z := (⟨"com/example/emberlot/emberlot/Slots", "node", "(I)Ljava/lang/Object;"⟩ : MethodName)) hown (mvT hZ (ww hw 107 rfl)) (mvT hZ (ww hw 108 rfl)) (notFace_of_selects (args := #[]) (mvT hZ (ww hw 110 rfl))) (mvT hZ (ww hw 110 rfl)) (mvT hZ (ww hw 109 rfl)) (by decide) (backOf (W := 0) (rm16 l Z a0 hw [] b1 ka na_ pa10 xa10 ca10 af_ fa.toNatClampNeg n_ ln_ (upd (upd nd_ (ia).toNatClampNeg .null) (ja).toNatClampNeg .null) (upd (upd (upd gs_ 0 (upd (gs_ 0) (ia).toNatClampNeg p4)) 2 (upd ((upd gs_ 0 (upd (gs_ 0) (ia).toNatClampNeg p4)) 2) (ia).toNatClampNeg (-1 : Int32))) 2 (upd ((upd (upd gs_ 0 (upd (gs_ 0) (ia).toNatClampNeg p4)) 2 (upd ((upd gs_ 0 (upd (gs_ 0) (ia).toNatClampNeg p4)) 2) (ia).toNatClampNeg (-1 : Int32))) 2) (ja).toNatClampNeg ia)) E10 ja (3 : Int32) T346.heap n0 Z346 Fa347 Fa348 Fa349 Fa350 Fa351 Fa352 Fa353 Fa354 Fa355 hR.2.1 (own_j3 hI.2.2.1 hR.1.1) hI.2.2.2.2.2.2.2.2) hZ (ww hw 111 rfl) (ww hw 2 rfl) (by decide) (by decide)) q366a q366c (g := (mkF m 223 #[.val (.int p0), .val (.int p1), .val (.int p2), .val (.int p3), .val (.int p4), .val (.long q5), .second, .val (.ref b1), .val (.ref b22), .val (.ref r125), .val (.ref r142), .val (.ref r160), .val (.int (0 : Int32)), .val (.int (1 : Int32)), .val (.int (2 : Int32)), .val (.int (1 : Int32)), .val (.int ia), .val (.int ja), .val (.int ka), .val (.int (1 : Int32)), .unset, .unset, .unset, .unset, .unset] [(.int ka), (.ref b1)])) rfl (by rw [hml]; rfl) (Steps.refl _) (argsL := [(.int ka)]) (rest := []) (lenOf pd__40_I_41_Ljava_47_lang_47_Object_59_ rfl) rfl (by show 2 * 0 + _ ≤ _; exact Nat.le_of_eq rfl) (hb hby at_223) (fun _ _ => ⟨rfl, eq365, (by decide : 44 + 0 ≤ _), (by decide : 348 + 0 ≤ _)⟩)
      dsimp only [Pt.U, Pt.locs, Pt.cells, Pt.slots] at X366 l366 y366 z366 st366 hQ366
      subst l366 y366 z366
      obtain ⟨rfl, N366q, eq366⟩ := hQ366
      have N366 := Fr.app N365 N366q
      rw [show ((upd (upd nd_ (ia).toNatClampNeg .null) (ja).toNatClampNeg .null) ka.toNatClampNeg) = (.ref (oad r34 r62 r92 ka.toNatClampNeg)) from ((own_u2 hI.2.2.2.2.2.1).trans ((own_u2 hI.2.2.2.2.1).trans (hR.2.2 _ hI.2.2.1.2)))] at st366
      refine goT (u' := T366.setTop (mkF m 226 #[.val (.int p0), .val (.int p1), .val (.int p2), .val (.int p3), .val (.int p4), .val (.long q5), .second, .val (.ref b1), .val (.ref b22), .val (.ref r125), .val (.ref r142), .val (.ref r160), .val (.int (0 : Int32)), .val (.int (1 : Int32)), .val (.int (2 : Int32)), .val (.int (1 : Int32)), .val (.int ia), .val (.int ja), .val (.int ka), .val (.int (1 : Int32)), .unset, .unset, .unset, .unset, .unset] [(.ref (oad r34 r62 r92 ka.toNatClampNeg))])) st366 ?_
      refine go (u' := T366.setTop (mkF m 228 #[.val (.int p0), .val (.int p1), .val (.int p2), .val (.int p3), .val (.int p4), .val (.long q5), .second, .val (.ref b1), .val (.ref b22), .val (.ref r125), .val (.ref r142), .val (.ref r160), .val (.int (0 : Int32)), .val (.int (1 : Int32)), .val (.int (2 : Int32)), .val (.int (1 : Int32)), .val (.int ia), .val (.int ja), .val (.int ka), .val (.int (1 : Int32)), .unset, .unset, .unset, .unset, .unset] [(.ref b22), (.ref (oad r34 r62 r92 ka.toNatClampNeg))])) (fun _ ks_ => XS.aload X366.here hx rfl (hb hby at_226) rfl rfl ks_) ?_
      refine go (u' := T366.setTop (mkF m 230 #[.val (.int p0), .val (.int p1), .val (.int p2), .val (.int p3), .val (.int p4), .val (.long q5), .second, .val (.ref b1), .val (.ref b22), .val (.ref r125), .val (.ref r142), .val (.ref r160), .val (.int (0 : Int32)), .val (.int (1 : Int32)), .val (.int (2 : Int32)), .val (.int (1 : Int32)), .val (.int ia), .val (.int ja), .val (.int ka), .val (.int (1 : Int32)), .unset, .unset, .unset, .unset, .unset] [(.int ka), (.ref b22), (.ref (oad r34 r62 r92 ka.toNatClampNeg))])) (fun _ ks_ => XS.iload X366.here hx rfl (hb hby at_228) rfl  ks_) ?_
      refine go (u' := T366.setTop (mkF m 231 #[.val (.int p0), .val (.int p1), .val (.int p2), .val (.int p3), .val (.int p4), .val (.long q5), .second, .val (.ref b1), .val (.ref b22), .val (.ref r125), .val (.ref r142), .val (.ref r160), .val (.int (0 : Int32)), .val (.int (1 : Int32)), .val (.int (2 : Int32)), .val (.int (1 : Int32)), .val (.int ia), .val (.int ja), .val (.int ka), .val (.int (1 : Int32)), .unset, .unset, .unset, .unset, .unset] [(.ref (oad r34 r62 r92 ka.toNatClampNeg)), (.ref (oad r34 r62 r92 ka.toNatClampNeg))])) (own_aaload X366 hx hZ eq366 Fa357 rfl (j := ka) (v := (.ref (oad r34 r62 r92 ka.toNatClampNeg))) hI.2.2.1.1 hI.2.2.1.2 rfl (f := (mkF m 230 #[.val (.int p0), .val (.int p1), .val (.int p2), .val (.int p3), .val (.int p4), .val (.long q5), .second, .val (.ref b1), .val (.ref b22), .val (.ref r125), .val (.ref r142), .val (.ref r160), .val (.int (0 : Int32)), .val (.int (1 : Int32)), .val (.int (2 : Int32)), .val (.int (1 : Int32)), .val (.int ia), .val (.int ja), .val (.int ka), .val (.int (1 : Int32)), .unset, .unset, .unset, .unset, .unset] [(.int ka), (.ref b22), (.ref (oad r34 r62 r92 ka.toNatClampNeg))])) rfl rfl (hb hby at_230)) ?_
      refine go (u' := T366.setTop (mkF m 234 #[.val (.int p0), .val (.int p1), .val (.int p2), .val (.int p3), .val (.int p4), .val (.long q5), .second, .val (.ref b1), .val (.ref b22), .val (.ref r125), .val (.ref r142), .val (.ref r160), .val (.int (0 : Int32)), .val (.int (1 : Int32)), .val (.int (2 : Int32)), .val (.int (1 : Int32)), .val (.int ia), .val (.int ja), .val (.int ka), .val (.int (1 : Int32)), .unset, .unset, .unset, .unset, .unset] [])) (fun _ ks_ => Jvm.RoadKit.acmp (g := (mkF m 231 #[.val (.int p0), .val (.int p1), .val (.int p2), .val (.int p3), .val (.int p4), .val (.long q5), .second, .val (.ref b1), .val (.ref b22), .val (.ref r125), .val (.ref r142), .val (.ref r160), .val (.int (0 : Int32)), .val (.int (1 : Int32)), .val (.int (2 : Int32)), .val (.int (1 : Int32)), .val (.int ia), .val (.int ja), .val (.int ka), .val (.int (1 : Int32)), .unset, .unset, .unset, .unset, .unset] [(.ref (oad r34 r62 r92 ka.toNatClampNeg)), (.ref (oad r34 r62 r92 ka.toNatClampNeg))])) X366 hx rfl rfl rfl (pc0 := 231) (pc' := 234) (same := true) rfl (hb hby at_231) rfl (decide_eq_true rfl) (by decide) (by decide) ks_) ?_
      refine go (u' := T366.setTop (mkF m 236 #[.val (.int p0), .val (.int p1), .val (.int p2), .val (.int p3), .val (.int p4), .val (.long q5), .second, .val (.ref b1), .val (.ref b22), .val (.ref r125), .val (.ref r142), .val (.ref r160), .val (.int (0 : Int32)), .val (.int (1 : Int32)), .val (.int (2 : Int32)), .val (.int (1 : Int32)), .val (.int ia), .val (.int ja), .val (.int ka), .val (.int (1 : Int32)), .unset, .unset, .unset, .unset, .unset] [(.int (1 : Int32))])) (fun _ ks_ => XS.iload X366.here hx rfl (hb hby at_234) rfl  ks_) ?_
      refine go (u' := T366.setTop (mkF m 239 #[.val (.int p0), .val (.int p1), .val (.int p2), .val (.int p3), .val (.int p4), .val (.long q5), .second, .val (.ref b1), .val (.ref b22), .val (.ref r125), .val (.ref r142), .val (.ref r160), .val (.int (0 : Int32)), .val (.int (1 : Int32)), .val (.int (2 : Int32)), .val (.int (1 : Int32)), .val (.int ia), .val (.int ja), .val (.int ka), .val (.int (1 : Int32)), .unset, .unset, .unset, .unset, .unset] [])) (fun _ ks_ => XS.ifNo X366.here hx rfl (hb hby at_236) rfl ((if0 _ _).trans (feq (show ¬ ((1 : Int32) = (0 : Int32)) from (by decide))).1) ks_) ?_
      refine go (u' := T366.setTop (mkF m 241 #[.val (.int p0), .val (.int p1), .val (.int p2), .val (.int p3), .val (.int p4), .val (.long q5), .second, .val (.ref b1), .val (.ref b22), .val (.ref r125), .val (.ref r142), .val (.ref r160), .val (.int (0 : Int32)), .val (.int (1 : Int32)), .val (.int (2 : Int32)), .val (.int (1 : Int32)), .val (.int ia), .val (.int ja), .val (.int ka), .val (.int (1 : Int32)), .unset, .unset, .unset, .unset, .unset] [(.ref b1)])) (fun _ ks_ => XS.aload X366.here hx rfl (hb hby at_239) rfl rfl ks_) ?_
      refine go (u' := T366.setTop (mkF m 243 #[.val (.int p0), .val (.int p1), .val (.int p2), .val (.int p3), .val (.int p4), .val (.long q5), .second, .val (.ref b1), .val (.ref b22), .val (.ref r125), .val (.ref r142), .val (.ref r160), .val (.int (0 : Int32)), .val (.int (1 : Int32)), .val (.int (2 : Int32)), .val (.int (1 : Int32)), .val (.int ia), .val (.int ja), .val (.int ka), .val (.int (1 : Int32)), .unset, .unset, .unset, .unset, .unset] [(.int ja), (.ref b1)])) (fun _ ks_ => XS.iload X366.here hx rfl (hb hby at_241) rfl  ks_) ?_
      obtain ⟨cq367, kq367, q367a, q367b, q367c⟩ := isOf hZ eq366 Fa347
      obtain ⟨_, _, ⟨T367, L367, k367, n367⟩, -, X367, ⟨Lc367, hQ367, l367, y367, z367⟩, st367⟩ := X366.virtualBack hx (y := (⟨"com/example/emberlot/emberlot/Slots", "node", "(I)Ljava/lang/Object;"⟩ : MethodName)) (z := (⟨"com/example/emberlot/emberlot/Slots", "node", "(I)Ljava/lang/Object;"⟩ : MethodName)) hown (mvT hZ (ww hw 107 rfl)) (mvT hZ (ww hw 108 rfl)) (notFace_of_selects (args := #[]) (mvT hZ (ww hw 110 rfl))) (mvT hZ (ww hw 110 rfl)) (mvT hZ (ww hw 109 rfl)) (by decide) (backOf (W := 0) (rm16 l Z a0 hw [] b1 ja na_ pa10 xa10 ca10 af_ fa.toNatClampNeg n_ ln_ (upd (upd nd_ (ia).toNatClampNeg .null) (ja).toNatClampNeg .null) (upd (upd (upd gs_ 0 (upd (gs_ 0) (ia).toNatClampNeg p4)) 2 (upd ((upd gs_ 0 (upd (gs_ 0) (ia).toNatClampNeg p4)) 2) (ia).toNatClampNeg (-1 : Int32))) 2 (upd ((upd (upd gs_ 0 (upd (gs_ 0) (ia).toNatClampNeg p4)) 2 (upd ((upd gs_ 0 (upd (gs_ 0) (ia).toNatClampNeg p4)) 2) (ia).toNatClampNeg (-1 : Int32))) 2) (ja).toNatClampNeg ia)) E10 ja (3 : Int32) T346.heap n0 Z346 Fa347 Fa348 Fa349 Fa350 Fa351 Fa352 Fa353 Fa354 Fa355 hR.2.1 (own_j3 hI.2.1 hR.1.1) hI.2.2.2.2.2.2.2.1) hZ (ww hw 111 rfl) (ww hw 2 rfl) (by decide) (by decide)) q367a q367c (g := (mkF m 243 #[.val (.int p0), .val (.int p1), .val (.int p2), .val (.int p3), .val (.int p4), .val (.long q5), .second, .val (.ref b1), .val (.ref b22), .val (.ref r125), .val (.ref r142), .val (.ref r160), .val (.int (0 : Int32)), .val (.int (1 : Int32)), .val (.int (2 : Int32)), .val (.int (1 : Int32)), .val (.int ia), .val (.int ja), .val (.int ka), .val (.int (1 : Int32)), .unset, .unset, .unset, .unset, .unset] [(.int ja), (.ref b1)])) rfl (by rw [hml]; rfl) (Steps.refl _) (argsL := [(.int ja)]) (rest := []) (lenOf pd__40_I_41_Ljava_47_lang_47_Object_59_ rfl) rfl (by show 2 * 0 + _ ≤ _; exact Nat.le_of_eq rfl) (hb hby at_243) (fun _ _ => ⟨rfl, eq366, (by decide : 44 + 0 ≤ _), (by decide : 348 + 0 ≤ _)⟩)
      dsimp only [Pt.U, Pt.locs, Pt.cells, Pt.slots] at X367 l367 y367 z367 st367 hQ367
      subst l367 y367 z367
      obtain ⟨rfl, N367q, eq367⟩ := hQ367
      have N367 := Fr.app N366 N367q
      rw [show ((upd (upd nd_ (ia).toNatClampNeg .null) (ja).toNatClampNeg .null) ja.toNatClampNeg) = .null from own_u1] at st367
      refine goT (u' := T367.setTop (mkF m 246 #[.val (.int p0), .val (.int p1), .val (.int p2), .val (.int p3), .val (.int p4), .val (.long q5), .second, .val (.ref b1), .val (.ref b22), .val (.ref r125), .val (.ref r142), .val (.ref r160), .val (.int (0 : Int32)), .val (.int (1 : Int32)), .val (.int (2 : Int32)), .val (.int (1 : Int32)), .val (.int ia), .val (.int ja), .val (.int ka), .val (.int (1 : Int32)), .unset, .unset, .unset, .unset, .unset] [.null])) st367 ?_
      refine go (u' := T367.setTop (mkF m 249 #[.val (.int p0), .val (.int p1), .val (.int p2), .val (.int p3), .val (.int p4), .val (.long q5), .second, .val (.ref b1), .val (.ref b22), .val (.ref r125), .val (.ref r142), .val (.ref r160), .val (.int (0 : Int32)), .val (.int (1 : Int32)), .val (.int (2 : Int32)), .val (.int (1 : Int32)), .val (.int ia), .val (.int ja), .val (.int ka), .val (.int (1 : Int32)), .unset, .unset, .unset, .unset, .unset] [])) (fun _ ks_ => XS.ifnonnullNo X367.here hx rfl (hb hby at_246) rfl ks_) ?_
      refine go (u' := T367.setTop (mkF m 267 #[.val (.int p0), .val (.int p1), .val (.int p2), .val (.int p3), .val (.int p4), .val (.long q5), .second, .val (.ref b1), .val (.ref b22), .val (.ref r125), .val (.ref r142), .val (.ref r160), .val (.int (0 : Int32)), .val (.int (1 : Int32)), .val (.int (2 : Int32)), .val (.int (1 : Int32)), .val (.int ia), .val (.int ja), .val (.int ka), .val (.int (1 : Int32)), .unset, .unset, .unset, .unset, .unset] [])) (fun _ ks_ => XS.goto X367.here hx rfl (pc0 := 249) (pc' := 267) rfl (hb hby at_249) (by decide) (by decide) ks_) ?_
      refine go (u' := T367.setTop (mkF m 268 #[.val (.int p0), .val (.int p1), .val (.int p2), .val (.int p3), .val (.int p4), .val (.long q5), .second, .val (.ref b1), .val (.ref b22), .val (.ref r125), .val (.ref r142), .val (.ref r160), .val (.int (0 : Int32)), .val (.int (1 : Int32)), .val (.int (2 : Int32)), .val (.int (1 : Int32)), .val (.int ia), .val (.int ja), .val (.int ka), .val (.int (1 : Int32)), .unset, .unset, .unset, .unset, .unset] [(.int (1 : Int32))])) (fun _ ks_ => XS.iconst X367.here hx rfl (hb hby at_267) ks_) ?_
      refine go (u' := T367.setTop (mkF m 272 #[.val (.int p0), .val (.int p1), .val (.int p2), .val (.int p3), .val (.int p4), .val (.long q5), .second, .val (.ref b1), .val (.ref b22), .val (.ref r125), .val (.ref r142), .val (.ref r160), .val (.int (0 : Int32)), .val (.int (1 : Int32)), .val (.int (2 : Int32)), .val (.int (1 : Int32)), .val (.int ia), .val (.int ja), .val (.int ka), .val (.int (1 : Int32)), .unset, .unset, .unset, .unset, .unset] [(.int (1 : Int32))])) (fun _ ks_ => XS.goto X367.here hx rfl (pc0 := 268) (pc' := 272) rfl (hb hby at_268) (by decide) (by decide) ks_) ?_
      refine go (u' := T367.setTop (mkF m 274 #[.val (.int p0), .val (.int p1), .val (.int p2), .val (.int p3), .val (.int p4), .val (.long q5), .second, .val (.ref b1), .val (.ref b22), .val (.ref r125), .val (.ref r142), .val (.ref r160), .val (.int (0 : Int32)), .val (.int (1 : Int32)), .val (.int (2 : Int32)), .val (.int (1 : Int32)), .val (.int ia), .val (.int ja), .val (.int ka), .val (.int (1 : Int32)), .val (.int (1 : Int32)), .unset, .unset, .unset, .unset] [])) (fun _ ks_ => XS.istore X367.here hx rfl (hb hby at_272) rfl  (l' := #[.val (.int p0), .val (.int p1), .val (.int p2), .val (.int p3), .val (.int p4), .val (.long q5), .second, .val (.ref b1), .val (.ref b22), .val (.ref r125), .val (.ref r142), .val (.ref r160), .val (.int (0 : Int32)), .val (.int (1 : Int32)), .val (.int (2 : Int32)), .val (.int (1 : Int32)), .val (.int ia), .val (.int ja), .val (.int ka), .val (.int (1 : Int32)), .val (.int (1 : Int32)), .unset, .unset, .unset, .unset]) rfl ks_) ?_
      refine go (u' := T367.setTop (mkF m 276 #[.val (.int p0), .val (.int p1), .val (.int p2), .val (.int p3), .val (.int p4), .val (.long q5), .second, .val (.ref b1), .val (.ref b22), .val (.ref r125), .val (.ref r142), .val (.ref r160), .val (.int (0 : Int32)), .val (.int (1 : Int32)), .val (.int (2 : Int32)), .val (.int (1 : Int32)), .val (.int ia), .val (.int ja), .val (.int ka), .val (.int (1 : Int32)), .val (.int (1 : Int32)), .unset, .unset, .unset, .unset] [(.int (1 : Int32))])) (fun _ ks_ => XS.iload X367.here hx rfl (hb hby at_274) rfl  ks_) ?_
      refine go (u' := T367.setTop (mkF m 279 #[.val (.int p0), .val (.int p1), .val (.int p2), .val (.int p3), .val (.int p4), .val (.long q5), .second, .val (.ref b1), .val (.ref b22), .val (.ref r125), .val (.ref r142), .val (.ref r160), .val (.int (0 : Int32)), .val (.int (1 : Int32)), .val (.int (2 : Int32)), .val (.int (1 : Int32)), .val (.int ia), .val (.int ja), .val (.int ka), .val (.int (1 : Int32)), .val (.int (1 : Int32)), .unset, .unset, .unset, .unset] [])) (fun _ ks_ => XS.ifNo X367.here hx rfl (hb hby at_276) rfl ((if0 _ _).trans (feq (show ¬ ((1 : Int32) = (0 : Int32)) from (by decide))).1) ks_) ?_
      refine go (u' := T367.setTop (mkF m 281 #[.val (.int p0), .val (.int p1), .val (.int p2), .val (.int p3), .val (.int p4), .val (.long q5), .second, .val (.ref b1), .val (.ref b22), .val (.ref r125), .val (.ref r142), .val (.ref r160), .val (.int (0 : Int32)), .val (.int (1 : Int32)), .val (.int (2 : Int32)), .val (.int (1 : Int32)), .val (.int ia), .val (.int ja), .val (.int ka), .val (.int (1 : Int32)), .val (.int (1 : Int32)), .unset, .unset, .unset, .unset] [(.int (1 : Int32))])) (fun _ ks_ => XS.iload X367.here hx rfl (hb hby at_279) rfl  ks_) ?_
      refine go (u' := T367.setTop (mkF m 284 #[.val (.int p0), .val (.int p1), .val (.int p2), .val (.int p3), .val (.int p4), .val (.long q5), .second, .val (.ref b1), .val (.ref b22), .val (.ref r125), .val (.ref r142), .val (.ref r160), .val (.int (0 : Int32)), .val (.int (1 : Int32)), .val (.int (2 : Int32)), .val (.int (1 : Int32)), .val (.int ia), .val (.int ja), .val (.int ka), .val (.int (1 : Int32)), .val (.int (1 : Int32)), .unset, .unset, .unset, .unset] [])) (fun _ ks_ => XS.ifNo X367.here hx rfl (hb hby at_281) rfl ((if0 _ _).trans (feq (show ¬ ((1 : Int32) = (0 : Int32)) from (by decide))).1) ks_) ?_
      refine go (u' := T367.setTop (mkF m 285 #[.val (.int p0), .val (.int p1), .val (.int p2), .val (.int p3), .val (.int p4), .val (.long q5), .second, .val (.ref b1), .val (.ref b22), .val (.ref r125), .val (.ref r142), .val (.ref r160), .val (.int (0 : Int32)), .val (.int (1 : Int32)), .val (.int (2 : Int32)), .val (.int (1 : Int32)), .val (.int ia), .val (.int ja), .val (.int ka), .val (.int (1 : Int32)), .val (.int (1 : Int32)), .unset, .unset, .unset, .unset] [(.int (1 : Int32))])) (fun _ ks_ => XS.iconst X367.here hx rfl (hb hby at_284) ks_) ?_
      refine go (u' := T367.setTop (mkF m 289 #[.val (.int p0), .val (.int p1), .val (.int p2), .val (.int p3), .val (.int p4), .val (.long q5), .second, .val (.ref b1), .val (.ref b22), .val (.ref r125), .val (.ref r142), .val (.ref r160), .val (.int (0 : Int32)), .val (.int (1 : Int32)), .val (.int (2 : Int32)), .val (.int (1 : Int32)), .val (.int ia), .val (.int ja), .val (.int ka), .val (.int (1 : Int32)), .val (.int (1 : Int32)), .unset, .unset, .unset, .unset] [(.int (1 : Int32))])) (fun _ ks_ => XS.goto X367.here hx rfl (pc0 := 285) (pc' := 289) rfl (hb hby at_285) (by decide) (by decide) ks_) ?_
      refine go (u' := T367.setTop (mkF m 291 #[.val (.int p0), .val (.int p1), .val (.int p2), .val (.int p3), .val (.int p4), .val (.long q5), .second, .val (.ref b1), .val (.ref b22), .val (.ref r125), .val (.ref r142), .val (.ref r160), .val (.int (0 : Int32)), .val (.int (1 : Int32)), .val (.int (2 : Int32)), .val (.int (1 : Int32)), .val (.int ia), .val (.int ja), .val (.int ka), .val (.int (1 : Int32)), .val (.int (1 : Int32)), .unset, .unset, .unset, .unset] [])) (fun _ ks_ => XS.istore X367.here hx rfl (hb hby at_289) rfl  (l' := #[.val (.int p0), .val (.int p1), .val (.int p2), .val (.int p3), .val (.int p4), .val (.long q5), .second, .val (.ref b1), .val (.ref b22), .val (.ref r125), .val (.ref r142), .val (.ref r160), .val (.int (0 : Int32)), .val (.int (1 : Int32)), .val (.int (2 : Int32)), .val (.int (1 : Int32)), .val (.int ia), .val (.int ja), .val (.int ka), .val (.int (1 : Int32)), .val (.int (1 : Int32)), .unset, .unset, .unset, .unset]) rfl ks_) ?_
      refine go (u' := T367.setTop (mkF m 293 #[.val (.int p0), .val (.int p1), .val (.int p2), .val (.int p3), .val (.int p4), .val (.long q5), .second, .val (.ref b1), .val (.ref b22), .val (.ref r125), .val (.ref r142), .val (.ref r160), .val (.int (0 : Int32)), .val (.int (1 : Int32)), .val (.int (2 : Int32)), .val (.int (1 : Int32)), .val (.int ia), .val (.int ja), .val (.int ka), .val (.int (1 : Int32)), .val (.int (1 : Int32)), .unset, .unset, .unset, .unset] [(.ref b1)])) (fun _ ks_ => XS.aload X367.here hx rfl (hb hby at_291) rfl rfl ks_) ?_
      refine go (u' := T367.setTop (mkF m 295 #[.val (.int p0), .val (.int p1), .val (.int p2), .val (.int p3), .val (.int p4), .val (.long q5), .second, .val (.ref b1), .val (.ref b22), .val (.ref r125), .val (.ref r142), .val (.ref r160), .val (.int (0 : Int32)), .val (.int (1 : Int32)), .val (.int (2 : Int32)), .val (.int (1 : Int32)), .val (.int ia), .val (.int ja), .val (.int ka), .val (.int (1 : Int32)), .val (.int (1 : Int32)), .unset, .unset, .unset, .unset] [(.ref r125), (.ref b1)])) (fun _ ks_ => XS.aload X367.here hx rfl (hb hby at_293) rfl rfl ks_) ?_
      obtain ⟨cq368, kq368, q368a, q368b, q368c⟩ := isOf hZ eq367 Fa347
      obtain ⟨_, _, ⟨T368, L368, k368, n368⟩, -, X368, ⟨Lc368, hQ368, l368, y368, z368⟩, st368⟩ := X367.virtualBack hx (y := (⟨"com/example/emberlot/emberlot/Slots", "add", "(Ljava/lang/Object;)I"⟩ : MethodName)) (z := (⟨"com/example/emberlot/emberlot/Slots", "add", "(Ljava/lang/Object;)I"⟩ : MethodName)) hown (mvT hZ (ww hw 58 rfl)) (mvT hZ (ww hw 59 rfl)) (notFace_of_selects (args := #[]) (mvT hZ (ww hw 61 rfl))) (mvT hZ (ww hw 61 rfl)) (mvT hZ (ww hw 60 rfl)) (by decide) (backOf (W := 0) (rm8a l Z a0 hw [] b1 r125 na_ pa10 xa10 ca10 af_ fa.toNatClampNeg n_ ln_ (upd (upd nd_ (ia).toNatClampNeg .null) (ja).toNatClampNeg .null) (upd (upd (upd gs_ 0 (upd (gs_ 0) (ia).toNatClampNeg p4)) 2 (upd ((upd gs_ 0 (upd (gs_ 0) (ia).toNatClampNeg p4)) 2) (ia).toNatClampNeg (-1 : Int32))) 2 (upd ((upd (upd gs_ 0 (upd (gs_ 0) (ia).toNatClampNeg p4)) 2 (upd ((upd gs_ 0 (upd (gs_ 0) (ia).toNatClampNeg p4)) 2) (ia).toNatClampNeg (-1 : Int32))) 2) (ja).toNatClampNeg ia)) E10 ja (3 : Int32) T346.heap n0 Z346 Fa347 Fa348 Fa349 Fa350 Fa351 Fa352 Fa353 Fa354 Fa355 Fa362 hR.2.1 hI.2.2.2.2.2.2.2.1 (own_j3 hI.2.1 hR.1.1)) hZ (ww hw 62 rfl) (ww hw 2 rfl) (by decide) (by decide)) q368a q368c (g := (mkF m 295 #[.val (.int p0), .val (.int p1), .val (.int p2), .val (.int p3), .val (.int p4), .val (.long q5), .second, .val (.ref b1), .val (.ref b22), .val (.ref r125), .val (.ref r142), .val (.ref r160), .val (.int (0 : Int32)), .val (.int (1 : Int32)), .val (.int (2 : Int32)), .val (.int (1 : Int32)), .val (.int ia), .val (.int ja), .val (.int ka), .val (.int (1 : Int32)), .val (.int (1 : Int32)), .unset, .unset, .unset, .unset] [(.ref r125), (.ref b1)])) rfl (by rw [hml]; rfl) (Steps.refl _) (argsL := [(.ref r125)]) (rest := []) (lenOf pd__40_Ljava_47_lang_47_Object_59__41_I rfl) rfl (by show 2 * 0 + _ ≤ _; exact Nat.le_of_eq rfl) (hb hby at_295) (fun _ _ => ⟨rfl, eq367, (by decide : 44 + 0 ≤ _), (by decide : 348 + 0 ≤ _)⟩)
      dsimp only [Pt.U, Pt.locs, Pt.cells, Pt.slots] at X368 l368 y368 z368 st368 hQ368
      subst l368 y368 z368
      obtain ⟨gs1368, rfl, N368q, Kq368, Fa369, Fa370, Fa371, Fa372, Fa373, Fa374, Fa375, Fa376, Fa377, a0_368, a2_368⟩ := hQ368
      have N368 := Fr.app N367 N368q
      have K368 : Keep h0 T368.heap [] := K346.trans Kq368 (own_WlLo Fa355 hn0)
      have Z368 : n0 ≤ T368.heap.size := Nat.le_trans Z346 Kq368.1
      have Fa378 : Exa Z T368.heap b1 "com/example/emberlot/emberlot/Slots" := Fa347.keep Kq368
      have Fa379 : PR Z T368.heap b22 (.object "java/lang/Object") "java/lang/Object" 3 (fun u => Value.ref (oad r34 r62 r92 u)) := Fa357.keep Kq368 (own_nW hno3)
      have Fa380 : Exa Z T368.heap b22 "[Ljava/lang/Object;" := Fa358.keep Kq368
      have Fa381 : Exa Z T368.heap r34 "java/lang/Integer" := Fa359.keep Kq368
      have Fa382 : Exa Z T368.heap r62 "java/lang/Integer" := Fa360.keep Kq368
      have Fa383 : Exa Z T368.heap r92 "java/lang/Integer" := Fa361.keep Kq368
      have Fa384 : Exa Z T368.heap r125 "java/lang/Integer" := Fa362.keep Kq368
      have Fa385 : Exa Z T368.heap r142 "java/lang/Integer" := Fa363.keep Kq368
      have Fa386 : Exa Z T368.heap r160 "java/lang/Integer" := Fa364.keep Kq368
      refine goT (u' := T368.setTop (mkF m 298 #[.val (.int p0), .val (.int p1), .val (.int p2), .val (.int p3), .val (.int p4), .val (.long q5), .second, .val (.ref b1), .val (.ref b22), .val (.ref r125), .val (.ref r142), .val (.ref r160), .val (.int (0 : Int32)), .val (.int (1 : Int32)), .val (.int (2 : Int32)), .val (.int (1 : Int32)), .val (.int ia), .val (.int ja), .val (.int ka), .val (.int (1 : Int32)), .val (.int (1 : Int32)), .unset, .unset, .unset, .unset] [(.int ja)])) st368 ?_
      have Fa387 : Fld Z T368.heap b1 "com/example/emberlot/emberlot/Slots" "free" "I" (.int ia) := own_Fto Fa375 (congrArg Value.int own_u3)
      refine go (u' := T368.setTop (mkF m 300 #[.val (.int p0), .val (.int p1), .val (.int p2), .val (.int p3), .val (.int p4), .val (.long q5), .second, .val (.ref b1), .val (.ref b22), .val (.ref r125), .val (.ref r142), .val (.ref r160), .val (.int (0 : Int32)), .val (.int (1 : Int32)), .val (.int (2 : Int32)), .val (.int (1 : Int32)), .val (.int ia), .val (.int ja), .val (.int ka), .val (.int (1 : Int32)), .val (.int (1 : Int32)), .val (.int ja), .unset, .unset, .unset] [])) (fun _ ks_ => XS.istore X368.here hx rfl (hb hby at_298) rfl  (l' := #[.val (.int p0), .val (.int p1), .val (.int p2), .val (.int p3), .val (.int p4), .val (.long q5), .second, .val (.ref b1), .val (.ref b22), .val (.ref r125), .val (.ref r142), .val (.ref r160), .val (.int (0 : Int32)), .val (.int (1 : Int32)), .val (.int (2 : Int32)), .val (.int (1 : Int32)), .val (.int ia), .val (.int ja), .val (.int ka), .val (.int (1 : Int32)), .val (.int (1 : Int32)), .val (.int ja), .unset, .unset, .unset]) rfl ks_) ?_
      refine go (u' := T368.setTop (mkF m 302 #[.val (.int p0), .val (.int p1), .val (.int p2), .val (.int p3), .val (.int p4), .val (.long q5), .second, .val (.ref b1), .val (.ref b22), .val (.ref r125), .val (.ref r142), .val (.ref r160), .val (.int (0 : Int32)), .val (.int (1 : Int32)), .val (.int (2 : Int32)), .val (.int (1 : Int32)), .val (.int ia), .val (.int ja), .val (.int ka), .val (.int (1 : Int32)), .val (.int (1 : Int32)), .val (.int ja), .unset, .unset, .unset] [(.int (1 : Int32))])) (fun _ ks_ => XS.iload X368.here hx rfl (hb hby at_300) rfl  ks_) ?_
      refine go (u' := T368.setTop (mkF m 305 #[.val (.int p0), .val (.int p1), .val (.int p2), .val (.int p3), .val (.int p4), .val (.long q5), .second, .val (.ref b1), .val (.ref b22), .val (.ref r125), .val (.ref r142), .val (.ref r160), .val (.int (0 : Int32)), .val (.int (1 : Int32)), .val (.int (2 : Int32)), .val (.int (1 : Int32)), .val (.int ia), .val (.int ja), .val (.int ka), .val (.int (1 : Int32)), .val (.int (1 : Int32)), .val (.int ja), .unset, .unset, .unset] [])) (fun _ ks_ => XS.ifNo X368.here hx rfl (hb hby at_302) rfl ((if0 _ _).trans (feq (show ¬ ((1 : Int32) = (0 : Int32)) from (by decide))).1) ks_) ?_
      refine go (u' := T368.setTop (mkF m 307 #[.val (.int p0), .val (.int p1), .val (.int p2), .val (.int p3), .val (.int p4), .val (.long q5), .second, .val (.ref b1), .val (.ref b22), .val (.ref r125), .val (.ref r142), .val (.ref r160), .val (.int (0 : Int32)), .val (.int (1 : Int32)), .val (.int (2 : Int32)), .val (.int (1 : Int32)), .val (.int ia), .val (.int ja), .val (.int ka), .val (.int (1 : Int32)), .val (.int (1 : Int32)), .val (.int ja), .unset, .unset, .unset] [(.int ja)])) (fun _ ks_ => XS.iload X368.here hx rfl (hb hby at_305) rfl  ks_) ?_
      refine go (u' := T368.setTop (mkF m 312 #[.val (.int p0), .val (.int p1), .val (.int p2), .val (.int p3), .val (.int p4), .val (.long q5), .second, .val (.ref b1), .val (.ref b22), .val (.ref r125), .val (.ref r142), .val (.ref r160), .val (.int (0 : Int32)), .val (.int (1 : Int32)), .val (.int (2 : Int32)), .val (.int (1 : Int32)), .val (.int ia), .val (.int ja), .val (.int ka), .val (.int (1 : Int32)), .val (.int (1 : Int32)), .val (.int ja), .unset, .unset, .unset] [(.int ja)])) (fun _ ks_ => XS.goto X368.here hx rfl (pc0 := 307) (pc' := 312) rfl (hb hby at_307) (by decide) (by decide) ks_) ?_
      refine go (u' := T368.setTop (mkF m 314 #[.val (.int p0), .val (.int p1), .val (.int p2), .val (.int p3), .val (.int p4), .val (.long q5), .second, .val (.ref b1), .val (.ref b22), .val (.ref r125), .val (.ref r142), .val (.ref r160), .val (.int (0 : Int32)), .val (.int (1 : Int32)), .val (.int (2 : Int32)), .val (.int (1 : Int32)), .val (.int ia), .val (.int ja), .val (.int ka), .val (.int (1 : Int32)), .val (.int (1 : Int32)), .val (.int ja), .val (.int ja), .unset, .unset] [])) (fun _ ks_ => XS.istore X368.here hx rfl (hb hby at_312) rfl  (l' := #[.val (.int p0), .val (.int p1), .val (.int p2), .val (.int p3), .val (.int p4), .val (.long q5), .second, .val (.ref b1), .val (.ref b22), .val (.ref r125), .val (.ref r142), .val (.ref r160), .val (.int (0 : Int32)), .val (.int (1 : Int32)), .val (.int (2 : Int32)), .val (.int (1 : Int32)), .val (.int ia), .val (.int ja), .val (.int ka), .val (.int (1 : Int32)), .val (.int (1 : Int32)), .val (.int ja), .val (.int ja), .unset, .unset]) rfl ks_) ?_
      refine go (u' := T368.setTop (mkF m 316 #[.val (.int p0), .val (.int p1), .val (.int p2), .val (.int p3), .val (.int p4), .val (.long q5), .second, .val (.ref b1), .val (.ref b22), .val (.ref r125), .val (.ref r142), .val (.ref r160), .val (.int (0 : Int32)), .val (.int (1 : Int32)), .val (.int (2 : Int32)), .val (.int (1 : Int32)), .val (.int ia), .val (.int ja), .val (.int ka), .val (.int (1 : Int32)), .val (.int (1 : Int32)), .val (.int ja), .val (.int ja), .unset, .unset] [(.int (1 : Int32))])) (fun _ ks_ => XS.iload X368.here hx rfl (hb hby at_314) rfl  ks_) ?_
      refine go (u' := T368.setTop (mkF m 319 #[.val (.int p0), .val (.int p1), .val (.int p2), .val (.int p3), .val (.int p4), .val (.long q5), .second, .val (.ref b1), .val (.ref b22), .val (.ref r125), .val (.ref r142), .val (.ref r160), .val (.int (0 : Int32)), .val (.int (1 : Int32)), .val (.int (2 : Int32)), .val (.int (1 : Int32)), .val (.int ia), .val (.int ja), .val (.int ka), .val (.int (1 : Int32)), .val (.int (1 : Int32)), .val (.int ja), .val (.int ja), .unset, .unset] [])) (fun _ ks_ => XS.ifNo X368.here hx rfl (hb hby at_316) rfl ((if0 _ _).trans (feq (show ¬ ((1 : Int32) = (0 : Int32)) from (by decide))).1) ks_) ?_
      refine go (u' := T368.setTop (mkF m 321 #[.val (.int p0), .val (.int p1), .val (.int p2), .val (.int p3), .val (.int p4), .val (.long q5), .second, .val (.ref b1), .val (.ref b22), .val (.ref r125), .val (.ref r142), .val (.ref r160), .val (.int (0 : Int32)), .val (.int (1 : Int32)), .val (.int (2 : Int32)), .val (.int (1 : Int32)), .val (.int ia), .val (.int ja), .val (.int ka), .val (.int (1 : Int32)), .val (.int (1 : Int32)), .val (.int ja), .val (.int ja), .unset, .unset] [(.int ja)])) (fun _ ks_ => XS.iload X368.here hx rfl (hb hby at_319) rfl  ks_) ?_
      refine go (u' := T368.setTop (mkF m 323 #[.val (.int p0), .val (.int p1), .val (.int p2), .val (.int p3), .val (.int p4), .val (.long q5), .second, .val (.ref b1), .val (.ref b22), .val (.ref r125), .val (.ref r142), .val (.ref r160), .val (.int (0 : Int32)), .val (.int (1 : Int32)), .val (.int (2 : Int32)), .val (.int (1 : Int32)), .val (.int ia), .val (.int ja), .val (.int ka), .val (.int (1 : Int32)), .val (.int (1 : Int32)), .val (.int ja), .val (.int ja), .unset, .unset] [(.int ja), (.int ja)])) (fun _ ks_ => XS.iload X368.here hx rfl (hb hby at_321) rfl  ks_) ?_
      refine go (u' := T368.setTop (mkF m 326 #[.val (.int p0), .val (.int p1), .val (.int p2), .val (.int p3), .val (.int p4), .val (.long q5), .second, .val (.ref b1), .val (.ref b22), .val (.ref r125), .val (.ref r142), .val (.ref r160), .val (.int (0 : Int32)), .val (.int (1 : Int32)), .val (.int (2 : Int32)), .val (.int (1 : Int32)), .val (.int ia), .val (.int ja), .val (.int ka), .val (.int (1 : Int32)), .val (.int (1 : Int32)), .val (.int ja), .val (.int ja), .unset, .unset] [])) (fun _ ks_ => XS.icmpNo X368.here hx rfl (hb hby at_323) rfl (teq rfl).2 ks_) ?_
      refine go (u' := T368.setTop (mkF m 327 #[.val (.int p0), .val (.int p1), .val (.int p2), .val (.int p3), .val (.int p4), .val (.long q5), .second, .val (.ref b1), .val (.ref b22), .val (.ref r125), .val (.ref r142), .val (.ref r160), .val (.int (0 : Int32)), .val (.int (1 : Int32)), .val (.int (2 : Int32)), .val (.int (1 : Int32)), .val (.int ia), .val (.int ja), .val (.int ka), .val (.int (1 : Int32)), .val (.int (1 : Int32)), .val (.int ja), .val (.int ja), .unset, .unset] [(.int (1 : Int32))])) (fun _ ks_ => XS.iconst X368.here hx rfl (hb hby at_326) ks_) ?_
      refine go (u' := T368.setTop (mkF m 331 #[.val (.int p0), .val (.int p1), .val (.int p2), .val (.int p3), .val (.int p4), .val (.long q5), .second, .val (.ref b1), .val (.ref b22), .val (.ref r125), .val (.ref r142), .val (.ref r160), .val (.int (0 : Int32)), .val (.int (1 : Int32)), .val (.int (2 : Int32)), .val (.int (1 : Int32)), .val (.int ia), .val (.int ja), .val (.int ka), .val (.int (1 : Int32)), .val (.int (1 : Int32)), .val (.int ja), .val (.int ja), .unset, .unset] [(.int (1 : Int32))])) (fun _ ks_ => XS.goto X368.here hx rfl (pc0 := 327) (pc' := 331) rfl (hb hby at_327) (by decide) (by decide) ks_) ?_
      refine go (u' := T368.setTop (mkF m 333 #[.val (.int p0), .val (.int p1), .val (.int p2), .val (.int p3), .val (.int p4), .val (.long q5), .second, .val (.ref b1), .val (.ref b22), .val (.ref r125), .val (.ref r142), .val (.ref r160), .val (.int (0 : Int32)), .val (.int (1 : Int32)), .val (.int (2 : Int32)), .val (.int (1 : Int32)), .val (.int ia), .val (.int ja), .val (.int ka), .val (.int (1 : Int32)), .val (.int (1 : Int32)), .val (.int ja), .val (.int ja), .unset, .unset] [])) (fun _ ks_ => XS.istore X368.here hx rfl (hb hby at_331) rfl  (l' := #[.val (.int p0), .val (.int p1), .val (.int p2), .val (.int p3), .val (.int p4), .val (.long q5), .second, .val (.ref b1), .val (.ref b22), .val (.ref r125), .val (.ref r142), .val (.ref r160), .val (.int (0 : Int32)), .val (.int (1 : Int32)), .val (.int (2 : Int32)), .val (.int (1 : Int32)), .val (.int ia), .val (.int ja), .val (.int ka), .val (.int (1 : Int32)), .val (.int (1 : Int32)), .val (.int ja), .val (.int ja), .unset, .unset]) rfl ks_) ?_
      refine go (u' := T368.setTop (mkF m 335 #[.val (.int p0), .val (.int p1), .val (.int p2), .val (.int p3), .val (.int p4), .val (.long q5), .second, .val (.ref b1), .val (.ref b22), .val (.ref r125), .val (.ref r142), .val (.ref r160), .val (.int (0 : Int32)), .val (.int (1 : Int32)), .val (.int (2 : Int32)), .val (.int (1 : Int32)), .val (.int ia), .val (.int ja), .val (.int ka), .val (.int (1 : Int32)), .val (.int (1 : Int32)), .val (.int ja), .val (.int ja), .unset, .unset] [(.int (1 : Int32))])) (fun _ ks_ => XS.iload X368.here hx rfl (hb hby at_333) rfl  ks_) ?_
      refine go (u' := T368.setTop (mkF m 338 #[.val (.int p0), .val (.int p1), .val (.int p2), .val (.int p3), .val (.int p4), .val (.long q5), .second, .val (.ref b1), .val (.ref b22), .val (.ref r125), .val (.ref r142), .val (.ref r160), .val (.int (0 : Int32)), .val (.int (1 : Int32)), .val (.int (2 : Int32)), .val (.int (1 : Int32)), .val (.int ia), .val (.int ja), .val (.int ka), .val (.int (1 : Int32)), .val (.int (1 : Int32)), .val (.int ja), .val (.int ja), .unset, .unset] [])) (fun _ ks_ => XS.ifNo X368.here hx rfl (hb hby at_335) rfl ((if0 _ _).trans (feq (show ¬ ((1 : Int32) = (0 : Int32)) from (by decide))).1) ks_) ?_
      refine go (u' := T368.setTop (mkF m 340 #[.val (.int p0), .val (.int p1), .val (.int p2), .val (.int p3), .val (.int p4), .val (.long q5), .second, .val (.ref b1), .val (.ref b22), .val (.ref r125), .val (.ref r142), .val (.ref r160), .val (.int (0 : Int32)), .val (.int (1 : Int32)), .val (.int (2 : Int32)), .val (.int (1 : Int32)), .val (.int ia), .val (.int ja), .val (.int ka), .val (.int (1 : Int32)), .val (.int (1 : Int32)), .val (.int ja), .val (.int ja), .unset, .unset] [(.ref b1)])) (fun _ ks_ => XS.aload X368.here hx rfl (hb hby at_338) rfl rfl ks_) ?_
      refine go (u' := T368.setTop (mkF m 342 #[.val (.int p0), .val (.int p1), .val (.int p2), .val (.int p3), .val (.int p4), .val (.long q5), .second, .val (.ref b1), .val (.ref b22), .val (.ref r125), .val (.ref r142), .val (.ref r160), .val (.int (0 : Int32)), .val (.int (1 : Int32)), .val (.int (2 : Int32)), .val (.int (1 : Int32)), .val (.int ia), .val (.int ja), .val (.int ka), .val (.int (1 : Int32)), .val (.int (1 : Int32)), .val (.int ja), .val (.int ja), .unset, .unset] [(.ref r142), (.ref b1)])) (fun _ ks_ => XS.aload X368.here hx rfl (hb hby at_340) rfl rfl ks_) ?_
      obtain ⟨cq388, kq388, q388a, q388b, q388c⟩ := isOf hZ (rfl : T368.heap = _) Fa369
      obtain ⟨_, _, ⟨T388, L388, k388, n388⟩, -, X388, ⟨Lc388, hQ388, l388, y388, z388⟩, st388⟩ := X368.virtualBack hx (y := (⟨"com/example/emberlot/emberlot/Slots", "add", "(Ljava/lang/Object;)I"⟩ : MethodName)) (z := (⟨"com/example/emberlot/emberlot/Slots", "add", "(Ljava/lang/Object;)I"⟩ : MethodName)) hown (mvT hZ (ww hw 58 rfl)) (mvT hZ (ww hw 59 rfl)) (notFace_of_selects (args := #[]) (mvT hZ (ww hw 61 rfl))) (mvT hZ (ww hw 61 rfl)) (mvT hZ (ww hw 60 rfl)) (by decide) (backOf (W := 0) (rm8a l Z a0 hw [] b1 r142 na_ pa10 xa10 ca10 af_ fa.toNatClampNeg n_ ln_ (upd (upd (upd nd_ (ia).toNatClampNeg .null) (ja).toNatClampNeg .null) (ja).toNatClampNeg (.ref r125)) gs1368 E10 ia (3 : Int32) T368.heap n0 Z368 Fa369 Fa370 Fa371 Fa372 Fa373 Fa374 Fa387 Fa376 Fa377 Fa385 hR.2.1 hI.2.2.2.2.2.2.1 (own_j3 hI.1 hR.1.1)) hZ (ww hw 62 rfl) (ww hw 2 rfl) (by decide) (by decide)) q388a q388c (g := (mkF m 342 #[.val (.int p0), .val (.int p1), .val (.int p2), .val (.int p3), .val (.int p4), .val (.long q5), .second, .val (.ref b1), .val (.ref b22), .val (.ref r125), .val (.ref r142), .val (.ref r160), .val (.int (0 : Int32)), .val (.int (1 : Int32)), .val (.int (2 : Int32)), .val (.int (1 : Int32)), .val (.int ia), .val (.int ja), .val (.int ka), .val (.int (1 : Int32)), .val (.int (1 : Int32)), .val (.int ja), .val (.int ja), .unset, .unset] [(.ref r142), (.ref b1)])) rfl (by rw [hml]; rfl) (Steps.refl _) (argsL := [(.ref r142)]) (rest := []) (lenOf pd__40_Ljava_47_lang_47_Object_59__41_I rfl) rfl (by show 2 * 0 + _ ≤ _; exact Nat.le_of_eq rfl) (hb hby at_342) (fun _ _ => ⟨rfl, (rfl : T368.heap = _), (by decide : 44 + 0 ≤ _), (by decide : 348 + 0 ≤ _)⟩)
      dsimp only [Pt.U, Pt.locs, Pt.cells, Pt.slots] at X388 l388 y388 z388 st388 hQ388
      subst l388 y388 z388
      obtain ⟨gs1388, rfl, N388q, Kq388, Fa389, Fa390, Fa391, Fa392, Fa393, Fa394, Fa395, Fa396, Fa397, a0_388, a2_388⟩ := hQ388
      have N388 := Fr.app N368 N388q
      have K388 : Keep h0 T388.heap [] := K368.trans Kq388 (own_WlLo Fa377 hn0)
      have Z388 : n0 ≤ T388.heap.size := Nat.le_trans Z368 Kq388.1
      have Fa398 : Exa Z T388.heap b1 "com/example/emberlot/emberlot/Slots" := Fa369.keep Kq388
      have Fa399 : PR Z T388.heap b22 (.object "java/lang/Object") "java/lang/Object" 3 (fun u => Value.ref (oad r34 r62 r92 u)) := Fa379.keep Kq388 (own_nW hno3)
      have Fa400 : Exa Z T388.heap b22 "[Ljava/lang/Object;" := Fa380.keep Kq388
      have Fa401 : Exa Z T388.heap r34 "java/lang/Integer" := Fa381.keep Kq388
      have Fa402 : Exa Z T388.heap r62 "java/lang/Integer" := Fa382.keep Kq388
      have Fa403 : Exa Z T388.heap r92 "java/lang/Integer" := Fa383.keep Kq388
      have Fa404 : Exa Z T388.heap r125 "java/lang/Integer" := Fa384.keep Kq388
      have Fa405 : Exa Z T388.heap r142 "java/lang/Integer" := Fa385.keep Kq388
      have Fa406 : Exa Z T388.heap r160 "java/lang/Integer" := Fa386.keep Kq388
      refine goT (u' := T388.setTop (mkF m 345 #[.val (.int p0), .val (.int p1), .val (.int p2), .val (.int p3), .val (.int p4), .val (.long q5), .second, .val (.ref b1), .val (.ref b22), .val (.ref r125), .val (.ref r142), .val (.ref r160), .val (.int (0 : Int32)), .val (.int (1 : Int32)), .val (.int (2 : Int32)), .val (.int (1 : Int32)), .val (.int ia), .val (.int ja), .val (.int ka), .val (.int (1 : Int32)), .val (.int (1 : Int32)), .val (.int ja), .val (.int ja), .unset, .unset] [(.int ia)])) st388 ?_
      have Fa407 : Fld Z T388.heap b1 "com/example/emberlot/emberlot/Slots" "free" "I" (.int (-1 : Int32)) := own_Fto Fa395 (congrArg Value.int (own_u4 a2_368 hI.2.2.2.1))
      refine go (u' := T388.setTop (mkF m 347 #[.val (.int p0), .val (.int p1), .val (.int p2), .val (.int p3), .val (.int p4), .val (.long q5), .second, .val (.ref b1), .val (.ref b22), .val (.ref r125), .val (.ref r142), .val (.ref r160), .val (.int (0 : Int32)), .val (.int (1 : Int32)), .val (.int (2 : Int32)), .val (.int (1 : Int32)), .val (.int ia), .val (.int ja), .val (.int ka), .val (.int (1 : Int32)), .val (.int (1 : Int32)), .val (.int ja), .val (.int ja), .val (.int ia), .unset] [])) (fun _ ks_ => XS.istore X388.here hx rfl (hb hby at_345) rfl  (l' := #[.val (.int p0), .val (.int p1), .val (.int p2), .val (.int p3), .val (.int p4), .val (.long q5), .second, .val (.ref b1), .val (.ref b22), .val (.ref r125), .val (.ref r142), .val (.ref r160), .val (.int (0 : Int32)), .val (.int (1 : Int32)), .val (.int (2 : Int32)), .val (.int (1 : Int32)), .val (.int ia), .val (.int ja), .val (.int ka), .val (.int (1 : Int32)), .val (.int (1 : Int32)), .val (.int ja), .val (.int ja), .val (.int ia), .unset]) rfl ks_) ?_
      refine go (u' := T388.setTop (mkF m 349 #[.val (.int p0), .val (.int p1), .val (.int p2), .val (.int p3), .val (.int p4), .val (.long q5), .second, .val (.ref b1), .val (.ref b22), .val (.ref r125), .val (.ref r142), .val (.ref r160), .val (.int (0 : Int32)), .val (.int (1 : Int32)), .val (.int (2 : Int32)), .val (.int (1 : Int32)), .val (.int ia), .val (.int ja), .val (.int ka), .val (.int (1 : Int32)), .val (.int (1 : Int32)), .val (.int ja), .val (.int ja), .val (.int ia), .unset] [(.int (1 : Int32))])) (fun _ ks_ => XS.iload X388.here hx rfl (hb hby at_347) rfl  ks_) ?_
      refine go (u' := T388.setTop (mkF m 352 #[.val (.int p0), .val (.int p1), .val (.int p2), .val (.int p3), .val (.int p4), .val (.long q5), .second, .val (.ref b1), .val (.ref b22), .val (.ref r125), .val (.ref r142), .val (.ref r160), .val (.int (0 : Int32)), .val (.int (1 : Int32)), .val (.int (2 : Int32)), .val (.int (1 : Int32)), .val (.int ia), .val (.int ja), .val (.int ka), .val (.int (1 : Int32)), .val (.int (1 : Int32)), .val (.int ja), .val (.int ja), .val (.int ia), .unset] [])) (fun _ ks_ => XS.ifNo X388.here hx rfl (hb hby at_349) rfl ((if0 _ _).trans (feq (show ¬ ((1 : Int32) = (0 : Int32)) from (by decide))).1) ks_) ?_
      refine go (u' := T388.setTop (mkF m 354 #[.val (.int p0), .val (.int p1), .val (.int p2), .val (.int p3), .val (.int p4), .val (.long q5), .second, .val (.ref b1), .val (.ref b22), .val (.ref r125), .val (.ref r142), .val (.ref r160), .val (.int (0 : Int32)), .val (.int (1 : Int32)), .val (.int (2 : Int32)), .val (.int (1 : Int32)), .val (.int ia), .val (.int ja), .val (.int ka), .val (.int (1 : Int32)), .val (.int (1 : Int32)), .val (.int ja), .val (.int ja), .val (.int ia), .unset] [(.int ia)])) (fun _ ks_ => XS.iload X388.here hx rfl (hb hby at_352) rfl  ks_) ?_
      refine go (u' := T388.setTop (mkF m 356 #[.val (.int p0), .val (.int p1), .val (.int p2), .val (.int p3), .val (.int p4), .val (.long q5), .second, .val (.ref b1), .val (.ref b22), .val (.ref r125), .val (.ref r142), .val (.ref r160), .val (.int (0 : Int32)), .val (.int (1 : Int32)), .val (.int (2 : Int32)), .val (.int (1 : Int32)), .val (.int ia), .val (.int ja), .val (.int ka), .val (.int (1 : Int32)), .val (.int (1 : Int32)), .val (.int ja), .val (.int ja), .val (.int ia), .unset] [(.int ia), (.int ia)])) (fun _ ks_ => XS.iload X388.here hx rfl (hb hby at_354) rfl  ks_) ?_
      refine go (u' := T388.setTop (mkF m 359 #[.val (.int p0), .val (.int p1), .val (.int p2), .val (.int p3), .val (.int p4), .val (.long q5), .second, .val (.ref b1), .val (.ref b22), .val (.ref r125), .val (.ref r142), .val (.ref r160), .val (.int (0 : Int32)), .val (.int (1 : Int32)), .val (.int (2 : Int32)), .val (.int (1 : Int32)), .val (.int ia), .val (.int ja), .val (.int ka), .val (.int (1 : Int32)), .val (.int (1 : Int32)), .val (.int ja), .val (.int ja), .val (.int ia), .unset] [])) (fun _ ks_ => XS.icmpNo X388.here hx rfl (hb hby at_356) rfl (teq rfl).2 ks_) ?_
      refine go (u' := T388.setTop (mkF m 360 #[.val (.int p0), .val (.int p1), .val (.int p2), .val (.int p3), .val (.int p4), .val (.long q5), .second, .val (.ref b1), .val (.ref b22), .val (.ref r125), .val (.ref r142), .val (.ref r160), .val (.int (0 : Int32)), .val (.int (1 : Int32)), .val (.int (2 : Int32)), .val (.int (1 : Int32)), .val (.int ia), .val (.int ja), .val (.int ka), .val (.int (1 : Int32)), .val (.int (1 : Int32)), .val (.int ja), .val (.int ja), .val (.int ia), .unset] [(.int (1 : Int32))])) (fun _ ks_ => XS.iconst X388.here hx rfl (hb hby at_359) ks_) ?_
      refine go (u' := T388.setTop (mkF m 364 #[.val (.int p0), .val (.int p1), .val (.int p2), .val (.int p3), .val (.int p4), .val (.long q5), .second, .val (.ref b1), .val (.ref b22), .val (.ref r125), .val (.ref r142), .val (.ref r160), .val (.int (0 : Int32)), .val (.int (1 : Int32)), .val (.int (2 : Int32)), .val (.int (1 : Int32)), .val (.int ia), .val (.int ja), .val (.int ka), .val (.int (1 : Int32)), .val (.int (1 : Int32)), .val (.int ja), .val (.int ja), .val (.int ia), .unset] [(.int (1 : Int32))])) (fun _ ks_ => XS.goto X388.here hx rfl (pc0 := 360) (pc' := 364) rfl (hb hby at_360) (by decide) (by decide) ks_) ?_
      refine go (u' := T388.setTop (mkF m 366 #[.val (.int p0), .val (.int p1), .val (.int p2), .val (.int p3), .val (.int p4), .val (.long q5), .second, .val (.ref b1), .val (.ref b22), .val (.ref r125), .val (.ref r142), .val (.ref r160), .val (.int (0 : Int32)), .val (.int (1 : Int32)), .val (.int (2 : Int32)), .val (.int (1 : Int32)), .val (.int ia), .val (.int ja), .val (.int ka), .val (.int (1 : Int32)), .val (.int (1 : Int32)), .val (.int ja), .val (.int ja), .val (.int ia), .unset] [])) (fun _ ks_ => XS.istore X388.here hx rfl (hb hby at_364) rfl  (l' := #[.val (.int p0), .val (.int p1), .val (.int p2), .val (.int p3), .val (.int p4), .val (.long q5), .second, .val (.ref b1), .val (.ref b22), .val (.ref r125), .val (.ref r142), .val (.ref r160), .val (.int (0 : Int32)), .val (.int (1 : Int32)), .val (.int (2 : Int32)), .val (.int (1 : Int32)), .val (.int ia), .val (.int ja), .val (.int ka), .val (.int (1 : Int32)), .val (.int (1 : Int32)), .val (.int ja), .val (.int ja), .val (.int ia), .unset]) rfl ks_) ?_
      by_cases hc3 : n_ = 3
      ·
        refine go (u' := T388.setTop (mkF m 368 #[.val (.int p0), .val (.int p1), .val (.int p2), .val (.int p3), .val (.int p4), .val (.long q5), .second, .val (.ref b1), .val (.ref b22), .val (.ref r125), .val (.ref r142), .val (.ref r160), .val (.int (0 : Int32)), .val (.int (1 : Int32)), .val (.int (2 : Int32)), .val (.int (1 : Int32)), .val (.int ia), .val (.int ja), .val (.int ka), .val (.int (1 : Int32)), .val (.int (1 : Int32)), .val (.int ja), .val (.int ja), .val (.int ia), .unset] [(.ref b1)])) (fun _ ks_ => XS.aload X388.here hx rfl (hb hby at_366) rfl rfl ks_) ?_
        refine go (u' := T388.setTop (mkF m 370 #[.val (.int p0), .val (.int p1), .val (.int p2), .val (.int p3), .val (.int p4), .val (.long q5), .second, .val (.ref b1), .val (.ref b22), .val (.ref r125), .val (.ref r142), .val (.ref r160), .val (.int (0 : Int32)), .val (.int (1 : Int32)), .val (.int (2 : Int32)), .val (.int (1 : Int32)), .val (.int ia), .val (.int ja), .val (.int ka), .val (.int (1 : Int32)), .val (.int (1 : Int32)), .val (.int ja), .val (.int ja), .val (.int ia), .unset] [(.ref r160), (.ref b1)])) (fun _ ks_ => XS.aload X388.here hx rfl (hb hby at_368) rfl rfl ks_) ?_
        obtain ⟨cq408, kq408, q408a, q408b, q408c⟩ := isOf hZ (rfl : T388.heap = _) Fa389
        obtain ⟨_, _, ⟨T408, L408, k408, n408⟩, -, X408, ⟨Lc408, hQ408, l408, y408, z408⟩, st408⟩ := X388.virtualBack hx (y := (⟨"com/example/emberlot/emberlot/Slots", "add", "(Ljava/lang/Object;)I"⟩ : MethodName)) (z := (⟨"com/example/emberlot/emberlot/Slots", "add", "(Ljava/lang/Object;)I"⟩ : MethodName)) hown (mvT hZ (ww hw 58 rfl)) (mvT hZ (ww hw 59 rfl)) (notFace_of_selects (args := #[]) (mvT hZ (ww hw 61 rfl))) (mvT hZ (ww hw 61 rfl)) (mvT hZ (ww hw 60 rfl)) (by decide) (backOf (W := 0) (rm8 l Z a0 hw [] b1 r160 na_ pa10 xa10 ca10 af_ fa.toNatClampNeg n_ ln_ (upd (upd (upd (upd nd_ (ia).toNatClampNeg .null) (ja).toNatClampNeg .null) (ja).toNatClampNeg (.ref r125)) (ia).toNatClampNeg (.ref r142)) gs1388 E10 (-1 : Int32) (3 : Int32) mr T388.heap n0 Z388 Fa389 Fa390 Fa391 Fa392 Fa393 Fa394 Fa407 Fa396 Fa397 Fa406 hR.2.1 rfl (own_tk3 hc3).1 (own_tk3 hc3).2 hE_10 hM) hZ (ww hw 62 rfl) (ww hw 2 rfl) (by decide) (by decide)) q408a q408c (g := (mkF m 370 #[.val (.int p0), .val (.int p1), .val (.int p2), .val (.int p3), .val (.int p4), .val (.long q5), .second, .val (.ref b1), .val (.ref b22), .val (.ref r125), .val (.ref r142), .val (.ref r160), .val (.int (0 : Int32)), .val (.int (1 : Int32)), .val (.int (2 : Int32)), .val (.int (1 : Int32)), .val (.int ia), .val (.int ja), .val (.int ka), .val (.int (1 : Int32)), .val (.int (1 : Int32)), .val (.int ja), .val (.int ja), .val (.int ia), .unset] [(.ref r160), (.ref b1)])) rfl (by rw [hml]; rfl) (Steps.refl _) (argsL := [(.ref r160)]) (rest := []) (lenOf pd__40_Ljava_47_lang_47_Object_59__41_I rfl) rfl (by show 2 * 0 + _ ≤ _; exact Nat.le_of_eq rfl) (hb hby at_370) (fun _ _ => ⟨rfl, (rfl : T388.heap = _), (by decide : 44 + 10 ≤ _), (by decide : 348 + 160 ≤ _)⟩)
        dsimp only [Pt.U, Pt.locs, Pt.cells, Pt.slots] at X408 l408 y408 z408 st408 hQ408
        subst l408 y408 z408
        obtain ⟨na1408, af1408, n1408, ln1408, nd1408, gs1408, rfl, N408q, Kq408, Fa409, Fa410, Fa411, Fa412, Fa413, Fa414, Fa415, Fa416, Fa417, sub_408, add_408, gx_408⟩ := hQ408
        have N408 := Fr.app N388 N408q
        have K408 : Keep h0 T408.heap [] := K388.trans Kq408 (own_WlLo Fa397 hn0)
        have Z408 : n0 ≤ T408.heap.size := Nat.le_trans Z388 Kq408.1
        have Fa418 : Exa Z T408.heap b1 "com/example/emberlot/emberlot/Slots" := Fa389.keep Kq408
        have Fa419 : PR Z T408.heap b22 (.object "java/lang/Object") "java/lang/Object" 3 (fun u => Value.ref (oad r34 r62 r92 u)) := Fa399.keep Kq408 (own_nW hno3)
        have Fa420 : Exa Z T408.heap b22 "[Ljava/lang/Object;" := Fa400.keep Kq408
        have Fa421 : Exa Z T408.heap r34 "java/lang/Integer" := Fa401.keep Kq408
        have Fa422 : Exa Z T408.heap r62 "java/lang/Integer" := Fa402.keep Kq408
        have Fa423 : Exa Z T408.heap r92 "java/lang/Integer" := Fa403.keep Kq408
        have Fa424 : Exa Z T408.heap r125 "java/lang/Integer" := Fa404.keep Kq408
        have Fa425 : Exa Z T408.heap r142 "java/lang/Integer" := Fa405.keep Kq408
        have Fa426 : Exa Z T408.heap r160 "java/lang/Integer" := Fa406.keep Kq408
        refine goT (u' := T408.setTop (mkF m 373 #[.val (.int p0), .val (.int p1), .val (.int p2), .val (.int p3), .val (.int p4), .val (.long q5), .second, .val (.ref b1), .val (.ref b22), .val (.ref r125), .val (.ref r142), .val (.ref r160), .val (.int (0 : Int32)), .val (.int (1 : Int32)), .val (.int (2 : Int32)), .val (.int (1 : Int32)), .val (.int ia), .val (.int ja), .val (.int ka), .val (.int (1 : Int32)), .val (.int (1 : Int32)), .val (.int ja), .val (.int ja), .val (.int ia), .unset] [(.int (3 : Int32))])) st408 ?_
        have Fa427 : Fld Z T408.heap b1 "com/example/emberlot/emberlot/Slots" "taken" "I" (.int (4 : Int32)) := own_Fto Fa416 (congrArg Value.int (by decide))
        have hno428 : ∀ i, i < 6 + 2 * fa.toNatClampNeg → adr b1 na1408 pa10 xa10 ca10 af1408 i ≠ b22 := own_nS hno3 Fa399.lt sub_408
        refine go (u' := T408.setTop (mkF m 375 #[.val (.int p0), .val (.int p1), .val (.int p2), .val (.int p3), .val (.int p4), .val (.long q5), .second, .val (.ref b1), .val (.ref b22), .val (.ref r125), .val (.ref r142), .val (.ref r160), .val (.int (0 : Int32)), .val (.int (1 : Int32)), .val (.int (2 : Int32)), .val (.int (1 : Int32)), .val (.int ia), .val (.int ja), .val (.int ka), .val (.int (1 : Int32)), .val (.int (1 : Int32)), .val (.int ja), .val (.int ja), .val (.int (3 : Int32)), .unset] [])) (fun _ ks_ => XS.istore X408.here hx rfl (hb hby at_373) rfl  (l' := #[.val (.int p0), .val (.int p1), .val (.int p2), .val (.int p3), .val (.int p4), .val (.long q5), .second, .val (.ref b1), .val (.ref b22), .val (.ref r125), .val (.ref r142), .val (.ref r160), .val (.int (0 : Int32)), .val (.int (1 : Int32)), .val (.int (2 : Int32)), .val (.int (1 : Int32)), .val (.int ia), .val (.int ja), .val (.int ka), .val (.int (1 : Int32)), .val (.int (1 : Int32)), .val (.int ja), .val (.int ja), .val (.int (3 : Int32)), .unset]) rfl ks_) ?_
        refine go (u' := T408.setTop (mkF m 377 #[.val (.int p0), .val (.int p1), .val (.int p2), .val (.int p3), .val (.int p4), .val (.long q5), .second, .val (.ref b1), .val (.ref b22), .val (.ref r125), .val (.ref r142), .val (.ref r160), .val (.int (0 : Int32)), .val (.int (1 : Int32)), .val (.int (2 : Int32)), .val (.int (1 : Int32)), .val (.int ia), .val (.int ja), .val (.int ka), .val (.int (1 : Int32)), .val (.int (1 : Int32)), .val (.int ja), .val (.int ja), .val (.int (3 : Int32)), .unset] [(.int (1 : Int32))])) (fun _ ks_ => XS.iload X408.here hx rfl (hb hby at_375) rfl  ks_) ?_
        refine go (u' := T408.setTop (mkF m 380 #[.val (.int p0), .val (.int p1), .val (.int p2), .val (.int p3), .val (.int p4), .val (.long q5), .second, .val (.ref b1), .val (.ref b22), .val (.ref r125), .val (.ref r142), .val (.ref r160), .val (.int (0 : Int32)), .val (.int (1 : Int32)), .val (.int (2 : Int32)), .val (.int (1 : Int32)), .val (.int ia), .val (.int ja), .val (.int ka), .val (.int (1 : Int32)), .val (.int (1 : Int32)), .val (.int ja), .val (.int ja), .val (.int (3 : Int32)), .unset] [])) (fun _ ks_ => XS.ifNo X408.here hx rfl (hb hby at_377) rfl ((if0 _ _).trans (feq (show ¬ ((1 : Int32) = (0 : Int32)) from (by decide))).1) ks_) ?_
        refine go (u' := T408.setTop (mkF m 382 #[.val (.int p0), .val (.int p1), .val (.int p2), .val (.int p3), .val (.int p4), .val (.long q5), .second, .val (.ref b1), .val (.ref b22), .val (.ref r125), .val (.ref r142), .val (.ref r160), .val (.int (0 : Int32)), .val (.int (1 : Int32)), .val (.int (2 : Int32)), .val (.int (1 : Int32)), .val (.int ia), .val (.int ja), .val (.int ka), .val (.int (1 : Int32)), .val (.int (1 : Int32)), .val (.int ja), .val (.int ja), .val (.int (3 : Int32)), .unset] [(.int (3 : Int32))])) (fun _ ks_ => XS.iload X408.here hx rfl (hb hby at_380) rfl  ks_) ?_
        refine go (u' := T408.setTop (mkF m 383 #[.val (.int p0), .val (.int p1), .val (.int p2), .val (.int p3), .val (.int p4), .val (.long q5), .second, .val (.ref b1), .val (.ref b22), .val (.ref r125), .val (.ref r142), .val (.ref r160), .val (.int (0 : Int32)), .val (.int (1 : Int32)), .val (.int (2 : Int32)), .val (.int (1 : Int32)), .val (.int ia), .val (.int ja), .val (.int ka), .val (.int (1 : Int32)), .val (.int (1 : Int32)), .val (.int ja), .val (.int ja), .val (.int (3 : Int32)), .unset] [(.int (3 : Int32)), (.int (3 : Int32))])) (fun _ ks_ => XS.iconst X408.here hx rfl (hb hby at_382) ks_) ?_
        refine go (u' := T408.setTop (mkF m 386 #[.val (.int p0), .val (.int p1), .val (.int p2), .val (.int p3), .val (.int p4), .val (.long q5), .second, .val (.ref b1), .val (.ref b22), .val (.ref r125), .val (.ref r142), .val (.ref r160), .val (.int (0 : Int32)), .val (.int (1 : Int32)), .val (.int (2 : Int32)), .val (.int (1 : Int32)), .val (.int ia), .val (.int ja), .val (.int ka), .val (.int (1 : Int32)), .val (.int (1 : Int32)), .val (.int ja), .val (.int ja), .val (.int (3 : Int32)), .unset] [])) (fun _ ks_ => XS.icmpNo X408.here hx rfl (hb hby at_383) rfl (teq (show (3 : Int32) = (3 : Int32) from (by decide))).2 ks_) ?_
        refine go (u' := T408.setTop (mkF m 387 #[.val (.int p0), .val (.int p1), .val (.int p2), .val (.int p3), .val (.int p4), .val (.long q5), .second, .val (.ref b1), .val (.ref b22), .val (.ref r125), .val (.ref r142), .val (.ref r160), .val (.int (0 : Int32)), .val (.int (1 : Int32)), .val (.int (2 : Int32)), .val (.int (1 : Int32)), .val (.int ia), .val (.int ja), .val (.int ka), .val (.int (1 : Int32)), .val (.int (1 : Int32)), .val (.int ja), .val (.int ja), .val (.int (3 : Int32)), .unset] [(.int (1 : Int32))])) (fun _ ks_ => XS.iconst X408.here hx rfl (hb hby at_386) ks_) ?_
        refine go (u' := T408.setTop (mkF m 391 #[.val (.int p0), .val (.int p1), .val (.int p2), .val (.int p3), .val (.int p4), .val (.long q5), .second, .val (.ref b1), .val (.ref b22), .val (.ref r125), .val (.ref r142), .val (.ref r160), .val (.int (0 : Int32)), .val (.int (1 : Int32)), .val (.int (2 : Int32)), .val (.int (1 : Int32)), .val (.int ia), .val (.int ja), .val (.int ka), .val (.int (1 : Int32)), .val (.int (1 : Int32)), .val (.int ja), .val (.int ja), .val (.int (3 : Int32)), .unset] [(.int (1 : Int32))])) (fun _ ks_ => XS.goto X408.here hx rfl (pc0 := 387) (pc' := 391) rfl (hb hby at_387) (by decide) (by decide) ks_) ?_
        refine go (u' := T408.setTop (mkF m 393 #[.val (.int p0), .val (.int p1), .val (.int p2), .val (.int p3), .val (.int p4), .val (.long q5), .second, .val (.ref b1), .val (.ref b22), .val (.ref r125), .val (.ref r142), .val (.ref r160), .val (.int (0 : Int32)), .val (.int (1 : Int32)), .val (.int (2 : Int32)), .val (.int (1 : Int32)), .val (.int ia), .val (.int ja), .val (.int ka), .val (.int (1 : Int32)), .val (.int (1 : Int32)), .val (.int ja), .val (.int ja), .val (.int (3 : Int32)), .unset] [])) (fun _ ks_ => XS.istore X408.here hx rfl (hb hby at_391) rfl  (l' := #[.val (.int p0), .val (.int p1), .val (.int p2), .val (.int p3), .val (.int p4), .val (.long q5), .second, .val (.ref b1), .val (.ref b22), .val (.ref r125), .val (.ref r142), .val (.ref r160), .val (.int (0 : Int32)), .val (.int (1 : Int32)), .val (.int (2 : Int32)), .val (.int (1 : Int32)), .val (.int ia), .val (.int ja), .val (.int ka), .val (.int (1 : Int32)), .val (.int (1 : Int32)), .val (.int ja), .val (.int ja), .val (.int (3 : Int32)), .unset]) rfl ks_) ?_
        refine go (u' := T408.setTop (mkF m 395 #[.val (.int p0), .val (.int p1), .val (.int p2), .val (.int p3), .val (.int p4), .val (.long q5), .second, .val (.ref b1), .val (.ref b22), .val (.ref r125), .val (.ref r142), .val (.ref r160), .val (.int (0 : Int32)), .val (.int (1 : Int32)), .val (.int (2 : Int32)), .val (.int (1 : Int32)), .val (.int ia), .val (.int ja), .val (.int ka), .val (.int (1 : Int32)), .val (.int (1 : Int32)), .val (.int ja), .val (.int ja), .val (.int (3 : Int32)), .unset] [(.int (1 : Int32))])) (fun _ ks_ => XS.iload X408.here hx rfl (hb hby at_393) rfl  ks_) ?_
        refine go (u' := T408.setTop (mkF m 398 #[.val (.int p0), .val (.int p1), .val (.int p2), .val (.int p3), .val (.int p4), .val (.long q5), .second, .val (.ref b1), .val (.ref b22), .val (.ref r125), .val (.ref r142), .val (.ref r160), .val (.int (0 : Int32)), .val (.int (1 : Int32)), .val (.int (2 : Int32)), .val (.int (1 : Int32)), .val (.int ia), .val (.int ja), .val (.int ka), .val (.int (1 : Int32)), .val (.int (1 : Int32)), .val (.int ja), .val (.int ja), .val (.int (3 : Int32)), .unset] [])) (fun _ ks_ => XS.ifNo X408.here hx rfl (hb hby at_395) rfl ((if0 _ _).trans (feq (show ¬ ((1 : Int32) = (0 : Int32)) from (by decide))).1) ks_) ?_
        refine go (u' := T408.setTop (mkF m 400 #[.val (.int p0), .val (.int p1), .val (.int p2), .val (.int p3), .val (.int p4), .val (.long q5), .second, .val (.ref b1), .val (.ref b22), .val (.ref r125), .val (.ref r142), .val (.ref r160), .val (.int (0 : Int32)), .val (.int (1 : Int32)), .val (.int (2 : Int32)), .val (.int (1 : Int32)), .val (.int ia), .val (.int ja), .val (.int ka), .val (.int (1 : Int32)), .val (.int (1 : Int32)), .val (.int ja), .val (.int ja), .val (.int (3 : Int32)), .unset] [(.ref r142)])) (fun _ ks_ => XS.aload X408.here hx rfl (hb hby at_398) rfl rfl ks_) ?_
        refine go (u' := T408.setTop (mkF m 405 #[.val (.int p0), .val (.int p1), .val (.int p2), .val (.int p3), .val (.int p4), .val (.long q5), .second, .val (.ref b1), .val (.ref b22), .val (.ref r125), .val (.ref r142), .val (.ref r160), .val (.int (0 : Int32)), .val (.int (1 : Int32)), .val (.int (2 : Int32)), .val (.int (1 : Int32)), .val (.int ia), .val (.int ja), .val (.int ka), .val (.int (1 : Int32)), .val (.int (1 : Int32)), .val (.int ja), .val (.int ja), .val (.int (3 : Int32)), .unset] [(.ref r142)])) (fun _ ks_ => XS.goto X408.here hx rfl (pc0 := 400) (pc' := 405) rfl (hb hby at_400) (by decide) (by decide) ks_) ?_
        refine go (u' := T408.setTop (mkF m 407 #[.val (.int p0), .val (.int p1), .val (.int p2), .val (.int p3), .val (.int p4), .val (.long q5), .second, .val (.ref b1), .val (.ref b22), .val (.ref r125), .val (.ref r142), .val (.ref r160), .val (.int (0 : Int32)), .val (.int (1 : Int32)), .val (.int (2 : Int32)), .val (.int (1 : Int32)), .val (.int ia), .val (.int ja), .val (.int ka), .val (.int (1 : Int32)), .val (.int (1 : Int32)), .val (.int ja), .val (.int ja), .val (.int (3 : Int32)), .val (.ref r142)] [])) (fun _ ks_ => XS.astore X408.here hx rfl (hb hby at_405) rfl rfl (l' := #[.val (.int p0), .val (.int p1), .val (.int p2), .val (.int p3), .val (.int p4), .val (.long q5), .second, .val (.ref b1), .val (.ref b22), .val (.ref r125), .val (.ref r142), .val (.ref r160), .val (.int (0 : Int32)), .val (.int (1 : Int32)), .val (.int (2 : Int32)), .val (.int (1 : Int32)), .val (.int ia), .val (.int ja), .val (.int ka), .val (.int (1 : Int32)), .val (.int (1 : Int32)), .val (.int ja), .val (.int ja), .val (.int (3 : Int32)), .val (.ref r142)]) rfl ks_) ?_
        refine go (u' := T408.setTop (mkF m 409 #[.val (.int p0), .val (.int p1), .val (.int p2), .val (.int p3), .val (.int p4), .val (.long q5), .second, .val (.ref b1), .val (.ref b22), .val (.ref r125), .val (.ref r142), .val (.ref r160), .val (.int (0 : Int32)), .val (.int (1 : Int32)), .val (.int (2 : Int32)), .val (.int (1 : Int32)), .val (.int ia), .val (.int ja), .val (.int ka), .val (.int (1 : Int32)), .val (.int (1 : Int32)), .val (.int ja), .val (.int ja), .val (.int (3 : Int32)), .val (.ref r142)] [(.int (1 : Int32))])) (fun _ ks_ => XS.iload X408.here hx rfl (hb hby at_407) rfl  ks_) ?_
        refine go (u' := T408.setTop (mkF m 412 #[.val (.int p0), .val (.int p1), .val (.int p2), .val (.int p3), .val (.int p4), .val (.long q5), .second, .val (.ref b1), .val (.ref b22), .val (.ref r125), .val (.ref r142), .val (.ref r160), .val (.int (0 : Int32)), .val (.int (1 : Int32)), .val (.int (2 : Int32)), .val (.int (1 : Int32)), .val (.int ia), .val (.int ja), .val (.int ka), .val (.int (1 : Int32)), .val (.int (1 : Int32)), .val (.int ja), .val (.int ja), .val (.int (3 : Int32)), .val (.ref r142)] [])) (fun _ ks_ => XS.ifNo X408.here hx rfl (hb hby at_409) rfl ((if0 _ _).trans (feq (show ¬ ((1 : Int32) = (0 : Int32)) from (by decide))).1) ks_) ?_
        refine go (u' := T408.setTop (mkF m 414 #[.val (.int p0), .val (.int p1), .val (.int p2), .val (.int p3), .val (.int p4), .val (.long q5), .second, .val (.ref b1), .val (.ref b22), .val (.ref r125), .val (.ref r142), .val (.ref r160), .val (.int (0 : Int32)), .val (.int (1 : Int32)), .val (.int (2 : Int32)), .val (.int (1 : Int32)), .val (.int ia), .val (.int ja), .val (.int ka), .val (.int (1 : Int32)), .val (.int (1 : Int32)), .val (.int ja), .val (.int ja), .val (.int (3 : Int32)), .val (.ref r142)] [(.ref b1)])) (fun _ ks_ => XS.aload X408.here hx rfl (hb hby at_412) rfl rfl ks_) ?_
        refine go (u' := T408.setTop (mkF m 416 #[.val (.int p0), .val (.int p1), .val (.int p2), .val (.int p3), .val (.int p4), .val (.long q5), .second, .val (.ref b1), .val (.ref b22), .val (.ref r125), .val (.ref r142), .val (.ref r160), .val (.int (0 : Int32)), .val (.int (1 : Int32)), .val (.int (2 : Int32)), .val (.int (1 : Int32)), .val (.int ia), .val (.int ja), .val (.int ka), .val (.int (1 : Int32)), .val (.int (1 : Int32)), .val (.int ja), .val (.int ja), .val (.int (3 : Int32)), .val (.ref r142)] [(.int ia), (.ref b1)])) (fun _ ks_ => XS.iload X408.here hx rfl (hb hby at_414) rfl  ks_) ?_
        obtain ⟨cq429, kq429, q429a, q429b, q429c⟩ := isOf hZ (rfl : T408.heap = _) Fa409
        obtain ⟨_, _, ⟨T429, L429, k429, n429⟩, -, X429, ⟨Lc429, hQ429, l429, y429, z429⟩, st429⟩ := X408.virtualBack hx (y := (⟨"com/example/emberlot/emberlot/Slots", "node", "(I)Ljava/lang/Object;"⟩ : MethodName)) (z := (⟨"com/example/emberlot/emberlot/Slots", "node", "(I)Ljava/lang/Object;"⟩ : MethodName)) hown (mvT hZ (ww hw 107 rfl)) (mvT hZ (ww hw 108 rfl)) (notFace_of_selects (args := #[]) (mvT hZ (ww hw 110 rfl))) (mvT hZ (ww hw 110 rfl)) (mvT hZ (ww hw 109 rfl)) (by decide) (backOf (W := 0) (rm16 l Z a0 hw [] b1 ia na1408 pa10 xa10 ca10 af1408 fa.toNatClampNeg n1408 ln1408 nd1408 gs1408 E10 (-1 : Int32) (4 : Int32) T408.heap n0 Z408 Fa409 Fa410 Fa411 Fa412 Fa413 Fa414 Fa415 Fa427 Fa417 add_408.2.1 (own_j3 hI.1 (own_aj add_408)) hI.2.2.2.2.2.2.1) hZ (ww hw 111 rfl) (ww hw 2 rfl) (by decide) (by decide)) q429a q429c (g := (mkF m 416 #[.val (.int p0), .val (.int p1), .val (.int p2), .val (.int p3), .val (.int p4), .val (.long q5), .second, .val (.ref b1), .val (.ref b22), .val (.ref r125), .val (.ref r142), .val (.ref r160), .val (.int (0 : Int32)), .val (.int (1 : Int32)), .val (.int (2 : Int32)), .val (.int (1 : Int32)), .val (.int ia), .val (.int ja), .val (.int ka), .val (.int (1 : Int32)), .val (.int (1 : Int32)), .val (.int ja), .val (.int ja), .val (.int (3 : Int32)), .val (.ref r142)] [(.int ia), (.ref b1)])) rfl (by rw [hml]; rfl) (Steps.refl _) (argsL := [(.int ia)]) (rest := []) (lenOf pd__40_I_41_Ljava_47_lang_47_Object_59_ rfl) rfl (by show 2 * 0 + _ ≤ _; exact Nat.le_of_eq rfl) (hb hby at_416) (fun _ _ => ⟨rfl, (rfl : T408.heap = _), (by decide : 54 + 0 ≤ _), (by decide : 508 + 0 ≤ _)⟩)
        dsimp only [Pt.U, Pt.locs, Pt.cells, Pt.slots] at X429 l429 y429 z429 st429 hQ429
        subst l429 y429 z429
        obtain ⟨rfl, N429q, eq429⟩ := hQ429
        have N429 := Fr.app N408 N429q
        rw [show (nd1408 ia.toNatClampNeg) = (.ref r142) from ((add_408.2.2.2.1 _ hI.1.2).trans own_u1)] at st429
        refine goT (u' := T429.setTop (mkF m 419 #[.val (.int p0), .val (.int p1), .val (.int p2), .val (.int p3), .val (.int p4), .val (.long q5), .second, .val (.ref b1), .val (.ref b22), .val (.ref r125), .val (.ref r142), .val (.ref r160), .val (.int (0 : Int32)), .val (.int (1 : Int32)), .val (.int (2 : Int32)), .val (.int (1 : Int32)), .val (.int ia), .val (.int ja), .val (.int ka), .val (.int (1 : Int32)), .val (.int (1 : Int32)), .val (.int ja), .val (.int ja), .val (.int (3 : Int32)), .val (.ref r142)] [(.ref r142)])) st429 ?_
        refine go (u' := T429.setTop (mkF m 421 #[.val (.int p0), .val (.int p1), .val (.int p2), .val (.int p3), .val (.int p4), .val (.long q5), .second, .val (.ref b1), .val (.ref b22), .val (.ref r125), .val (.ref r142), .val (.ref r160), .val (.int (0 : Int32)), .val (.int (1 : Int32)), .val (.int (2 : Int32)), .val (.int (1 : Int32)), .val (.int ia), .val (.int ja), .val (.int ka), .val (.int (1 : Int32)), .val (.int (1 : Int32)), .val (.int ja), .val (.int ja), .val (.int (3 : Int32)), .val (.ref r142)] [(.ref r142), (.ref r142)])) (fun _ ks_ => XS.aload X429.here hx rfl (hb hby at_419) rfl rfl ks_) ?_
        refine go (u' := T429.setTop (mkF m 424 #[.val (.int p0), .val (.int p1), .val (.int p2), .val (.int p3), .val (.int p4), .val (.long q5), .second, .val (.ref b1), .val (.ref b22), .val (.ref r125), .val (.ref r142), .val (.ref r160), .val (.int (0 : Int32)), .val (.int (1 : Int32)), .val (.int (2 : Int32)), .val (.int (1 : Int32)), .val (.int ia), .val (.int ja), .val (.int ka), .val (.int (1 : Int32)), .val (.int (1 : Int32)), .val (.int ja), .val (.int ja), .val (.int (3 : Int32)), .val (.ref r142)] [])) (fun _ ks_ => Jvm.RoadKit.acmp (g := (mkF m 421 #[.val (.int p0), .val (.int p1), .val (.int p2), .val (.int p3), .val (.int p4), .val (.long q5), .second, .val (.ref b1), .val (.ref b22), .val (.ref r125), .val (.ref r142), .val (.ref r160), .val (.int (0 : Int32)), .val (.int (1 : Int32)), .val (.int (2 : Int32)), .val (.int (1 : Int32)), .val (.int ia), .val (.int ja), .val (.int ka), .val (.int (1 : Int32)), .val (.int (1 : Int32)), .val (.int ja), .val (.int ja), .val (.int (3 : Int32)), .val (.ref r142)] [(.ref r142), (.ref r142)])) X429 hx rfl rfl rfl (pc0 := 421) (pc' := 424) (same := true) rfl (hb hby at_421) rfl (decide_eq_true rfl) (by decide) (by decide) ks_) ?_
        refine go (u' := T429.setTop (mkF m 426 #[.val (.int p0), .val (.int p1), .val (.int p2), .val (.int p3), .val (.int p4), .val (.long q5), .second, .val (.ref b1), .val (.ref b22), .val (.ref r125), .val (.ref r142), .val (.ref r160), .val (.int (0 : Int32)), .val (.int (1 : Int32)), .val (.int (2 : Int32)), .val (.int (1 : Int32)), .val (.int ia), .val (.int ja), .val (.int ka), .val (.int (1 : Int32)), .val (.int (1 : Int32)), .val (.int ja), .val (.int ja), .val (.int (3 : Int32)), .val (.ref r142)] [(.ref b1)])) (fun _ ks_ => XS.aload X429.here hx rfl (hb hby at_424) rfl rfl ks_) ?_
        refine go (u' := T429.setTop (mkF m 427 #[.val (.int p0), .val (.int p1), .val (.int p2), .val (.int p3), .val (.int p4), .val (.long q5), .second, .val (.ref b1), .val (.ref b22), .val (.ref r125), .val (.ref r142), .val (.ref r160), .val (.int (0 : Int32)), .val (.int (1 : Int32)), .val (.int (2 : Int32)), .val (.int (1 : Int32)), .val (.int ia), .val (.int ja), .val (.int ka), .val (.int (1 : Int32)), .val (.int (1 : Int32)), .val (.int ja), .val (.int ja), .val (.int (3 : Int32)), .val (.ref r142)] [(.int (0 : Int32)), (.ref b1)])) (fun _ ks_ => XS.iconst X429.here hx rfl (hb hby at_426) ks_) ?_
        refine go (u' := T429.setTop (mkF m 429 #[.val (.int p0), .val (.int p1), .val (.int p2), .val (.int p3), .val (.int p4), .val (.long q5), .second, .val (.ref b1), .val (.ref b22), .val (.ref r125), .val (.ref r142), .val (.ref r160), .val (.int (0 : Int32)), .val (.int (1 : Int32)), .val (.int (2 : Int32)), .val (.int (1 : Int32)), .val (.int ia), .val (.int ja), .val (.int ka), .val (.int (1 : Int32)), .val (.int (1 : Int32)), .val (.int ja), .val (.int ja), .val (.int (3 : Int32)), .val (.ref r142)] [(.int ia), (.int (0 : Int32)), (.ref b1)])) (fun _ ks_ => XS.iload X429.here hx rfl (hb hby at_427) rfl  ks_) ?_
        obtain ⟨cq430, kq430, q430a, q430b, q430c⟩ := isOf hZ eq429 Fa409
        obtain ⟨_, _, ⟨T430, L430, k430, n430⟩, -, X430, ⟨Lc430, hQ430, l430, y430, z430⟩, st430⟩ := X429.virtualBack hx (y := (⟨"com/example/emberlot/emberlot/Slots", "get", "(II)I"⟩ : MethodName)) (z := (⟨"com/example/emberlot/emberlot/Slots", "get", "(II)I"⟩ : MethodName)) hown (mvT hZ (ww hw 112 rfl)) (mvT hZ (ww hw 113 rfl)) (notFace_of_selects (args := #[]) (mvT hZ (ww hw 115 rfl))) (mvT hZ (ww hw 115 rfl)) (mvT hZ (ww hw 114 rfl)) (by decide) (backOf (W := 0) (rm17 l Z a0 hw [] b1 ia na1408 pa10 xa10 ca10 af1408 fa.toNatClampNeg n1408 ln1408 nd1408 gs1408 E10 (-1 : Int32) (4 : Int32) T408.heap n0 Z408 Fa409 Fa410 Fa411 Fa412 Fa413 Fa414 Fa415 Fa427 Fa417 add_408.2.1 (own_j3 hI.1 (own_aj add_408))) hZ (ww hw 116 rfl) (ww hw 2 rfl) (by decide) (by decide)) q430a q430c (g := (mkF m 429 #[.val (.int p0), .val (.int p1), .val (.int p2), .val (.int p3), .val (.int p4), .val (.long q5), .second, .val (.ref b1), .val (.ref b22), .val (.ref r125), .val (.ref r142), .val (.ref r160), .val (.int (0 : Int32)), .val (.int (1 : Int32)), .val (.int (2 : Int32)), .val (.int (1 : Int32)), .val (.int ia), .val (.int ja), .val (.int ka), .val (.int (1 : Int32)), .val (.int (1 : Int32)), .val (.int ja), .val (.int ja), .val (.int (3 : Int32)), .val (.ref r142)] [(.int ia), (.int (0 : Int32)), (.ref b1)])) rfl (by rw [hml]; rfl) (Steps.refl _) (argsL := [(.int (0 : Int32)), (.int ia)]) (rest := []) (lenOf pd__40_II_41_I rfl) rfl (by show 2 * 0 + _ ≤ _; exact Nat.le_of_eq rfl) (hb hby at_429) (fun _ _ => ⟨rfl, eq429, (by decide : 54 + 0 ≤ _), (by decide : 508 + 0 ≤ _)⟩)
        dsimp only [Pt.U, Pt.locs, Pt.cells, Pt.slots] at X430 l430 y430 z430 st430 hQ430
        subst l430 y430 z430
        obtain ⟨rfl, N430q, eq430⟩ := hQ430
        have N430 := Fr.app N429 N430q
        rw [show (gs1408 0 ia.toNatClampNeg) = p4 from (own_g2 (add_408.2.2.2.2.2 _ hI.1.2).1 a0_388 a0_368)] at st430
        refine goT (u' := T430.setTop (mkF m 432 #[.val (.int p0), .val (.int p1), .val (.int p2), .val (.int p3), .val (.int p4), .val (.long q5), .second, .val (.ref b1), .val (.ref b22), .val (.ref r125), .val (.ref r142), .val (.ref r160), .val (.int (0 : Int32)), .val (.int (1 : Int32)), .val (.int (2 : Int32)), .val (.int (1 : Int32)), .val (.int ia), .val (.int ja), .val (.int ka), .val (.int (1 : Int32)), .val (.int (1 : Int32)), .val (.int ja), .val (.int ja), .val (.int (3 : Int32)), .val (.ref r142)] [(.int p4)])) st430 ?_
        refine go (u' := T430.setTop (mkF m 434 #[.val (.int p0), .val (.int p1), .val (.int p2), .val (.int p3), .val (.int p4), .val (.long q5), .second, .val (.ref b1), .val (.ref b22), .val (.ref r125), .val (.ref r142), .val (.ref r160), .val (.int (0 : Int32)), .val (.int (1 : Int32)), .val (.int (2 : Int32)), .val (.int (1 : Int32)), .val (.int ia), .val (.int ja), .val (.int ka), .val (.int (1 : Int32)), .val (.int (1 : Int32)), .val (.int ja), .val (.int ja), .val (.int (3 : Int32)), .val (.ref r142)] [(.int p4), (.int p4)])) (fun _ ks_ => XS.iload X430.here hx rfl (hb hby at_432) rfl  ks_) ?_
        refine go (u' := T430.setTop (mkF m 437 #[.val (.int p0), .val (.int p1), .val (.int p2), .val (.int p3), .val (.int p4), .val (.long q5), .second, .val (.ref b1), .val (.ref b22), .val (.ref r125), .val (.ref r142), .val (.ref r160), .val (.int (0 : Int32)), .val (.int (1 : Int32)), .val (.int (2 : Int32)), .val (.int (1 : Int32)), .val (.int ia), .val (.int ja), .val (.int ka), .val (.int (1 : Int32)), .val (.int (1 : Int32)), .val (.int ja), .val (.int ja), .val (.int (3 : Int32)), .val (.ref r142)] [])) (fun _ ks_ => XS.icmpNo X430.here hx rfl (hb hby at_434) rfl (teq rfl).2 ks_) ?_
        refine go (u' := T430.setTop (mkF m 438 #[.val (.int p0), .val (.int p1), .val (.int p2), .val (.int p3), .val (.int p4), .val (.long q5), .second, .val (.ref b1), .val (.ref b22), .val (.ref r125), .val (.ref r142), .val (.ref r160), .val (.int (0 : Int32)), .val (.int (1 : Int32)), .val (.int (2 : Int32)), .val (.int (1 : Int32)), .val (.int ia), .val (.int ja), .val (.int ka), .val (.int (1 : Int32)), .val (.int (1 : Int32)), .val (.int ja), .val (.int ja), .val (.int (3 : Int32)), .val (.ref r142)] [(.int (1 : Int32))])) (fun _ ks_ => XS.iconst X430.here hx rfl (hb hby at_437) ks_) ?_
        refine go (u' := T430.setTop (mkF m 442 #[.val (.int p0), .val (.int p1), .val (.int p2), .val (.int p3), .val (.int p4), .val (.long q5), .second, .val (.ref b1), .val (.ref b22), .val (.ref r125), .val (.ref r142), .val (.ref r160), .val (.int (0 : Int32)), .val (.int (1 : Int32)), .val (.int (2 : Int32)), .val (.int (1 : Int32)), .val (.int ia), .val (.int ja), .val (.int ka), .val (.int (1 : Int32)), .val (.int (1 : Int32)), .val (.int ja), .val (.int ja), .val (.int (3 : Int32)), .val (.ref r142)] [(.int (1 : Int32))])) (fun _ ks_ => XS.goto X430.here hx rfl (pc0 := 438) (pc' := 442) rfl (hb hby at_438) (by decide) (by decide) ks_) ?_
        refine go (u' := T430.setTop (mkF m 444 #[.val (.int p0), .val (.int p1), .val (.int p2), .val (.int p3), .val (.int p4), .val (.long q5), .second, .val (.ref b1), .val (.ref b22), .val (.ref r125), .val (.ref r142), .val (.ref r160), .val (.int (0 : Int32)), .val (.int (1 : Int32)), .val (.int (2 : Int32)), .val (.int (1 : Int32)), .val (.int ia), .val (.int ja), .val (.int ka), .val (.int (1 : Int32)), .val (.int (1 : Int32)), .val (.int ja), .val (.int ja), .val (.int (3 : Int32)), .val (.ref r142)] [])) (fun _ ks_ => XS.istore X430.here hx rfl (hb hby at_442) rfl  (l' := #[.val (.int p0), .val (.int p1), .val (.int p2), .val (.int p3), .val (.int p4), .val (.long q5), .second, .val (.ref b1), .val (.ref b22), .val (.ref r125), .val (.ref r142), .val (.ref r160), .val (.int (0 : Int32)), .val (.int (1 : Int32)), .val (.int (2 : Int32)), .val (.int (1 : Int32)), .val (.int ia), .val (.int ja), .val (.int ka), .val (.int (1 : Int32)), .val (.int (1 : Int32)), .val (.int ja), .val (.int ja), .val (.int (3 : Int32)), .val (.ref r142)]) rfl ks_) ?_
        refine go (u' := T430.setTop (mkF m 446 #[.val (.int p0), .val (.int p1), .val (.int p2), .val (.int p3), .val (.int p4), .val (.long q5), .second, .val (.ref b1), .val (.ref b22), .val (.ref r125), .val (.ref r142), .val (.ref r160), .val (.int (0 : Int32)), .val (.int (1 : Int32)), .val (.int (2 : Int32)), .val (.int (1 : Int32)), .val (.int ia), .val (.int ja), .val (.int ka), .val (.int (1 : Int32)), .val (.int (1 : Int32)), .val (.int ja), .val (.int ja), .val (.int (3 : Int32)), .val (.ref r142)] [(.int (1 : Int32))])) (fun _ ks_ => XS.iload X430.here hx rfl (hb hby at_444) rfl  ks_) ?_
        rw [hG]
        refine gN X430 hx hlk (t := .boolean) hret (by simp) rfl (hb hby at_446) ?_ (Nat.le_of_ble_eq_true rfl) (Nat.le_of_ble_eq_true rfl)
        show Q_rm0 Z p0 p1 p2 p3 p4 q5 h0 n0 (some (.int (1 : Int32))) T430.heap _
        rw [eq430]
        exact ⟨rfl, N430⟩
      ·
        have hd3 : 3 < n_ ∧ n_ ≤ 16 := own_ln3 ⟨hR.1.1, hR.1.2⟩ hc3
        refine go (u' := T388.setTop (mkF m 368 #[.val (.int p0), .val (.int p1), .val (.int p2), .val (.int p3), .val (.int p4), .val (.long q5), .second, .val (.ref b1), .val (.ref b22), .val (.ref r125), .val (.ref r142), .val (.ref r160), .val (.int (0 : Int32)), .val (.int (1 : Int32)), .val (.int (2 : Int32)), .val (.int (1 : Int32)), .val (.int ia), .val (.int ja), .val (.int ka), .val (.int (1 : Int32)), .val (.int (1 : Int32)), .val (.int ja), .val (.int ja), .val (.int ia), .unset] [(.ref b1)])) (fun _ ks_ => XS.aload X388.here hx rfl (hb hby at_366) rfl rfl ks_) ?_
        refine go (u' := T388.setTop (mkF m 370 #[.val (.int p0), .val (.int p1), .val (.int p2), .val (.int p3), .val (.int p4), .val (.long q5), .second, .val (.ref b1), .val (.ref b22), .val (.ref r125), .val (.ref r142), .val (.ref r160), .val (.int (0 : Int32)), .val (.int (1 : Int32)), .val (.int (2 : Int32)), .val (.int (1 : Int32)), .val (.int ia), .val (.int ja), .val (.int ka), .val (.int (1 : Int32)), .val (.int (1 : Int32)), .val (.int ja), .val (.int ja), .val (.int ia), .unset] [(.ref r160), (.ref b1)])) (fun _ ks_ => XS.aload X388.here hx rfl (hb hby at_368) rfl rfl ks_) ?_
        obtain ⟨cq431, kq431, q431a, q431b, q431c⟩ := isOf hZ (rfl : T388.heap = _) Fa389
        obtain ⟨_, _, ⟨T431, L431, k431, n431⟩, -, X431, ⟨Lc431, hQ431, l431, y431, z431⟩, st431⟩ := X388.virtualBack hx (y := (⟨"com/example/emberlot/emberlot/Slots", "add", "(Ljava/lang/Object;)I"⟩ : MethodName)) (z := (⟨"com/example/emberlot/emberlot/Slots", "add", "(Ljava/lang/Object;)I"⟩ : MethodName)) hown (mvT hZ (ww hw 58 rfl)) (mvT hZ (ww hw 59 rfl)) (notFace_of_selects (args := #[]) (mvT hZ (ww hw 61 rfl))) (mvT hZ (ww hw 61 rfl)) (mvT hZ (ww hw 60 rfl)) (by decide) (backOf (W := 0) (rm8n l Z a0 hw [] b1 r160 na_ pa10 xa10 ca10 af_ fa.toNatClampNeg n_ ln_ (upd (upd (upd (upd nd_ (ia).toNatClampNeg .null) (ja).toNatClampNeg .null) (ja).toNatClampNeg (.ref r125)) (ia).toNatClampNeg (.ref r142)) gs1388 E10 (-1 : Int32) (3 : Int32) T388.heap n0 Z388 Fa389 Fa390 Fa391 Fa392 Fa393 Fa394 Fa407 Fa396 Fa397 Fa406 hR.2.1 rfl (own_nt3 hd3).1 (own_nt3 hd3).2 hd3.2) hZ (ww hw 62 rfl) (ww hw 2 rfl) (by decide) (by decide)) q431a q431c (g := (mkF m 370 #[.val (.int p0), .val (.int p1), .val (.int p2), .val (.int p3), .val (.int p4), .val (.long q5), .second, .val (.ref b1), .val (.ref b22), .val (.ref r125), .val (.ref r142), .val (.ref r160), .val (.int (0 : Int32)), .val (.int (1 : Int32)), .val (.int (2 : Int32)), .val (.int (1 : Int32)), .val (.int ia), .val (.int ja), .val (.int ka), .val (.int (1 : Int32)), .val (.int (1 : Int32)), .val (.int ja), .val (.int ja), .val (.int ia), .unset] [(.ref r160), (.ref b1)])) rfl (by rw [hml]; rfl) (Steps.refl _) (argsL := [(.ref r160)]) (rest := []) (lenOf pd__40_Ljava_47_lang_47_Object_59__41_I rfl) rfl (by show 2 * 0 + _ ≤ _; exact Nat.le_of_eq rfl) (hb hby at_370) (fun _ _ => ⟨rfl, (rfl : T388.heap = _), (by decide : 44 + 0 ≤ _), (by decide : 348 + 0 ≤ _)⟩)
        dsimp only [Pt.U, Pt.locs, Pt.cells, Pt.slots] at X431 l431 y431 z431 st431 hQ431
        subst l431 y431 z431
        obtain ⟨na1431, af1431, n1431, ln1431, nd1431, gs1431, rfl, N431q, Kq431, Fa432, Fa433, Fa434, Fa435, Fa436, Fa437, Fa438, Fa439, Fa440, sub_431, add_431, gx_431⟩ := hQ431
        have N431 := Fr.app N388 N431q
        have K431 : Keep h0 T431.heap [] := K388.trans Kq431 (own_WlLo Fa397 hn0)
        have Z431 : n0 ≤ T431.heap.size := Nat.le_trans Z388 Kq431.1
        have Fa441 : Exa Z T431.heap b1 "com/example/emberlot/emberlot/Slots" := Fa389.keep Kq431
        have Fa442 : PR Z T431.heap b22 (.object "java/lang/Object") "java/lang/Object" 3 (fun u => Value.ref (oad r34 r62 r92 u)) := Fa399.keep Kq431 (own_nW hno3)
        have Fa443 : Exa Z T431.heap b22 "[Ljava/lang/Object;" := Fa400.keep Kq431
        have Fa444 : Exa Z T431.heap r34 "java/lang/Integer" := Fa401.keep Kq431
        have Fa445 : Exa Z T431.heap r62 "java/lang/Integer" := Fa402.keep Kq431
        have Fa446 : Exa Z T431.heap r92 "java/lang/Integer" := Fa403.keep Kq431
        have Fa447 : Exa Z T431.heap r125 "java/lang/Integer" := Fa404.keep Kq431
        have Fa448 : Exa Z T431.heap r142 "java/lang/Integer" := Fa405.keep Kq431
        have Fa449 : Exa Z T431.heap r160 "java/lang/Integer" := Fa406.keep Kq431
        refine goT (u' := T431.setTop (mkF m 373 #[.val (.int p0), .val (.int p1), .val (.int p2), .val (.int p3), .val (.int p4), .val (.long q5), .second, .val (.ref b1), .val (.ref b22), .val (.ref r125), .val (.ref r142), .val (.ref r160), .val (.int (0 : Int32)), .val (.int (1 : Int32)), .val (.int (2 : Int32)), .val (.int (1 : Int32)), .val (.int ia), .val (.int ja), .val (.int ka), .val (.int (1 : Int32)), .val (.int (1 : Int32)), .val (.int ja), .val (.int ja), .val (.int ia), .unset] [(.int (3 : Int32))])) st431 ?_
        have Fa450 : Fld Z T431.heap b1 "com/example/emberlot/emberlot/Slots" "taken" "I" (.int (4 : Int32)) := own_Fto Fa439 (congrArg Value.int (by decide))
        have hno451 : ∀ i, i < 6 + 2 * fa.toNatClampNeg → adr b1 na1431 pa10 xa10 ca10 af1431 i ≠ b22 := own_nS hno3 Fa399.lt sub_431
        refine go (u' := T431.setTop (mkF m 375 #[.val (.int p0), .val (.int p1), .val (.int p2), .val (.int p3), .val (.int p4), .val (.long q5), .second, .val (.ref b1), .val (.ref b22), .val (.ref r125), .val (.ref r142), .val (.ref r160), .val (.int (0 : Int32)), .val (.int (1 : Int32)), .val (.int (2 : Int32)), .val (.int (1 : Int32)), .val (.int ia), .val (.int ja), .val (.int ka), .val (.int (1 : Int32)), .val (.int (1 : Int32)), .val (.int ja), .val (.int ja), .val (.int (3 : Int32)), .unset] [])) (fun _ ks_ => XS.istore X431.here hx rfl (hb hby at_373) rfl  (l' := #[.val (.int p0), .val (.int p1), .val (.int p2), .val (.int p3), .val (.int p4), .val (.long q5), .second, .val (.ref b1), .val (.ref b22), .val (.ref r125), .val (.ref r142), .val (.ref r160), .val (.int (0 : Int32)), .val (.int (1 : Int32)), .val (.int (2 : Int32)), .val (.int (1 : Int32)), .val (.int ia), .val (.int ja), .val (.int ka), .val (.int (1 : Int32)), .val (.int (1 : Int32)), .val (.int ja), .val (.int ja), .val (.int (3 : Int32)), .unset]) rfl ks_) ?_
        refine go (u' := T431.setTop (mkF m 377 #[.val (.int p0), .val (.int p1), .val (.int p2), .val (.int p3), .val (.int p4), .val (.long q5), .second, .val (.ref b1), .val (.ref b22), .val (.ref r125), .val (.ref r142), .val (.ref r160), .val (.int (0 : Int32)), .val (.int (1 : Int32)), .val (.int (2 : Int32)), .val (.int (1 : Int32)), .val (.int ia), .val (.int ja), .val (.int ka), .val (.int (1 : Int32)), .val (.int (1 : Int32)), .val (.int ja), .val (.int ja), .val (.int (3 : Int32)), .unset] [(.int (1 : Int32))])) (fun _ ks_ => XS.iload X431.here hx rfl (hb hby at_375) rfl  ks_) ?_
        refine go (u' := T431.setTop (mkF m 380 #[.val (.int p0), .val (.int p1), .val (.int p2), .val (.int p3), .val (.int p4), .val (.long q5), .second, .val (.ref b1), .val (.ref b22), .val (.ref r125), .val (.ref r142), .val (.ref r160), .val (.int (0 : Int32)), .val (.int (1 : Int32)), .val (.int (2 : Int32)), .val (.int (1 : Int32)), .val (.int ia), .val (.int ja), .val (.int ka), .val (.int (1 : Int32)), .val (.int (1 : Int32)), .val (.int ja), .val (.int ja), .val (.int (3 : Int32)), .unset] [])) (fun _ ks_ => XS.ifNo X431.here hx rfl (hb hby at_377) rfl ((if0 _ _).trans (feq (show ¬ ((1 : Int32) = (0 : Int32)) from (by decide))).1) ks_) ?_
        refine go (u' := T431.setTop (mkF m 382 #[.val (.int p0), .val (.int p1), .val (.int p2), .val (.int p3), .val (.int p4), .val (.long q5), .second, .val (.ref b1), .val (.ref b22), .val (.ref r125), .val (.ref r142), .val (.ref r160), .val (.int (0 : Int32)), .val (.int (1 : Int32)), .val (.int (2 : Int32)), .val (.int (1 : Int32)), .val (.int ia), .val (.int ja), .val (.int ka), .val (.int (1 : Int32)), .val (.int (1 : Int32)), .val (.int ja), .val (.int ja), .val (.int (3 : Int32)), .unset] [(.int (3 : Int32))])) (fun _ ks_ => XS.iload X431.here hx rfl (hb hby at_380) rfl  ks_) ?_
        refine go (u' := T431.setTop (mkF m 383 #[.val (.int p0), .val (.int p1), .val (.int p2), .val (.int p3), .val (.int p4), .val (.long q5), .second, .val (.ref b1), .val (.ref b22), .val (.ref r125), .val (.ref r142), .val (.ref r160), .val (.int (0 : Int32)), .val (.int (1 : Int32)), .val (.int (2 : Int32)), .val (.int (1 : Int32)), .val (.int ia), .val (.int ja), .val (.int ka), .val (.int (1 : Int32)), .val (.int (1 : Int32)), .val (.int ja), .val (.int ja), .val (.int (3 : Int32)), .unset] [(.int (3 : Int32)), (.int (3 : Int32))])) (fun _ ks_ => XS.iconst X431.here hx rfl (hb hby at_382) ks_) ?_
        refine go (u' := T431.setTop (mkF m 386 #[.val (.int p0), .val (.int p1), .val (.int p2), .val (.int p3), .val (.int p4), .val (.long q5), .second, .val (.ref b1), .val (.ref b22), .val (.ref r125), .val (.ref r142), .val (.ref r160), .val (.int (0 : Int32)), .val (.int (1 : Int32)), .val (.int (2 : Int32)), .val (.int (1 : Int32)), .val (.int ia), .val (.int ja), .val (.int ka), .val (.int (1 : Int32)), .val (.int (1 : Int32)), .val (.int ja), .val (.int ja), .val (.int (3 : Int32)), .unset] [])) (fun _ ks_ => XS.icmpNo X431.here hx rfl (hb hby at_383) rfl (teq (show (3 : Int32) = (3 : Int32) from (by decide))).2 ks_) ?_
        refine go (u' := T431.setTop (mkF m 387 #[.val (.int p0), .val (.int p1), .val (.int p2), .val (.int p3), .val (.int p4), .val (.long q5), .second, .val (.ref b1), .val (.ref b22), .val (.ref r125), .val (.ref r142), .val (.ref r160), .val (.int (0 : Int32)), .val (.int (1 : Int32)), .val (.int (2 : Int32)), .val (.int (1 : Int32)), .val (.int ia), .val (.int ja), .val (.int ka), .val (.int (1 : Int32)), .val (.int (1 : Int32)), .val (.int ja), .val (.int ja), .val (.int (3 : Int32)), .unset] [(.int (1 : Int32))])) (fun _ ks_ => XS.iconst X431.here hx rfl (hb hby at_386) ks_) ?_
        refine go (u' := T431.setTop (mkF m 391 #[.val (.int p0), .val (.int p1), .val (.int p2), .val (.int p3), .val (.int p4), .val (.long q5), .second, .val (.ref b1), .val (.ref b22), .val (.ref r125), .val (.ref r142), .val (.ref r160), .val (.int (0 : Int32)), .val (.int (1 : Int32)), .val (.int (2 : Int32)), .val (.int (1 : Int32)), .val (.int ia), .val (.int ja), .val (.int ka), .val (.int (1 : Int32)), .val (.int (1 : Int32)), .val (.int ja), .val (.int ja), .val (.int (3 : Int32)), .unset] [(.int (1 : Int32))])) (fun _ ks_ => XS.goto X431.here hx rfl (pc0 := 387) (pc' := 391) rfl (hb hby at_387) (by decide) (by decide) ks_) ?_
        refine go (u' := T431.setTop (mkF m 393 #[.val (.int p0), .val (.int p1), .val (.int p2), .val (.int p3), .val (.int p4), .val (.long q5), .second, .val (.ref b1), .val (.ref b22), .val (.ref r125), .val (.ref r142), .val (.ref r160), .val (.int (0 : Int32)), .val (.int (1 : Int32)), .val (.int (2 : Int32)), .val (.int (1 : Int32)), .val (.int ia), .val (.int ja), .val (.int ka), .val (.int (1 : Int32)), .val (.int (1 : Int32)), .val (.int ja), .val (.int ja), .val (.int (3 : Int32)), .unset] [])) (fun _ ks_ => XS.istore X431.here hx rfl (hb hby at_391) rfl  (l' := #[.val (.int p0), .val (.int p1), .val (.int p2), .val (.int p3), .val (.int p4), .val (.long q5), .second, .val (.ref b1), .val (.ref b22), .val (.ref r125), .val (.ref r142), .val (.ref r160), .val (.int (0 : Int32)), .val (.int (1 : Int32)), .val (.int (2 : Int32)), .val (.int (1 : Int32)), .val (.int ia), .val (.int ja), .val (.int ka), .val (.int (1 : Int32)), .val (.int (1 : Int32)), .val (.int ja), .val (.int ja), .val (.int (3 : Int32)), .unset]) rfl ks_) ?_
        refine go (u' := T431.setTop (mkF m 395 #[.val (.int p0), .val (.int p1), .val (.int p2), .val (.int p3), .val (.int p4), .val (.long q5), .second, .val (.ref b1), .val (.ref b22), .val (.ref r125), .val (.ref r142), .val (.ref r160), .val (.int (0 : Int32)), .val (.int (1 : Int32)), .val (.int (2 : Int32)), .val (.int (1 : Int32)), .val (.int ia), .val (.int ja), .val (.int ka), .val (.int (1 : Int32)), .val (.int (1 : Int32)), .val (.int ja), .val (.int ja), .val (.int (3 : Int32)), .unset] [(.int (1 : Int32))])) (fun _ ks_ => XS.iload X431.here hx rfl (hb hby at_393) rfl  ks_) ?_
        refine go (u' := T431.setTop (mkF m 398 #[.val (.int p0), .val (.int p1), .val (.int p2), .val (.int p3), .val (.int p4), .val (.long q5), .second, .val (.ref b1), .val (.ref b22), .val (.ref r125), .val (.ref r142), .val (.ref r160), .val (.int (0 : Int32)), .val (.int (1 : Int32)), .val (.int (2 : Int32)), .val (.int (1 : Int32)), .val (.int ia), .val (.int ja), .val (.int ka), .val (.int (1 : Int32)), .val (.int (1 : Int32)), .val (.int ja), .val (.int ja), .val (.int (3 : Int32)), .unset] [])) (fun _ ks_ => XS.ifNo X431.here hx rfl (hb hby at_395) rfl ((if0 _ _).trans (feq (show ¬ ((1 : Int32) = (0 : Int32)) from (by decide))).1) ks_) ?_
        refine go (u' := T431.setTop (mkF m 400 #[.val (.int p0), .val (.int p1), .val (.int p2), .val (.int p3), .val (.int p4), .val (.long q5), .second, .val (.ref b1), .val (.ref b22), .val (.ref r125), .val (.ref r142), .val (.ref r160), .val (.int (0 : Int32)), .val (.int (1 : Int32)), .val (.int (2 : Int32)), .val (.int (1 : Int32)), .val (.int ia), .val (.int ja), .val (.int ka), .val (.int (1 : Int32)), .val (.int (1 : Int32)), .val (.int ja), .val (.int ja), .val (.int (3 : Int32)), .unset] [(.ref r142)])) (fun _ ks_ => XS.aload X431.here hx rfl (hb hby at_398) rfl rfl ks_) ?_
        refine go (u' := T431.setTop (mkF m 405 #[.val (.int p0), .val (.int p1), .val (.int p2), .val (.int p3), .val (.int p4), .val (.long q5), .second, .val (.ref b1), .val (.ref b22), .val (.ref r125), .val (.ref r142), .val (.ref r160), .val (.int (0 : Int32)), .val (.int (1 : Int32)), .val (.int (2 : Int32)), .val (.int (1 : Int32)), .val (.int ia), .val (.int ja), .val (.int ka), .val (.int (1 : Int32)), .val (.int (1 : Int32)), .val (.int ja), .val (.int ja), .val (.int (3 : Int32)), .unset] [(.ref r142)])) (fun _ ks_ => XS.goto X431.here hx rfl (pc0 := 400) (pc' := 405) rfl (hb hby at_400) (by decide) (by decide) ks_) ?_
        refine go (u' := T431.setTop (mkF m 407 #[.val (.int p0), .val (.int p1), .val (.int p2), .val (.int p3), .val (.int p4), .val (.long q5), .second, .val (.ref b1), .val (.ref b22), .val (.ref r125), .val (.ref r142), .val (.ref r160), .val (.int (0 : Int32)), .val (.int (1 : Int32)), .val (.int (2 : Int32)), .val (.int (1 : Int32)), .val (.int ia), .val (.int ja), .val (.int ka), .val (.int (1 : Int32)), .val (.int (1 : Int32)), .val (.int ja), .val (.int ja), .val (.int (3 : Int32)), .val (.ref r142)] [])) (fun _ ks_ => XS.astore X431.here hx rfl (hb hby at_405) rfl rfl (l' := #[.val (.int p0), .val (.int p1), .val (.int p2), .val (.int p3), .val (.int p4), .val (.long q5), .second, .val (.ref b1), .val (.ref b22), .val (.ref r125), .val (.ref r142), .val (.ref r160), .val (.int (0 : Int32)), .val (.int (1 : Int32)), .val (.int (2 : Int32)), .val (.int (1 : Int32)), .val (.int ia), .val (.int ja), .val (.int ka), .val (.int (1 : Int32)), .val (.int (1 : Int32)), .val (.int ja), .val (.int ja), .val (.int (3 : Int32)), .val (.ref r142)]) rfl ks_) ?_
        refine go (u' := T431.setTop (mkF m 409 #[.val (.int p0), .val (.int p1), .val (.int p2), .val (.int p3), .val (.int p4), .val (.long q5), .second, .val (.ref b1), .val (.ref b22), .val (.ref r125), .val (.ref r142), .val (.ref r160), .val (.int (0 : Int32)), .val (.int (1 : Int32)), .val (.int (2 : Int32)), .val (.int (1 : Int32)), .val (.int ia), .val (.int ja), .val (.int ka), .val (.int (1 : Int32)), .val (.int (1 : Int32)), .val (.int ja), .val (.int ja), .val (.int (3 : Int32)), .val (.ref r142)] [(.int (1 : Int32))])) (fun _ ks_ => XS.iload X431.here hx rfl (hb hby at_407) rfl  ks_) ?_
        refine go (u' := T431.setTop (mkF m 412 #[.val (.int p0), .val (.int p1), .val (.int p2), .val (.int p3), .val (.int p4), .val (.long q5), .second, .val (.ref b1), .val (.ref b22), .val (.ref r125), .val (.ref r142), .val (.ref r160), .val (.int (0 : Int32)), .val (.int (1 : Int32)), .val (.int (2 : Int32)), .val (.int (1 : Int32)), .val (.int ia), .val (.int ja), .val (.int ka), .val (.int (1 : Int32)), .val (.int (1 : Int32)), .val (.int ja), .val (.int ja), .val (.int (3 : Int32)), .val (.ref r142)] [])) (fun _ ks_ => XS.ifNo X431.here hx rfl (hb hby at_409) rfl ((if0 _ _).trans (feq (show ¬ ((1 : Int32) = (0 : Int32)) from (by decide))).1) ks_) ?_
        refine go (u' := T431.setTop (mkF m 414 #[.val (.int p0), .val (.int p1), .val (.int p2), .val (.int p3), .val (.int p4), .val (.long q5), .second, .val (.ref b1), .val (.ref b22), .val (.ref r125), .val (.ref r142), .val (.ref r160), .val (.int (0 : Int32)), .val (.int (1 : Int32)), .val (.int (2 : Int32)), .val (.int (1 : Int32)), .val (.int ia), .val (.int ja), .val (.int ka), .val (.int (1 : Int32)), .val (.int (1 : Int32)), .val (.int ja), .val (.int ja), .val (.int (3 : Int32)), .val (.ref r142)] [(.ref b1)])) (fun _ ks_ => XS.aload X431.here hx rfl (hb hby at_412) rfl rfl ks_) ?_
        refine go (u' := T431.setTop (mkF m 416 #[.val (.int p0), .val (.int p1), .val (.int p2), .val (.int p3), .val (.int p4), .val (.long q5), .second, .val (.ref b1), .val (.ref b22), .val (.ref r125), .val (.ref r142), .val (.ref r160), .val (.int (0 : Int32)), .val (.int (1 : Int32)), .val (.int (2 : Int32)), .val (.int (1 : Int32)), .val (.int ia), .val (.int ja), .val (.int ka), .val (.int (1 : Int32)), .val (.int (1 : Int32)), .val (.int ja), .val (.int ja), .val (.int (3 : Int32)), .val (.ref r142)] [(.int ia), (.ref b1)])) (fun _ ks_ => XS.iload X431.here hx rfl (hb hby at_414) rfl  ks_) ?_
        obtain ⟨cq452, kq452, q452a, q452b, q452c⟩ := isOf hZ (rfl : T431.heap = _) Fa432
        obtain ⟨_, _, ⟨T452, L452, k452, n452⟩, -, X452, ⟨Lc452, hQ452, l452, y452, z452⟩, st452⟩ := X431.virtualBack hx (y := (⟨"com/example/emberlot/emberlot/Slots", "node", "(I)Ljava/lang/Object;"⟩ : MethodName)) (z := (⟨"com/example/emberlot/emberlot/Slots", "node", "(I)Ljava/lang/Object;"⟩ : MethodName)) hown (mvT hZ (ww hw 107 rfl)) (mvT hZ (ww hw 108 rfl)) (notFace_of_selects (args := #[]) (mvT hZ (ww hw 110 rfl))) (mvT hZ (ww hw 110 rfl)) (mvT hZ (ww hw 109 rfl)) (by decide) (backOf (W := 0) (rm16 l Z a0 hw [] b1 ia na1431 pa10 xa10 ca10 af1431 fa.toNatClampNeg n1431 ln1431 nd1431 gs1431 E10 (-1 : Int32) (4 : Int32) T431.heap n0 Z431 Fa432 Fa433 Fa434 Fa435 Fa436 Fa437 Fa438 Fa450 Fa440 add_431.2.1 (own_j3 hI.1 (own_aj add_431)) hI.2.2.2.2.2.2.1) hZ (ww hw 111 rfl) (ww hw 2 rfl) (by decide) (by decide)) q452a q452c (g := (mkF m 416 #[.val (.int p0), .val (.int p1), .val (.int p2), .val (.int p3), .val (.int p4), .val (.long q5), .second, .val (.ref b1), .val (.ref b22), .val (.ref r125), .val (.ref r142), .val (.ref r160), .val (.int (0 : Int32)), .val (.int (1 : Int32)), .val (.int (2 : Int32)), .val (.int (1 : Int32)), .val (.int ia), .val (.int ja), .val (.int ka), .val (.int (1 : Int32)), .val (.int (1 : Int32)), .val (.int ja), .val (.int ja), .val (.int (3 : Int32)), .val (.ref r142)] [(.int ia), (.ref b1)])) rfl (by rw [hml]; rfl) (Steps.refl _) (argsL := [(.int ia)]) (rest := []) (lenOf pd__40_I_41_Ljava_47_lang_47_Object_59_ rfl) rfl (by show 2 * 0 + _ ≤ _; exact Nat.le_of_eq rfl) (hb hby at_416) (fun _ _ => ⟨rfl, (rfl : T431.heap = _), (by decide : 44 + 0 ≤ _), (by decide : 348 + 0 ≤ _)⟩)
        dsimp only [Pt.U, Pt.locs, Pt.cells, Pt.slots] at X452 l452 y452 z452 st452 hQ452
        subst l452 y452 z452
        obtain ⟨rfl, N452q, eq452⟩ := hQ452
        have N452 := Fr.app N431 N452q
        rw [show (nd1431 ia.toNatClampNeg) = (.ref r142) from ((add_431.2.2.2.1 _ hI.1.2).trans own_u1)] at st452
        refine goT (u' := T452.setTop (mkF m 419 #[.val (.int p0), .val (.int p1), .val (.int p2), .val (.int p3), .val (.int p4), .val (.long q5), .second, .val (.ref b1), .val (.ref b22), .val (.ref r125), .val (.ref r142), .val (.ref r160), .val (.int (0 : Int32)), .val (.int (1 : Int32)), .val (.int (2 : Int32)), .val (.int (1 : Int32)), .val (.int ia), .val (.int ja), .val (.int ka), .val (.int (1 : Int32)), .val (.int (1 : Int32)), .val (.int ja), .val (.int ja), .val (.int (3 : Int32)), .val (.ref r142)] [(.ref r142)])) st452 ?_
        refine go (u' := T452.setTop (mkF m 421 #[.val (.int p0), .val (.int p1), .val (.int p2), .val (.int p3), .val (.int p4), .val (.long q5), .second, .val (.ref b1), .val (.ref b22), .val (.ref r125), .val (.ref r142), .val (.ref r160), .val (.int (0 : Int32)), .val (.int (1 : Int32)), .val (.int (2 : Int32)), .val (.int (1 : Int32)), .val (.int ia), .val (.int ja), .val (.int ka), .val (.int (1 : Int32)), .val (.int (1 : Int32)), .val (.int ja), .val (.int ja), .val (.int (3 : Int32)), .val (.ref r142)] [(.ref r142), (.ref r142)])) (fun _ ks_ => XS.aload X452.here hx rfl (hb hby at_419) rfl rfl ks_) ?_
        refine go (u' := T452.setTop (mkF m 424 #[.val (.int p0), .val (.int p1), .val (.int p2), .val (.int p3), .val (.int p4), .val (.long q5), .second, .val (.ref b1), .val (.ref b22), .val (.ref r125), .val (.ref r142), .val (.ref r160), .val (.int (0 : Int32)), .val (.int (1 : Int32)), .val (.int (2 : Int32)), .val (.int (1 : Int32)), .val (.int ia), .val (.int ja), .val (.int ka), .val (.int (1 : Int32)), .val (.int (1 : Int32)), .val (.int ja), .val (.int ja), .val (.int (3 : Int32)), .val (.ref r142)] [])) (fun _ ks_ => Jvm.RoadKit.acmp (g := (mkF m 421 #[.val (.int p0), .val (.int p1), .val (.int p2), .val (.int p3), .val (.int p4), .val (.long q5), .second, .val (.ref b1), .val (.ref b22), .val (.ref r125), .val (.ref r142), .val (.ref r160), .val (.int (0 : Int32)), .val (.int (1 : Int32)), .val (.int (2 : Int32)), .val (.int (1 : Int32)), .val (.int ia), .val (.int ja), .val (.int ka), .val (.int (1 : Int32)), .val (.int (1 : Int32)), .val (.int ja), .val (.int ja), .val (.int (3 : Int32)), .val (.ref r142)] [(.ref r142), (.ref r142)])) X452 hx rfl rfl rfl (pc0 := 421) (pc' := 424) (same := true) rfl (hb hby at_421) rfl (decide_eq_true rfl) (by decide) (by decide) ks_) ?_
        refine go (u' := T452.setTop (mkF m 426 #[.val (.int p0), .val (.int p1), .val (.int p2), .val (.int p3), .val (.int p4), .val (.long q5), .second, .val (.ref b1), .val (.ref b22), .val (.ref r125), .val (.ref r142), .val (.ref r160), .val (.int (0 : Int32)), .val (.int (1 : Int32)), .val (.int (2 : Int32)), .val (.int (1 : Int32)), .val (.int ia), .val (.int ja), .val (.int ka), .val (.int (1 : Int32)), .val (.int (1 : Int32)), .val (.int ja), .val (.int ja), .val (.int (3 : Int32)), .val (.ref r142)] [(.ref b1)])) (fun _ ks_ => XS.aload X452.here hx rfl (hb hby at_424) rfl rfl ks_) ?_
        refine go (u' := T452.setTop (mkF m 427 #[.val (.int p0), .val (.int p1), .val (.int p2), .val (.int p3), .val (.int p4), .val (.long q5), .second, .val (.ref b1), .val (.ref b22), .val (.ref r125), .val (.ref r142), .val (.ref r160), .val (.int (0 : Int32)), .val (.int (1 : Int32)), .val (.int (2 : Int32)), .val (.int (1 : Int32)), .val (.int ia), .val (.int ja), .val (.int ka), .val (.int (1 : Int32)), .val (.int (1 : Int32)), .val (.int ja), .val (.int ja), .val (.int (3 : Int32)), .val (.ref r142)] [(.int (0 : Int32)), (.ref b1)])) (fun _ ks_ => XS.iconst X452.here hx rfl (hb hby at_426) ks_) ?_
        refine go (u' := T452.setTop (mkF m 429 #[.val (.int p0), .val (.int p1), .val (.int p2), .val (.int p3), .val (.int p4), .val (.long q5), .second, .val (.ref b1), .val (.ref b22), .val (.ref r125), .val (.ref r142), .val (.ref r160), .val (.int (0 : Int32)), .val (.int (1 : Int32)), .val (.int (2 : Int32)), .val (.int (1 : Int32)), .val (.int ia), .val (.int ja), .val (.int ka), .val (.int (1 : Int32)), .val (.int (1 : Int32)), .val (.int ja), .val (.int ja), .val (.int (3 : Int32)), .val (.ref r142)] [(.int ia), (.int (0 : Int32)), (.ref b1)])) (fun _ ks_ => XS.iload X452.here hx rfl (hb hby at_427) rfl  ks_) ?_
        obtain ⟨cq453, kq453, q453a, q453b, q453c⟩ := isOf hZ eq452 Fa432
        obtain ⟨_, _, ⟨T453, L453, k453, n453⟩, -, X453, ⟨Lc453, hQ453, l453, y453, z453⟩, st453⟩ := X452.virtualBack hx (y := (⟨"com/example/emberlot/emberlot/Slots", "get", "(II)I"⟩ : MethodName)) (z := (⟨"com/example/emberlot/emberlot/Slots", "get", "(II)I"⟩ : MethodName)) hown (mvT hZ (ww hw 112 rfl)) (mvT hZ (ww hw 113 rfl)) (notFace_of_selects (args := #[]) (mvT hZ (ww hw 115 rfl))) (mvT hZ (ww hw 115 rfl)) (mvT hZ (ww hw 114 rfl)) (by decide) (backOf (W := 0) (rm17 l Z a0 hw [] b1 ia na1431 pa10 xa10 ca10 af1431 fa.toNatClampNeg n1431 ln1431 nd1431 gs1431 E10 (-1 : Int32) (4 : Int32) T431.heap n0 Z431 Fa432 Fa433 Fa434 Fa435 Fa436 Fa437 Fa438 Fa450 Fa440 add_431.2.1 (own_j3 hI.1 (own_aj add_431))) hZ (ww hw 116 rfl) (ww hw 2 rfl) (by decide) (by decide)) q453a q453c (g := (mkF m 429 #[.val (.int p0), .val (.int p1), .val (.int p2), .val (.int p3), .val (.int p4), .val (.long q5), .second, .val (.ref b1), .val (.ref b22), .val (.ref r125), .val (.ref r142), .val (.ref r160), .val (.int (0 : Int32)), .val (.int (1 : Int32)), .val (.int (2 : Int32)), .val (.int (1 : Int32)), .val (.int ia), .val (.int ja), .val (.int ka), .val (.int (1 : Int32)), .val (.int (1 : Int32)), .val (.int ja), .val (.int ja), .val (.int (3 : Int32)), .val (.ref r142)] [(.int ia), (.int (0 : Int32)), (.ref b1)])) rfl (by rw [hml]; rfl) (Steps.refl _) (argsL := [(.int (0 : Int32)), (.int ia)]) (rest := []) (lenOf pd__40_II_41_I rfl) rfl (by show 2 * 0 + _ ≤ _; exact Nat.le_of_eq rfl) (hb hby at_429) (fun _ _ => ⟨rfl, eq452, (by decide : 44 + 0 ≤ _), (by decide : 348 + 0 ≤ _)⟩)
        dsimp only [Pt.U, Pt.locs, Pt.cells, Pt.slots] at X453 l453 y453 z453 st453 hQ453
        subst l453 y453 z453
        obtain ⟨rfl, N453q, eq453⟩ := hQ453
        have N453 := Fr.app N452 N453q
        rw [show (gs1431 0 ia.toNatClampNeg) = p4 from (own_g2 (add_431.2.2.2.2.2 _ hI.1.2).1 a0_388 a0_368)] at st453
        refine goT (u' := T453.setTop (mkF m 432 #[.val (.int p0), .val (.int p1), .val (.int p2), .val (.int p3), .val (.int p4), .val (.long q5), .second, .val (.ref b1), .val (.ref b22), .val (.ref r125), .val (.ref r142), .val (.ref r160), .val (.int (0 : Int32)), .val (.int (1 : Int32)), .val (.int (2 : Int32)), .val (.int (1 : Int32)), .val (.int ia), .val (.int ja), .val (.int ka), .val (.int (1 : Int32)), .val (.int (1 : Int32)), .val (.int ja), .val (.int ja), .val (.int (3 : Int32)), .val (.ref r142)] [(.int p4)])) st453 ?_
        refine go (u' := T453.setTop (mkF m 434 #[.val (.int p0), .val (.int p1), .val (.int p2), .val (.int p3), .val (.int p4), .val (.long q5), .second, .val (.ref b1), .val (.ref b22), .val (.ref r125), .val (.ref r142), .val (.ref r160), .val (.int (0 : Int32)), .val (.int (1 : Int32)), .val (.int (2 : Int32)), .val (.int (1 : Int32)), .val (.int ia), .val (.int ja), .val (.int ka), .val (.int (1 : Int32)), .val (.int (1 : Int32)), .val (.int ja), .val (.int ja), .val (.int (3 : Int32)), .val (.ref r142)] [(.int p4), (.int p4)])) (fun _ ks_ => XS.iload X453.here hx rfl (hb hby at_432) rfl  ks_) ?_
        refine go (u' := T453.setTop (mkF m 437 #[.val (.int p0), .val (.int p1), .val (.int p2), .val (.int p3), .val (.int p4), .val (.long q5), .second, .val (.ref b1), .val (.ref b22), .val (.ref r125), .val (.ref r142), .val (.ref r160), .val (.int (0 : Int32)), .val (.int (1 : Int32)), .val (.int (2 : Int32)), .val (.int (1 : Int32)), .val (.int ia), .val (.int ja), .val (.int ka), .val (.int (1 : Int32)), .val (.int (1 : Int32)), .val (.int ja), .val (.int ja), .val (.int (3 : Int32)), .val (.ref r142)] [])) (fun _ ks_ => XS.icmpNo X453.here hx rfl (hb hby at_434) rfl (teq rfl).2 ks_) ?_
        refine go (u' := T453.setTop (mkF m 438 #[.val (.int p0), .val (.int p1), .val (.int p2), .val (.int p3), .val (.int p4), .val (.long q5), .second, .val (.ref b1), .val (.ref b22), .val (.ref r125), .val (.ref r142), .val (.ref r160), .val (.int (0 : Int32)), .val (.int (1 : Int32)), .val (.int (2 : Int32)), .val (.int (1 : Int32)), .val (.int ia), .val (.int ja), .val (.int ka), .val (.int (1 : Int32)), .val (.int (1 : Int32)), .val (.int ja), .val (.int ja), .val (.int (3 : Int32)), .val (.ref r142)] [(.int (1 : Int32))])) (fun _ ks_ => XS.iconst X453.here hx rfl (hb hby at_437) ks_) ?_
        refine go (u' := T453.setTop (mkF m 442 #[.val (.int p0), .val (.int p1), .val (.int p2), .val (.int p3), .val (.int p4), .val (.long q5), .second, .val (.ref b1), .val (.ref b22), .val (.ref r125), .val (.ref r142), .val (.ref r160), .val (.int (0 : Int32)), .val (.int (1 : Int32)), .val (.int (2 : Int32)), .val (.int (1 : Int32)), .val (.int ia), .val (.int ja), .val (.int ka), .val (.int (1 : Int32)), .val (.int (1 : Int32)), .val (.int ja), .val (.int ja), .val (.int (3 : Int32)), .val (.ref r142)] [(.int (1 : Int32))])) (fun _ ks_ => XS.goto X453.here hx rfl (pc0 := 438) (pc' := 442) rfl (hb hby at_438) (by decide) (by decide) ks_) ?_
        refine go (u' := T453.setTop (mkF m 444 #[.val (.int p0), .val (.int p1), .val (.int p2), .val (.int p3), .val (.int p4), .val (.long q5), .second, .val (.ref b1), .val (.ref b22), .val (.ref r125), .val (.ref r142), .val (.ref r160), .val (.int (0 : Int32)), .val (.int (1 : Int32)), .val (.int (2 : Int32)), .val (.int (1 : Int32)), .val (.int ia), .val (.int ja), .val (.int ka), .val (.int (1 : Int32)), .val (.int (1 : Int32)), .val (.int ja), .val (.int ja), .val (.int (3 : Int32)), .val (.ref r142)] [])) (fun _ ks_ => XS.istore X453.here hx rfl (hb hby at_442) rfl  (l' := #[.val (.int p0), .val (.int p1), .val (.int p2), .val (.int p3), .val (.int p4), .val (.long q5), .second, .val (.ref b1), .val (.ref b22), .val (.ref r125), .val (.ref r142), .val (.ref r160), .val (.int (0 : Int32)), .val (.int (1 : Int32)), .val (.int (2 : Int32)), .val (.int (1 : Int32)), .val (.int ia), .val (.int ja), .val (.int ka), .val (.int (1 : Int32)), .val (.int (1 : Int32)), .val (.int ja), .val (.int ja), .val (.int (3 : Int32)), .val (.ref r142)]) rfl ks_) ?_
        refine go (u' := T453.setTop (mkF m 446 #[.val (.int p0), .val (.int p1), .val (.int p2), .val (.int p3), .val (.int p4), .val (.long q5), .second, .val (.ref b1), .val (.ref b22), .val (.ref r125), .val (.ref r142), .val (.ref r160), .val (.int (0 : Int32)), .val (.int (1 : Int32)), .val (.int (2 : Int32)), .val (.int (1 : Int32)), .val (.int ia), .val (.int ja), .val (.int ka), .val (.int (1 : Int32)), .val (.int (1 : Int32)), .val (.int ja), .val (.int ja), .val (.int (3 : Int32)), .val (.ref r142)] [(.int (1 : Int32))])) (fun _ ks_ => XS.iload X453.here hx rfl (hb hby at_444) rfl  ks_) ?_
        rw [hG]
        refine gN X453 hx hlk (t := .boolean) hret (by simp) rfl (hb hby at_446) ?_ (Nat.le_of_ble_eq_true rfl) (Nat.le_of_ble_eq_true rfl)
        show Q_rm0 Z p0 p1 p2 p3 p4 q5 h0 n0 (some (.int (1 : Int32))) T453.heap _
        rw [eq453]
        exact ⟨rfl, N453⟩
  by_cases hc1 : n1179 = 1
  ·
    refine go (u' := T179.setTop (mkF m 94 #[.val (.int p0), .val (.int p1), .val (.int p2), .val (.int p3), .val (.int p4), .val (.long q5), .second, .val (.ref b1), .val (.ref b22), .val (.ref r125), .val (.ref r142), .val (.ref r160), .val (.int (0 : Int32)), .unset, .unset, .unset, .unset, .unset, .unset, .unset, .unset, .unset, .unset, .unset, .unset] [(.ref b1)])) (fun _ ks_ => XS.aload X179.here hx rfl (hb hby at_92) rfl rfl ks_) ?_
    refine go (u' := T179.setTop (mkF m 96 #[.val (.int p0), .val (.int p1), .val (.int p2), .val (.int p3), .val (.int p4), .val (.long q5), .second, .val (.ref b1), .val (.ref b22), .val (.ref r125), .val (.ref r142), .val (.ref r160), .val (.int (0 : Int32)), .unset, .unset, .unset, .unset, .unset, .unset, .unset, .unset, .unset, .unset, .unset, .unset] [(.ref b22), (.ref b1)])) (fun _ ks_ => XS.aload X179.here hx rfl (hb hby at_94) rfl rfl ks_) ?_
    refine go (u' := T179.setTop (mkF m 97 #[.val (.int p0), .val (.int p1), .val (.int p2), .val (.int p3), .val (.int p4), .val (.long q5), .second, .val (.ref b1), .val (.ref b22), .val (.ref r125), .val (.ref r142), .val (.ref r160), .val (.int (0 : Int32)), .unset, .unset, .unset, .unset, .unset, .unset, .unset, .unset, .unset, .unset, .unset, .unset] [(.int (1 : Int32)), (.ref b22), (.ref b1)])) (fun _ ks_ => XS.iconst X179.here hx rfl (hb hby at_96) ks_) ?_
    refine go (u' := T179.setTop (mkF m 98 #[.val (.int p0), .val (.int p1), .val (.int p2), .val (.int p3), .val (.int p4), .val (.long q5), .second, .val (.ref b1), .val (.ref b22), .val (.ref r125), .val (.ref r142), .val (.ref r160), .val (.int (0 : Int32)), .unset, .unset, .unset, .unset, .unset, .unset, .unset, .unset, .unset, .unset, .unset, .unset] [(.ref r62), (.ref b1)])) (own_aaload X179 hx hZ (rfl : T179.heap = _) Fa190 rfl (j := (1 : Int32)) (v := (.ref r62)) (by decide) (by decide) own_oad1 (f := (mkF m 97 #[.val (.int p0), .val (.int p1), .val (.int p2), .val (.int p3), .val (.int p4), .val (.long q5), .second, .val (.ref b1), .val (.ref b22), .val (.ref r125), .val (.ref r142), .val (.ref r160), .val (.int (0 : Int32)), .unset, .unset, .unset, .unset, .unset, .unset, .unset, .unset, .unset, .unset, .unset, .unset] [(.int (1 : Int32)), (.ref b22), (.ref b1)])) rfl rfl (hb hby at_97)) ?_
    obtain ⟨cq454, kq454, q454a, q454b, q454c⟩ := isOf hZ (rfl : T179.heap = _) Fa180
    obtain ⟨_, _, ⟨T454, L454, k454, n454⟩, -, X454, ⟨Lc454, hQ454, l454, y454, z454⟩, st454⟩ := X179.virtualBack hx (y := (⟨"com/example/emberlot/emberlot/Slots", "add", "(Ljava/lang/Object;)I"⟩ : MethodName)) (z := (⟨"com/example/emberlot/emberlot/Slots", "add", "(Ljava/lang/Object;)I"⟩ : MethodName)) hown (mvT hZ (ww hw 58 rfl)) (mvT hZ (ww hw 59 rfl)) (notFace_of_selects (args := #[]) (mvT hZ (ww hw 61 rfl))) (mvT hZ (ww hw 61 rfl)) (mvT hZ (ww hw 60 rfl)) (by decide) (backOf (W := 0) (rm8 l Z a0 hw [] b1 r62 na1179 pa10 xa10 ca10 af1179 fa.toNatClampNeg n1179 ln1179 nd1179 gs1179 E10 (-1 : Int32) (1 : Int32) mr T179.heap n0 Z179 Fa180 Fa181 Fa182 Fa183 Fa184 Fa185 Fa186 Fa198 Fa188 Fa193 add_179.2.1 rfl (own_tk1 hc1).1 (own_tk1 hc1).2 hE_10 hM) hZ (ww hw 62 rfl) (ww hw 2 rfl) (by decide) (by decide)) q454a q454c (g := (mkF m 98 #[.val (.int p0), .val (.int p1), .val (.int p2), .val (.int p3), .val (.int p4), .val (.long q5), .second, .val (.ref b1), .val (.ref b22), .val (.ref r125), .val (.ref r142), .val (.ref r160), .val (.int (0 : Int32)), .unset, .unset, .unset, .unset, .unset, .unset, .unset, .unset, .unset, .unset, .unset, .unset] [(.ref r62), (.ref b1)])) rfl (by rw [hml]; rfl) (Steps.refl _) (argsL := [(.ref r62)]) (rest := []) (lenOf pd__40_Ljava_47_lang_47_Object_59__41_I rfl) rfl (by show 2 * 0 + _ ≤ _; exact Nat.le_of_eq rfl) (hb hby at_98) (fun _ _ => ⟨rfl, (rfl : T179.heap = _), (by decide : 34 + 10 ≤ _), (by decide : 188 + 160 ≤ _)⟩)
    dsimp only [Pt.U, Pt.locs, Pt.cells, Pt.slots] at X454 l454 y454 z454 st454 hQ454
    subst l454 y454 z454
    obtain ⟨na1454, af1454, n1454, ln1454, nd1454, gs1454, rfl, N454q, Kq454, Fa455, Fa456, Fa457, Fa458, Fa459, Fa460, Fa461, Fa462, Fa463, sub_454, add_454, gx_454⟩ := hQ454
    have N454 := Fr.app N179 N454q
    have K454 : Keep h0 T454.heap [] := K179.trans Kq454 (own_WlLo Fa188 hn0)
    have Z454 : n0 ≤ T454.heap.size := Nat.le_trans Z179 Kq454.1
    have Fa464 : Exa Z T454.heap b1 "com/example/emberlot/emberlot/Slots" := Fa180.keep Kq454
    have Fa465 : PR Z T454.heap b22 (.object "java/lang/Object") "java/lang/Object" 3 (fun u => Value.ref (oad r34 r62 r92 u)) := Fa190.keep Kq454 (own_nW hno199)
    have Fa466 : Exa Z T454.heap b22 "[Ljava/lang/Object;" := Fa191.keep Kq454
    have Fa467 : Exa Z T454.heap r34 "java/lang/Integer" := Fa192.keep Kq454
    have Fa468 : Exa Z T454.heap r62 "java/lang/Integer" := Fa193.keep Kq454
    have Fa469 : Exa Z T454.heap r92 "java/lang/Integer" := Fa194.keep Kq454
    have Fa470 : Exa Z T454.heap r125 "java/lang/Integer" := Fa195.keep Kq454
    have Fa471 : Exa Z T454.heap r142 "java/lang/Integer" := Fa196.keep Kq454
    have Fa472 : Exa Z T454.heap r160 "java/lang/Integer" := Fa197.keep Kq454
    refine goT (u' := T454.setTop (mkF m 101 #[.val (.int p0), .val (.int p1), .val (.int p2), .val (.int p3), .val (.int p4), .val (.long q5), .second, .val (.ref b1), .val (.ref b22), .val (.ref r125), .val (.ref r142), .val (.ref r160), .val (.int (0 : Int32)), .unset, .unset, .unset, .unset, .unset, .unset, .unset, .unset, .unset, .unset, .unset, .unset] [(.int (1 : Int32))])) st454 ?_
    have Fa473 : Fld Z T454.heap b1 "com/example/emberlot/emberlot/Slots" "taken" "I" (.int (2 : Int32)) := own_Fto Fa462 (congrArg Value.int (by decide))
    have hno474 : ∀ i, i < 6 + 2 * fa.toNatClampNeg → adr b1 na1454 pa10 xa10 ca10 af1454 i ≠ b22 := own_nS hno199 Fa190.lt sub_454
    refine go (u' := T454.setTop (mkF m 103 #[.val (.int p0), .val (.int p1), .val (.int p2), .val (.int p3), .val (.int p4), .val (.long q5), .second, .val (.ref b1), .val (.ref b22), .val (.ref r125), .val (.ref r142), .val (.ref r160), .val (.int (0 : Int32)), .val (.int (1 : Int32)), .unset, .unset, .unset, .unset, .unset, .unset, .unset, .unset, .unset, .unset, .unset] [])) (fun _ ks_ => XS.istore X454.here hx rfl (hb hby at_101) rfl  (l' := #[.val (.int p0), .val (.int p1), .val (.int p2), .val (.int p3), .val (.int p4), .val (.long q5), .second, .val (.ref b1), .val (.ref b22), .val (.ref r125), .val (.ref r142), .val (.ref r160), .val (.int (0 : Int32)), .val (.int (1 : Int32)), .unset, .unset, .unset, .unset, .unset, .unset, .unset, .unset, .unset, .unset, .unset]) rfl ks_) ?_
    have hd2 : 2 < n1454 ∧ n1454 ≤ 16 := by rw [(own_b16 hc1 gx_179 gx_454)]; decide
    refine go (u' := T454.setTop (mkF m 105 #[.val (.int p0), .val (.int p1), .val (.int p2), .val (.int p3), .val (.int p4), .val (.long q5), .second, .val (.ref b1), .val (.ref b22), .val (.ref r125), .val (.ref r142), .val (.ref r160), .val (.int (0 : Int32)), .val (.int (1 : Int32)), .unset, .unset, .unset, .unset, .unset, .unset, .unset, .unset, .unset, .unset, .unset] [(.ref b1)])) (fun _ ks_ => XS.aload X454.here hx rfl (hb hby at_103) rfl rfl ks_) ?_
    refine go (u' := T454.setTop (mkF m 107 #[.val (.int p0), .val (.int p1), .val (.int p2), .val (.int p3), .val (.int p4), .val (.long q5), .second, .val (.ref b1), .val (.ref b22), .val (.ref r125), .val (.ref r142), .val (.ref r160), .val (.int (0 : Int32)), .val (.int (1 : Int32)), .unset, .unset, .unset, .unset, .unset, .unset, .unset, .unset, .unset, .unset, .unset] [(.ref b22), (.ref b1)])) (fun _ ks_ => XS.aload X454.here hx rfl (hb hby at_105) rfl rfl ks_) ?_
    refine go (u' := T454.setTop (mkF m 108 #[.val (.int p0), .val (.int p1), .val (.int p2), .val (.int p3), .val (.int p4), .val (.long q5), .second, .val (.ref b1), .val (.ref b22), .val (.ref r125), .val (.ref r142), .val (.ref r160), .val (.int (0 : Int32)), .val (.int (1 : Int32)), .unset, .unset, .unset, .unset, .unset, .unset, .unset, .unset, .unset, .unset, .unset] [(.int (2 : Int32)), (.ref b22), (.ref b1)])) (fun _ ks_ => XS.iconst X454.here hx rfl (hb hby at_107) ks_) ?_
    refine go (u' := T454.setTop (mkF m 109 #[.val (.int p0), .val (.int p1), .val (.int p2), .val (.int p3), .val (.int p4), .val (.long q5), .second, .val (.ref b1), .val (.ref b22), .val (.ref r125), .val (.ref r142), .val (.ref r160), .val (.int (0 : Int32)), .val (.int (1 : Int32)), .unset, .unset, .unset, .unset, .unset, .unset, .unset, .unset, .unset, .unset, .unset] [(.ref r92), (.ref b1)])) (own_aaload X454 hx hZ (rfl : T454.heap = _) Fa465 rfl (j := (2 : Int32)) (v := (.ref r92)) (by decide) (by decide) own_oad2 (f := (mkF m 108 #[.val (.int p0), .val (.int p1), .val (.int p2), .val (.int p3), .val (.int p4), .val (.long q5), .second, .val (.ref b1), .val (.ref b22), .val (.ref r125), .val (.ref r142), .val (.ref r160), .val (.int (0 : Int32)), .val (.int (1 : Int32)), .unset, .unset, .unset, .unset, .unset, .unset, .unset, .unset, .unset, .unset, .unset] [(.int (2 : Int32)), (.ref b22), (.ref b1)])) rfl rfl (hb hby at_108)) ?_
    obtain ⟨cq475, kq475, q475a, q475b, q475c⟩ := isOf hZ (rfl : T454.heap = _) Fa455
    obtain ⟨_, _, ⟨T475, L475, k475, n475⟩, -, X475, ⟨Lc475, hQ475, l475, y475, z475⟩, st475⟩ := X454.virtualBack hx (y := (⟨"com/example/emberlot/emberlot/Slots", "add", "(Ljava/lang/Object;)I"⟩ : MethodName)) (z := (⟨"com/example/emberlot/emberlot/Slots", "add", "(Ljava/lang/Object;)I"⟩ : MethodName)) hown (mvT hZ (ww hw 58 rfl)) (mvT hZ (ww hw 59 rfl)) (notFace_of_selects (args := #[]) (mvT hZ (ww hw 61 rfl))) (mvT hZ (ww hw 61 rfl)) (mvT hZ (ww hw 60 rfl)) (by decide) (backOf (W := 0) (rm8n l Z a0 hw [] b1 r92 na1454 pa10 xa10 ca10 af1454 fa.toNatClampNeg n1454 ln1454 nd1454 gs1454 E10 (-1 : Int32) (2 : Int32) T454.heap n0 Z454 Fa455 Fa456 Fa457 Fa458 Fa459 Fa460 Fa461 Fa473 Fa463 Fa469 add_454.2.1 rfl (own_nt2 hd2).1 (own_nt2 hd2).2 hd2.2) hZ (ww hw 62 rfl) (ww hw 2 rfl) (by decide) (by decide)) q475a q475c (g := (mkF m 109 #[.val (.int p0), .val (.int p1), .val (.int p2), .val (.int p3), .val (.int p4), .val (.long q5), .second, .val (.ref b1), .val (.ref b22), .val (.ref r125), .val (.ref r142), .val (.ref r160), .val (.int (0 : Int32)), .val (.int (1 : Int32)), .unset, .unset, .unset, .unset, .unset, .unset, .unset, .unset, .unset, .unset, .unset] [(.ref r92), (.ref b1)])) rfl (by rw [hml]; rfl) (Steps.refl _) (argsL := [(.ref r92)]) (rest := []) (lenOf pd__40_Ljava_47_lang_47_Object_59__41_I rfl) rfl (by show 2 * 0 + _ ≤ _; exact Nat.le_of_eq rfl) (hb hby at_109) (fun _ _ => ⟨rfl, (rfl : T454.heap = _), (by decide : 44 + 0 ≤ _), (by decide : 348 + 0 ≤ _)⟩)
    dsimp only [Pt.U, Pt.locs, Pt.cells, Pt.slots] at X475 l475 y475 z475 st475 hQ475
    subst l475 y475 z475
    obtain ⟨na1475, af1475, n1475, ln1475, nd1475, gs1475, rfl, N475q, Kq475, Fa476, Fa477, Fa478, Fa479, Fa480, Fa481, Fa482, Fa483, Fa484, sub_475, add_475, gx_475⟩ := hQ475
    have N475 := Fr.app N454 N475q
    have K475 : Keep h0 T475.heap [] := K454.trans Kq475 (own_WlLo Fa463 hn0)
    have Z475 : n0 ≤ T475.heap.size := Nat.le_trans Z454 Kq475.1
    have Fa485 : Exa Z T475.heap b1 "com/example/emberlot/emberlot/Slots" := Fa455.keep Kq475
    have Fa486 : PR Z T475.heap b22 (.object "java/lang/Object") "java/lang/Object" 3 (fun u => Value.ref (oad r34 r62 r92 u)) := Fa465.keep Kq475 (own_nW hno474)
    have Fa487 : Exa Z T475.heap b22 "[Ljava/lang/Object;" := Fa466.keep Kq475
    have Fa488 : Exa Z T475.heap r34 "java/lang/Integer" := Fa467.keep Kq475
    have Fa489 : Exa Z T475.heap r62 "java/lang/Integer" := Fa468.keep Kq475
    have Fa490 : Exa Z T475.heap r92 "java/lang/Integer" := Fa469.keep Kq475
    have Fa491 : Exa Z T475.heap r125 "java/lang/Integer" := Fa470.keep Kq475
    have Fa492 : Exa Z T475.heap r142 "java/lang/Integer" := Fa471.keep Kq475
    have Fa493 : Exa Z T475.heap r160 "java/lang/Integer" := Fa472.keep Kq475
    refine goT (u' := T475.setTop (mkF m 112 #[.val (.int p0), .val (.int p1), .val (.int p2), .val (.int p3), .val (.int p4), .val (.long q5), .second, .val (.ref b1), .val (.ref b22), .val (.ref r125), .val (.ref r142), .val (.ref r160), .val (.int (0 : Int32)), .val (.int (1 : Int32)), .unset, .unset, .unset, .unset, .unset, .unset, .unset, .unset, .unset, .unset, .unset] [(.int (2 : Int32))])) st475 ?_
    have Fa494 : Fld Z T475.heap b1 "com/example/emberlot/emberlot/Slots" "taken" "I" (.int (3 : Int32)) := own_Fto Fa483 (congrArg Value.int (by decide))
    have hno495 : ∀ i, i < 6 + 2 * fa.toNatClampNeg → adr b1 na1475 pa10 xa10 ca10 af1475 i ≠ b22 := own_nS hno474 Fa465.lt sub_475
    refine go (u' := T475.setTop (mkF m 114 #[.val (.int p0), .val (.int p1), .val (.int p2), .val (.int p3), .val (.int p4), .val (.long q5), .second, .val (.ref b1), .val (.ref b22), .val (.ref r125), .val (.ref r142), .val (.ref r160), .val (.int (0 : Int32)), .val (.int (1 : Int32)), .val (.int (2 : Int32)), .unset, .unset, .unset, .unset, .unset, .unset, .unset, .unset, .unset, .unset] [])) (fun _ ks_ => XS.istore X475.here hx rfl (hb hby at_112) rfl  (l' := #[.val (.int p0), .val (.int p1), .val (.int p2), .val (.int p3), .val (.int p4), .val (.long q5), .second, .val (.ref b1), .val (.ref b22), .val (.ref r125), .val (.ref r142), .val (.ref r160), .val (.int (0 : Int32)), .val (.int (1 : Int32)), .val (.int (2 : Int32)), .unset, .unset, .unset, .unset, .unset, .unset, .unset, .unset, .unset, .unset]) rfl ks_) ?_
    exact C114_1 na1475 af1475 n1475 ln1475 nd1475 gs1475 _ _ _ X475 (rfl : T475.heap = _) N475 Z475 K475 Fa476 Fa486 Fa487 Fa488 Fa489 Fa490 Fa491 Fa492 Fa493 Fa477 Fa478 Fa479 Fa480 Fa481 Fa482 Fa494 Fa484 (own_law3 add_179 add_454 add_475) hno495
  ·
    have hd1 : 1 < n1179 ∧ n1179 ≤ 16 := own_ln1 add_179.1 hc1
    refine go (u' := T179.setTop (mkF m 94 #[.val (.int p0), .val (.int p1), .val (.int p2), .val (.int p3), .val (.int p4), .val (.long q5), .second, .val (.ref b1), .val (.ref b22), .val (.ref r125), .val (.ref r142), .val (.ref r160), .val (.int (0 : Int32)), .unset, .unset, .unset, .unset, .unset, .unset, .unset, .unset, .unset, .unset, .unset, .unset] [(.ref b1)])) (fun _ ks_ => XS.aload X179.here hx rfl (hb hby at_92) rfl rfl ks_) ?_
    refine go (u' := T179.setTop (mkF m 96 #[.val (.int p0), .val (.int p1), .val (.int p2), .val (.int p3), .val (.int p4), .val (.long q5), .second, .val (.ref b1), .val (.ref b22), .val (.ref r125), .val (.ref r142), .val (.ref r160), .val (.int (0 : Int32)), .unset, .unset, .unset, .unset, .unset, .unset, .unset, .unset, .unset, .unset, .unset, .unset] [(.ref b22), (.ref b1)])) (fun _ ks_ => XS.aload X179.here hx rfl (hb hby at_94) rfl rfl ks_) ?_
    refine go (u' := T179.setTop (mkF m 97 #[.val (.int p0), .val (.int p1), .val (.int p2), .val (.int p3), .val (.int p4), .val (.long q5), .second, .val (.ref b1), .val (.ref b22), .val (.ref r125), .val (.ref r142), .val (.ref r160), .val (.int (0 : Int32)), .unset, .unset, .unset, .unset, .unset, .unset, .unset, .unset, .unset, .unset, .unset, .unset] [(.int (1 : Int32)), (.ref b22), (.ref b1)])) (fun _ ks_ => XS.iconst X179.here hx rfl (hb hby at_96) ks_) ?_
    refine go (u' := T179.setTop (mkF m 98 #[.val (.int p0), .val (.int p1), .val (.int p2), .val (.int p3), .val (.int p4), .val (.long q5), .second, .val (.ref b1), .val (.ref b22), .val (.ref r125), .val (.ref r142), .val (.ref r160), .val (.int (0 : Int32)), .unset, .unset, .unset, .unset, .unset, .unset, .unset, .unset, .unset, .unset, .unset, .unset] [(.ref r62), (.ref b1)])) (own_aaload X179 hx hZ (rfl : T179.heap = _) Fa190 rfl (j := (1 : Int32)) (v := (.ref r62)) (by decide) (by decide) own_oad1 (f := (mkF m 97 #[.val (.int p0), .val (.int p1), .val (.int p2), .val (.int p3), .val (.int p4), .val (.long q5), .second, .val (.ref b1), .val (.ref b22), .val (.ref r125), .val (.ref r142), .val (.ref r160), .val (.int (0 : Int32)), .unset, .unset, .unset, .unset, .unset, .unset, .unset, .unset, .unset, .unset, .unset, .unset] [(.int (1 : Int32)), (.ref b22), (.ref b1)])) rfl rfl (hb hby at_97)) ?_
    obtain ⟨cq496, kq496, q496a, q496b, q496c⟩ := isOf hZ (rfl : T179.heap = _) Fa180
    obtain ⟨_, _, ⟨T496, L496, k496, n496⟩, -, X496, ⟨Lc496, hQ496, l496, y496, z496⟩, st496⟩ := X179.virtualBack hx (y := (⟨"com/example/emberlot/emberlot/Slots", "add", "(Ljava/lang/Object;)I"⟩ : MethodName)) (z := (⟨"com/example/emberlot/emberlot/Slots", "add", "(Ljava/lang/Object;)I"⟩ : MethodName)) hown (mvT hZ (ww hw 58 rfl)) (mvT hZ (ww hw 59 rfl)) (notFace_of_selects (args := #[]) (mvT hZ (ww hw 61 rfl))) (mvT hZ (ww hw 61 rfl)) (mvT hZ (ww hw 60 rfl)) (by decide) (backOf (W := 0) (rm8n l Z a0 hw [] b1 r62 na1179 pa10 xa10 ca10 af1179 fa.toNatClampNeg n1179 ln1179 nd1179 gs1179 E10 (-1 : Int32) (1 : Int32) T179.heap n0 Z179 Fa180 Fa181 Fa182 Fa183 Fa184 Fa185 Fa186 Fa198 Fa188 Fa193 add_179.2.1 rfl (own_nt1 hd1).1 (own_nt1 hd1).2 hd1.2) hZ (ww hw 62 rfl) (ww hw 2 rfl) (by decide) (by decide)) q496a q496c (g := (mkF m 98 #[.val (.int p0), .val (.int p1), .val (.int p2), .val (.int p3), .val (.int p4), .val (.long q5), .second, .val (.ref b1), .val (.ref b22), .val (.ref r125), .val (.ref r142), .val (.ref r160), .val (.int (0 : Int32)), .unset, .unset, .unset, .unset, .unset, .unset, .unset, .unset, .unset, .unset, .unset, .unset] [(.ref r62), (.ref b1)])) rfl (by rw [hml]; rfl) (Steps.refl _) (argsL := [(.ref r62)]) (rest := []) (lenOf pd__40_Ljava_47_lang_47_Object_59__41_I rfl) rfl (by show 2 * 0 + _ ≤ _; exact Nat.le_of_eq rfl) (hb hby at_98) (fun _ _ => ⟨rfl, (rfl : T179.heap = _), (by decide : 34 + 0 ≤ _), (by decide : 188 + 0 ≤ _)⟩)
    dsimp only [Pt.U, Pt.locs, Pt.cells, Pt.slots] at X496 l496 y496 z496 st496 hQ496
    subst l496 y496 z496
    obtain ⟨na1496, af1496, n1496, ln1496, nd1496, gs1496, rfl, N496q, Kq496, Fa497, Fa498, Fa499, Fa500, Fa501, Fa502, Fa503, Fa504, Fa505, sub_496, add_496, gx_496⟩ := hQ496
    have N496 := Fr.app N179 N496q
    have K496 : Keep h0 T496.heap [] := K179.trans Kq496 (own_WlLo Fa188 hn0)
    have Z496 : n0 ≤ T496.heap.size := Nat.le_trans Z179 Kq496.1
    have Fa506 : Exa Z T496.heap b1 "com/example/emberlot/emberlot/Slots" := Fa180.keep Kq496
    have Fa507 : PR Z T496.heap b22 (.object "java/lang/Object") "java/lang/Object" 3 (fun u => Value.ref (oad r34 r62 r92 u)) := Fa190.keep Kq496 (own_nW hno199)
    have Fa508 : Exa Z T496.heap b22 "[Ljava/lang/Object;" := Fa191.keep Kq496
    have Fa509 : Exa Z T496.heap r34 "java/lang/Integer" := Fa192.keep Kq496
    have Fa510 : Exa Z T496.heap r62 "java/lang/Integer" := Fa193.keep Kq496
    have Fa511 : Exa Z T496.heap r92 "java/lang/Integer" := Fa194.keep Kq496
    have Fa512 : Exa Z T496.heap r125 "java/lang/Integer" := Fa195.keep Kq496
    have Fa513 : Exa Z T496.heap r142 "java/lang/Integer" := Fa196.keep Kq496
    have Fa514 : Exa Z T496.heap r160 "java/lang/Integer" := Fa197.keep Kq496
    refine goT (u' := T496.setTop (mkF m 101 #[.val (.int p0), .val (.int p1), .val (.int p2), .val (.int p3), .val (.int p4), .val (.long q5), .second, .val (.ref b1), .val (.ref b22), .val (.ref r125), .val (.ref r142), .val (.ref r160), .val (.int (0 : Int32)), .unset, .unset, .unset, .unset, .unset, .unset, .unset, .unset, .unset, .unset, .unset, .unset] [(.int (1 : Int32))])) st496 ?_
    have Fa515 : Fld Z T496.heap b1 "com/example/emberlot/emberlot/Slots" "taken" "I" (.int (2 : Int32)) := own_Fto Fa504 (congrArg Value.int (by decide))
    have hno516 : ∀ i, i < 6 + 2 * fa.toNatClampNeg → adr b1 na1496 pa10 xa10 ca10 af1496 i ≠ b22 := own_nS hno199 Fa190.lt sub_496
    refine go (u' := T496.setTop (mkF m 103 #[.val (.int p0), .val (.int p1), .val (.int p2), .val (.int p3), .val (.int p4), .val (.long q5), .second, .val (.ref b1), .val (.ref b22), .val (.ref r125), .val (.ref r142), .val (.ref r160), .val (.int (0 : Int32)), .val (.int (1 : Int32)), .unset, .unset, .unset, .unset, .unset, .unset, .unset, .unset, .unset, .unset, .unset] [])) (fun _ ks_ => XS.istore X496.here hx rfl (hb hby at_101) rfl  (l' := #[.val (.int p0), .val (.int p1), .val (.int p2), .val (.int p3), .val (.int p4), .val (.long q5), .second, .val (.ref b1), .val (.ref b22), .val (.ref r125), .val (.ref r142), .val (.ref r160), .val (.int (0 : Int32)), .val (.int (1 : Int32)), .unset, .unset, .unset, .unset, .unset, .unset, .unset, .unset, .unset, .unset, .unset]) rfl ks_) ?_
    by_cases hc2 : n1496 = 2
    ·
      refine go (u' := T496.setTop (mkF m 105 #[.val (.int p0), .val (.int p1), .val (.int p2), .val (.int p3), .val (.int p4), .val (.long q5), .second, .val (.ref b1), .val (.ref b22), .val (.ref r125), .val (.ref r142), .val (.ref r160), .val (.int (0 : Int32)), .val (.int (1 : Int32)), .unset, .unset, .unset, .unset, .unset, .unset, .unset, .unset, .unset, .unset, .unset] [(.ref b1)])) (fun _ ks_ => XS.aload X496.here hx rfl (hb hby at_103) rfl rfl ks_) ?_
      refine go (u' := T496.setTop (mkF m 107 #[.val (.int p0), .val (.int p1), .val (.int p2), .val (.int p3), .val (.int p4), .val (.long q5), .second, .val (.ref b1), .val (.ref b22), .val (.ref r125), .val (.ref r142), .val (.ref r160), .val (.int (0 : Int32)), .val (.int (1 : Int32)), .unset, .unset, .unset, .unset, .unset, .unset, .unset, .unset, .unset, .unset, .unset] [(.ref b22), (.ref b1)])) (fun _ ks_ => XS.aload X496.here hx rfl (hb hby at_105) rfl rfl ks_) ?_
      refine go (u' := T496.setTop (mkF m 108 #[.val (.int p0), .val (.int p1), .val (.int p2), .val (.int p3), .val (.int p4), .val (.long q5), .second, .val (.ref b1), .val (.ref b22), .val (.ref r125), .val (.ref r142), .val (.ref r160), .val (.int (0 : Int32)), .val (.int (1 : Int32)), .unset, .unset, .unset, .unset, .unset, .unset, .unset, .unset, .unset, .unset, .unset] [(.int (2 : Int32)), (.ref b22), (.ref b1)])) (fun _ ks_ => XS.iconst X496.here hx rfl (hb hby at_107) ks_) ?_
      refine go (u' := T496.setTop (mkF m 109 #[.val (.int p0), .val (.int p1), .val (.int p2), .val (.int p3), .val (.int p4), .val (.long q5), .second, .val (.ref b1), .val (.ref b22), .val (.ref r125), .val (.ref r142), .val (.ref r160), .val (.int (0 : Int32)), .val (.int (1 : Int32)), .unset, .unset, .unset, .unset, .unset, .unset, .unset, .unset, .unset, .unset, .unset] [(.ref r92), (.ref b1)])) (own_aaload X496 hx hZ (rfl : T496.heap = _) Fa507 rfl (j := (2 : Int32)) (v := (.ref r92)) (by decide) (by decide) own_oad2 (f := (mkF m 108 #[.val (.int p0), .val (.int p1), .val (.int p2), .val (.int p3), .val (.int p4), .val (.long q5), .second, .val (.ref b1), .val (.ref b22), .val (.ref r125), .val (.ref r142), .val (.ref r160), .val (.int (0 : Int32)), .val (.int (1 : Int32)), .unset, .unset, .unset, .unset, .unset, .unset, .unset, .unset, .unset, .unset, .unset] [(.int (2 : Int32)), (.ref b22), (.ref b1)])) rfl rfl (hb hby at_108)) ?_
      obtain ⟨cq517, kq517, q517a, q517b, q517c⟩ := isOf hZ (rfl : T496.heap = _) Fa497
      obtain ⟨_, _, ⟨T517, L517, k517, n517⟩, -, X517, ⟨Lc517, hQ517, l517, y517, z517⟩, st517⟩ := X496.virtualBack hx (y := (⟨"com/example/emberlot/emberlot/Slots", "add", "(Ljava/lang/Object;)I"⟩ : MethodName)) (z := (⟨"com/example/emberlot/emberlot/Slots", "add", "(Ljava/lang/Object;)I"⟩ : MethodName)) hown (mvT hZ (ww hw 58 rfl)) (mvT hZ (ww hw 59 rfl)) (notFace_of_selects (args := #[]) (mvT hZ (ww hw 61 rfl))) (mvT hZ (ww hw 61 rfl)) (mvT hZ (ww hw 60 rfl)) (by decide) (backOf (W := 0) (rm8 l Z a0 hw [] b1 r92 na1496 pa10 xa10 ca10 af1496 fa.toNatClampNeg n1496 ln1496 nd1496 gs1496 E10 (-1 : Int32) (2 : Int32) mr T496.heap n0 Z496 Fa497 Fa498 Fa499 Fa500 Fa501 Fa502 Fa503 Fa515 Fa505 Fa511 add_496.2.1 rfl (own_tk2 hc2).1 (own_tk2 hc2).2 hE_10 hM) hZ (ww hw 62 rfl) (ww hw 2 rfl) (by decide) (by decide)) q517a q517c (g := (mkF m 109 #[.val (.int p0), .val (.int p1), .val (.int p2), .val (.int p3), .val (.int p4), .val (.long q5), .second, .val (.ref b1), .val (.ref b22), .val (.ref r125), .val (.ref r142), .val (.ref r160), .val (.int (0 : Int32)), .val (.int (1 : Int32)), .unset, .unset, .unset, .unset, .unset, .unset, .unset, .unset, .unset, .unset, .unset] [(.ref r92), (.ref b1)])) rfl (by rw [hml]; rfl) (Steps.refl _) (argsL := [(.ref r92)]) (rest := []) (lenOf pd__40_Ljava_47_lang_47_Object_59__41_I rfl) rfl (by show 2 * 0 + _ ≤ _; exact Nat.le_of_eq rfl) (hb hby at_109) (fun _ _ => ⟨rfl, (rfl : T496.heap = _), (by decide : 34 + 10 ≤ _), (by decide : 188 + 160 ≤ _)⟩)
      dsimp only [Pt.U, Pt.locs, Pt.cells, Pt.slots] at X517 l517 y517 z517 st517 hQ517
      subst l517 y517 z517
      obtain ⟨na1517, af1517, n1517, ln1517, nd1517, gs1517, rfl, N517q, Kq517, Fa518, Fa519, Fa520, Fa521, Fa522, Fa523, Fa524, Fa525, Fa526, sub_517, add_517, gx_517⟩ := hQ517
      have N517 := Fr.app N496 N517q
      have K517 : Keep h0 T517.heap [] := K496.trans Kq517 (own_WlLo Fa505 hn0)
      have Z517 : n0 ≤ T517.heap.size := Nat.le_trans Z496 Kq517.1
      have Fa527 : Exa Z T517.heap b1 "com/example/emberlot/emberlot/Slots" := Fa497.keep Kq517
      have Fa528 : PR Z T517.heap b22 (.object "java/lang/Object") "java/lang/Object" 3 (fun u => Value.ref (oad r34 r62 r92 u)) := Fa507.keep Kq517 (own_nW hno516)
      have Fa529 : Exa Z T517.heap b22 "[Ljava/lang/Object;" := Fa508.keep Kq517
      have Fa530 : Exa Z T517.heap r34 "java/lang/Integer" := Fa509.keep Kq517
      have Fa531 : Exa Z T517.heap r62 "java/lang/Integer" := Fa510.keep Kq517
      have Fa532 : Exa Z T517.heap r92 "java/lang/Integer" := Fa511.keep Kq517
      have Fa533 : Exa Z T517.heap r125 "java/lang/Integer" := Fa512.keep Kq517
      have Fa534 : Exa Z T517.heap r142 "java/lang/Integer" := Fa513.keep Kq517
      have Fa535 : Exa Z T517.heap r160 "java/lang/Integer" := Fa514.keep Kq517
      refine goT (u' := T517.setTop (mkF m 112 #[.val (.int p0), .val (.int p1), .val (.int p2), .val (.int p3), .val (.int p4), .val (.long q5), .second, .val (.ref b1), .val (.ref b22), .val (.ref r125), .val (.ref r142), .val (.ref r160), .val (.int (0 : Int32)), .val (.int (1 : Int32)), .unset, .unset, .unset, .unset, .unset, .unset, .unset, .unset, .unset, .unset, .unset] [(.int (2 : Int32))])) st517 ?_
      have Fa536 : Fld Z T517.heap b1 "com/example/emberlot/emberlot/Slots" "taken" "I" (.int (3 : Int32)) := own_Fto Fa525 (congrArg Value.int (by decide))
      have hno537 : ∀ i, i < 6 + 2 * fa.toNatClampNeg → adr b1 na1517 pa10 xa10 ca10 af1517 i ≠ b22 := own_nS hno516 Fa507.lt sub_517
      refine go (u' := T517.setTop (mkF m 114 #[.val (.int p0), .val (.int p1), .val (.int p2), .val (.int p3), .val (.int p4), .val (.long q5), .second, .val (.ref b1), .val (.ref b22), .val (.ref r125), .val (.ref r142), .val (.ref r160), .val (.int (0 : Int32)), .val (.int (1 : Int32)), .val (.int (2 : Int32)), .unset, .unset, .unset, .unset, .unset, .unset, .unset, .unset, .unset, .unset] [])) (fun _ ks_ => XS.istore X517.here hx rfl (hb hby at_112) rfl  (l' := #[.val (.int p0), .val (.int p1), .val (.int p2), .val (.int p3), .val (.int p4), .val (.long q5), .second, .val (.ref b1), .val (.ref b22), .val (.ref r125), .val (.ref r142), .val (.ref r160), .val (.int (0 : Int32)), .val (.int (1 : Int32)), .val (.int (2 : Int32)), .unset, .unset, .unset, .unset, .unset, .unset, .unset, .unset, .unset, .unset]) rfl ks_) ?_
      exact C114_1 na1517 af1517 n1517 ln1517 nd1517 gs1517 _ _ _ X517 (rfl : T517.heap = _) N517 Z517 K517 Fa518 Fa528 Fa529 Fa530 Fa531 Fa532 Fa533 Fa534 Fa535 Fa519 Fa520 Fa521 Fa522 Fa523 Fa524 Fa536 Fa526 (own_law3 add_179 add_496 add_517) hno537
    ·
      have hd2 : 2 < n1496 ∧ n1496 ≤ 16 := own_ln2 add_496.1 hc2
      refine go (u' := T496.setTop (mkF m 105 #[.val (.int p0), .val (.int p1), .val (.int p2), .val (.int p3), .val (.int p4), .val (.long q5), .second, .val (.ref b1), .val (.ref b22), .val (.ref r125), .val (.ref r142), .val (.ref r160), .val (.int (0 : Int32)), .val (.int (1 : Int32)), .unset, .unset, .unset, .unset, .unset, .unset, .unset, .unset, .unset, .unset, .unset] [(.ref b1)])) (fun _ ks_ => XS.aload X496.here hx rfl (hb hby at_103) rfl rfl ks_) ?_
      refine go (u' := T496.setTop (mkF m 107 #[.val (.int p0), .val (.int p1), .val (.int p2), .val (.int p3), .val (.int p4), .val (.long q5), .second, .val (.ref b1), .val (.ref b22), .val (.ref r125), .val (.ref r142), .val (.ref r160), .val (.int (0 : Int32)), .val (.int (1 : Int32)), .unset, .unset, .unset, .unset, .unset, .unset, .unset, .unset, .unset, .unset, .unset] [(.ref b22), (.ref b1)])) (fun _ ks_ => XS.aload X496.here hx rfl (hb hby at_105) rfl rfl ks_) ?_
      refine go (u' := T496.setTop (mkF m 108 #[.val (.int p0), .val (.int p1), .val (.int p2), .val (.int p3), .val (.int p4), .val (.long q5), .second, .val (.ref b1), .val (.ref b22), .val (.ref r125), .val (.ref r142), .val (.ref r160), .val (.int (0 : Int32)), .val (.int (1 : Int32)), .unset, .unset, .unset, .unset, .unset, .unset, .unset, .unset, .unset, .unset, .unset] [(.int (2 : Int32)), (.ref b22), (.ref b1)])) (fun _ ks_ => XS.iconst X496.here hx rfl (hb hby at_107) ks_) ?_
      refine go (u' := T496.setTop (mkF m 109 #[.val (.int p0), .val (.int p1), .val (.int p2), .val (.int p3), .val (.int p4), .val (.long q5), .second, .val (.ref b1), .val (.ref b22), .val (.ref r125), .val (.ref r142), .val (.ref r160), .val (.int (0 : Int32)), .val (.int (1 : Int32)), .unset, .unset, .unset, .unset, .unset, .unset, .unset, .unset, .unset, .unset, .unset] [(.ref r92), (.ref b1)])) (own_aaload X496 hx hZ (rfl : T496.heap = _) Fa507 rfl (j := (2 : Int32)) (v := (.ref r92)) (by decide) (by decide) own_oad2 (f := (mkF m 108 #[.val (.int p0), .val (.int p1), .val (.int p2), .val (.int p3), .val (.int p4), .val (.long q5), .second, .val (.ref b1), .val (.ref b22), .val (.ref r125), .val (.ref r142), .val (.ref r160), .val (.int (0 : Int32)), .val (.int (1 : Int32)), .unset, .unset, .unset, .unset, .unset, .unset, .unset, .unset, .unset, .unset, .unset] [(.int (2 : Int32)), (.ref b22), (.ref b1)])) rfl rfl (hb hby at_108)) ?_
      obtain ⟨cq538, kq538, q538a, q538b, q538c⟩ := isOf hZ (rfl : T496.heap = _) Fa497
      obtain ⟨_, _, ⟨T538, L538, k538, n538⟩, -, X538, ⟨Lc538, hQ538, l538, y538, z538⟩, st538⟩ := X496.virtualBack hx (y := (⟨"com/example/emberlot/emberlot/Slots", "add", "(Ljava/lang/Object;)I"⟩ : MethodName)) (z := (⟨"com/example/emberlot/emberlot/Slots", "add", "(Ljava/lang/Object;)I"⟩ : MethodName)) hown (mvT hZ (ww hw 58 rfl)) (mvT hZ (ww hw 59 rfl)) (notFace_of_selects (args := #[]) (mvT hZ (ww hw 61 rfl))) (mvT hZ (ww hw 61 rfl)) (mvT hZ (ww hw 60 rfl)) (by decide) (backOf (W := 0) (rm8n l Z a0 hw [] b1 r92 na1496 pa10 xa10 ca10 af1496 fa.toNatClampNeg n1496 ln1496 nd1496 gs1496 E10 (-1 : Int32) (2 : Int32) T496.heap n0 Z496 Fa497 Fa498 Fa499 Fa500 Fa501 Fa502 Fa503 Fa515 Fa505 Fa511 add_496.2.1 rfl (own_nt2 hd2).1 (own_nt2 hd2).2 hd2.2) hZ (ww hw 62 rfl) (ww hw 2 rfl) (by decide) (by decide)) q538a q538c (g := (mkF m 109 #[.val (.int p0), .val (.int p1), .val (.int p2), .val (.int p3), .val (.int p4), .val (.long q5), .second, .val (.ref b1), .val (.ref b22), .val (.ref r125), .val (.ref r142), .val (.ref r160), .val (.int (0 : Int32)), .val (.int (1 : Int32)), .unset, .unset, .unset, .unset, .unset, .unset, .unset, .unset, .unset, .unset, .unset] [(.ref r92), (.ref b1)])) rfl (by rw [hml]; rfl) (Steps.refl _) (argsL := [(.ref r92)]) (rest := []) (lenOf pd__40_Ljava_47_lang_47_Object_59__41_I rfl) rfl (by show 2 * 0 + _ ≤ _; exact Nat.le_of_eq rfl) (hb hby at_109) (fun _ _ => ⟨rfl, (rfl : T496.heap = _), (by decide : 34 + 0 ≤ _), (by decide : 188 + 0 ≤ _)⟩)
      dsimp only [Pt.U, Pt.locs, Pt.cells, Pt.slots] at X538 l538 y538 z538 st538 hQ538
      subst l538 y538 z538
      obtain ⟨na1538, af1538, n1538, ln1538, nd1538, gs1538, rfl, N538q, Kq538, Fa539, Fa540, Fa541, Fa542, Fa543, Fa544, Fa545, Fa546, Fa547, sub_538, add_538, gx_538⟩ := hQ538
      have N538 := Fr.app N496 N538q
      have K538 : Keep h0 T538.heap [] := K496.trans Kq538 (own_WlLo Fa505 hn0)
      have Z538 : n0 ≤ T538.heap.size := Nat.le_trans Z496 Kq538.1
      have Fa548 : Exa Z T538.heap b1 "com/example/emberlot/emberlot/Slots" := Fa497.keep Kq538
      have Fa549 : PR Z T538.heap b22 (.object "java/lang/Object") "java/lang/Object" 3 (fun u => Value.ref (oad r34 r62 r92 u)) := Fa507.keep Kq538 (own_nW hno516)
      have Fa550 : Exa Z T538.heap b22 "[Ljava/lang/Object;" := Fa508.keep Kq538
      have Fa551 : Exa Z T538.heap r34 "java/lang/Integer" := Fa509.keep Kq538
      have Fa552 : Exa Z T538.heap r62 "java/lang/Integer" := Fa510.keep Kq538
      have Fa553 : Exa Z T538.heap r92 "java/lang/Integer" := Fa511.keep Kq538
      have Fa554 : Exa Z T538.heap r125 "java/lang/Integer" := Fa512.keep Kq538
      have Fa555 : Exa Z T538.heap r142 "java/lang/Integer" := Fa513.keep Kq538
      have Fa556 : Exa Z T538.heap r160 "java/lang/Integer" := Fa514.keep Kq538
      refine goT (u' := T538.setTop (mkF m 112 #[.val (.int p0), .val (.int p1), .val (.int p2), .val (.int p3), .val (.int p4), .val (.long q5), .second, .val (.ref b1), .val (.ref b22), .val (.ref r125), .val (.ref r142), .val (.ref r160), .val (.int (0 : Int32)), .val (.int (1 : Int32)), .unset, .unset, .unset, .unset, .unset, .unset, .unset, .unset, .unset, .unset, .unset] [(.int (2 : Int32))])) st538 ?_
      have Fa557 : Fld Z T538.heap b1 "com/example/emberlot/emberlot/Slots" "taken" "I" (.int (3 : Int32)) := own_Fto Fa546 (congrArg Value.int (by decide))
      have hno558 : ∀ i, i < 6 + 2 * fa.toNatClampNeg → adr b1 na1538 pa10 xa10 ca10 af1538 i ≠ b22 := own_nS hno516 Fa507.lt sub_538
      refine go (u' := T538.setTop (mkF m 114 #[.val (.int p0), .val (.int p1), .val (.int p2), .val (.int p3), .val (.int p4), .val (.long q5), .second, .val (.ref b1), .val (.ref b22), .val (.ref r125), .val (.ref r142), .val (.ref r160), .val (.int (0 : Int32)), .val (.int (1 : Int32)), .val (.int (2 : Int32)), .unset, .unset, .unset, .unset, .unset, .unset, .unset, .unset, .unset, .unset] [])) (fun _ ks_ => XS.istore X538.here hx rfl (hb hby at_112) rfl  (l' := #[.val (.int p0), .val (.int p1), .val (.int p2), .val (.int p3), .val (.int p4), .val (.long q5), .second, .val (.ref b1), .val (.ref b22), .val (.ref r125), .val (.ref r142), .val (.ref r160), .val (.int (0 : Int32)), .val (.int (1 : Int32)), .val (.int (2 : Int32)), .unset, .unset, .unset, .unset, .unset, .unset, .unset, .unset, .unset, .unset]) rfl ks_) ?_
      exact C114_1 na1538 af1538 n1538 ln1538 nd1538 gs1538 _ _ _ (X538.more (by decide) (by decide)) (rfl : T538.heap = _) N538 Z538 K538 Fa539 Fa549 Fa550 Fa551 Fa552 Fa553 Fa554 Fa555 Fa556 Fa540 Fa541 Fa542 Fa543 Fa544 Fa545 Fa557 Fa547 (own_law3 add_179 add_496 add_538) hno558
set_option maxRecDepth 65536 in
set_option maxHeartbeats 40000000 in
theorem comes_1 {Post : Tables → Env → Array Value → State → Outcome → State → Prop} (hpost : ∀ tb e args s v u, (limb_1_1.after args s (.returned v) u = true ∧ limb_1_2.after args s (.returned v) u = true ∧ True) → FrameEnd s (.returned v) u (Jvm.fieldLocs frame_1_writes args s ++ Jvm.arrayLocs frame_1_arrays args s ++ Jvm.staticLocs frame_1_statics s) 96 512 → Post tb e args s (.returned v) u) :
    ArmFor flags0 classFile x code maxLocals ret World_1 tables_1 room_1 Calls_1 rest_1 Pre_1 Post := by
  intro l hfl _ _ p e ha hc hk s m args below hf hA hF happ hP
  obtain ⟨hcalls, hrest, hpre⟩ := hP
  obtain ⟨-, -, -, hnamed, -, -, -, hat⟩ := (Spec.applies_iff hf).mp happ
  obtain ⟨hg, hn⟩ := and_e (Cond.before_iff.mp (show (Jvm.Cond.and given_1 narrow_1).before args s = true from hpre))
  obtain ⟨hcount, r0⟩ := and_e hg
  obtain ⟨a0, r1⟩ := and_e r0
  obtain ⟨a1, r2⟩ := and_e r1
  obtain ⟨a2, r3⟩ := and_e r2
  obtain ⟨a3, r4⟩ := and_e r3
  obtain ⟨a4, r5⟩ := and_e r4
  obtain ⟨w0, w1, w2, w3, w4, w5, rfl⟩ : ∃ w0 w1 w2 w3 w4 w5 : Value, args = #[w0, w1, w2, w3, w4, w5] := by
    have hs : args.size = 6 := by simpa [Cond.value, given_1] using hcount
    obtain ⟨L⟩ := args
    match L, hs with
    | [w0, w1, w2, w3, w4, w5], _ => exact ⟨w0, w1, w2, w3, w4, w5, rfl⟩
  have hw := fun d (hd : d ∈ tables_1) => atoms_spec (ws := Jvm.Cond.code x code maxLocals ret :: tables_1) hat d (List.mem_cons_of_mem _ hd)
  obtain ⟨hsets, hown0⟩ := atoms_of _ (rest_1_c_eq ▸ (show rest_1_c.before _ s = true from hrest))
  have hfit : Fit s := fun {y c} hc i hi => by
    obtain ⟨ha, rfl⟩ := Array.getElem?_eq_some_iff.mp hc
    have q := List.all_eq_true.mp ((Array.all_eq_true_iff_forall_mem.mp hF) _ (Array.getElem_mem ha)) i (List.mem_range.mpr hi)
    simpa [Array.getElem?_eq_getElem hi] using q
  obtain ⟨x0, e0⟩ := is_v a0
  obtain rfl : w0 = (.int x0) := Option.some.inj e0
  obtain ⟨x1, e1⟩ := is_v a1
  obtain rfl : w1 = (.int x1) := Option.some.inj e1
  obtain ⟨x2, e2⟩ := is_v a2
  obtain rfl : w2 = (.int x2) := Option.some.inj e2
  obtain ⟨x3, e3⟩ := is_v a3
  obtain rfl : w3 = (.int x3) := Option.some.inj e3
  obtain ⟨x4, e4⟩ := is_v a4
  obtain rfl : w4 = (.int x4) := Option.some.inj e4
  obtain ⟨x5, e5⟩ := isL_v r5
  obtain rfl : w5 = (.long x5) := Option.some.inj e5
  obtain ⟨u0, ev0, ft0⟩ := static_fit hfit (hsets _ (List.mem_of_getElem? (i := 0) rfl)) (ty := .int) (by decide)
  obtain ⟨y0, rfl⟩ := fit_I ft0 (Or.inl rfl)
  obtain rfl : y0 = (127 : Int32) := gotT (Cond.eq_ints ev0 (Term.int_eval (127))) (Cond.before_iff.mp (hsets _ (List.mem_of_getElem? (i := 3) rfl)))
  have S0 : Sta s s.heap "java/lang/Integer$IntegerCache" "high" "I" (.int (127 : Int32)) := Sta.start ev0 (Or.inl (hsets _ (List.mem_of_getElem? (i := 1) rfl)))
  obtain ⟨n, o, h1, h2, h3, _, L, rfl, ⟨rfl, N⟩, hq⟩ := rm0 l s _ hw tables_1 x0 x1 x2 x3 x4 x5 s.heap s.heap.size (Nat.le_refl _) S0 rfl (own_mir hcalls.1) p e ha hc hk s m _ below hf ((Spec.applies_iff_loose hf).mp happ).1 ⟨rfl, State.Warmed39.refl s, rfl⟩ trivial
  refine ⟨n, _, h1, h2, h3, hpost _ _ _ _ _ _ ⟨Cond.after_iff.mpr rfl, Cond.after_iff.mpr (eq_i res_at (Term.int_eval (1)) rfl), trivial⟩ ⟨hq.1, hq.2.1, (hq.2.2.sift fun y hy => Or.inr (N y hy)).mono (by decide) (by decide)⟩⟩
theorem main_1_1 : Claimed_1_1 := comes_1 fun _ _ _ _ _ _ h hF => ⟨h.1, hF⟩
theorem main_1_2 : Claimed_1_2 := comes_1 fun _ _ _ _ _ _ h hF => ⟨h.2.1, hF⟩
end Jvm.Pilot.@@N@@
namespace Jvm.Pilot.@@N@@
open Jvm Jvm.ClassFile Sem Op Lib Jvm.Free Jvm.Stand Jvm.Pilot.@@N@@.Jvm.D
/-! MADE BY PROGRAM (witnessworld.py) out of the Statement's table words and the real class files: 21 classes; the members and pool entries that the words name. The judged class is class 1, her method 1. -/
namespace start1
open Jvm.ClassFile
def u (s : String) : CpInfo := .utf8 (stringToUtf16 s)
/-- a pool by its gaps: so many unusable entries, then the entry; so many at the end -/
def gap : Nat → List CpInfo → List CpInfo
  | 0, r => r
  | n + 1, r => .unusable :: gap n r
def poolList (es : List (Nat × CpInfo)) (last : Nat) : List CpInfo := es.foldr (fun e r => gap e.1 (e.2 :: r)) (gap last [])
def pool (es : List (Nat × CpInfo)) (last : Nat) : Array CpInfo := ⟨poolList es last⟩
def fileOf (pool : Array CpInfo) (this : Nat) (attrs : Array Attribute := #[]) (ms : Array MethodInfo := #[]) (fl : Nat := 33) (sup : Nat := 0) (ifs : Array Nat := #[]) (fds : Array FieldInfo := #[]) : ClassFile where
  minorVersion := 0
  majorVersion := 65
  constantPool := pool
  accessFlags := fl
  thisClass := this
  superClass := sup
  interfaces := ifs
  fields := fds
  methods := ms
  attributes := attrs
def plain (name : String) (sup : Option ClassId) : Class where
  name := name
  kind := .ordinary
  loader := none
  accessFlags := 33
  super := sup
  interfaces := #[]
  cf := none
  fields := #[]
  methods := #[]
  instanceTypes := #[]
  staticTypes := #[]
  resolved := #[]
  callSites := []
  init := .initialized
  statics := none
  mirror := none

def pool0 : Array CpInfo := pool [(5, u "<init>"), (0, u "()V"), (1, .class_ 10), (1, u "java/lang/Object"), (0, u "getClass"), (0, u "()Ljava/lang/Class;")] 111

def k0c0 : Code := { maxStack := 0, maxLocals := 1, code := object_method_1_code, exceptionTable := #[], attributes := #[] }
def k0m0 : Method := { name := "<init>", desc := "()V", sig := { parameters := [], returnType := none }, accessFlags := 1, code := some k0c0 }
def k0m1 : Method := { name := "getClass", desc := "()Ljava/lang/Class;", sig := { parameters := [], returnType := some (.object "java/lang/Class") }, accessFlags := 273, code := none }
/-- java/lang/Object -/
def k0 : Class := { plain "java/lang/Object" none with
  accessFlags := 33
  interfaces := #[]
  cf := some (fileOf pool0 8 #[] #[{ accessFlags := 1, nameIndex := 5, descriptorIndex := 6, attributes := #[] }, { accessFlags := 273, nameIndex := 11, descriptorIndex := 12, attributes := #[] }] 33 0 #[] #[])
  fields := #[]
  methods := #[k0m0, k0m1]
  instanceTypes := #[]
  staticTypes := #[]
  resolved := Array.replicate 124 none
  statics := none }

def pool1 : Array CpInfo := pool [(2, .class_ 4), (1, u "java/lang/Object"), (0, u "<init>"), (0, u "()V"), (0, .class_ 8), (0, u "com/example/emberlot/emberlot/Slots"), (2, .long 9223372036854775807), (1, .methodref 7 14), (0, .nameAndType 5 15), (0, u "(IIJ)V"), (0, .methodref 17 18), (0, .class_ 19), (0, .nameAndType 20 21), (0, u "java/lang/Integer"), (0, u "valueOf"), (0, u "(I)Ljava/lang/Integer;"), (0, .methodref 7 23), (0, .nameAndType 24 25), (0, u "add"), (0, u "(Ljava/lang/Object;)I"), (0, .integer 2147483647), (0, .methodref 7 28), (0, .nameAndType 29 30), (0, u "set"), (0, u "(III)V"), (0, .methodref 7 32), (0, .nameAndType 33 34), (0, u "remove"), (0, u "(I)V"), (0, .methodref 7 36), (0, .nameAndType 37 38), (0, u "node"), (0, u "(I)Ljava/lang/Object;"), (0, .methodref 7 40), (0, .nameAndType 41 42), (0, u "get"), (0, u "(II)I"), (0, .class_ 44), (0, u "com/example/emberlot/emberlot/SlotsRemovePinLaw"), (2, u "law"), (0, u "(IIIIIJ)Z")] 5

def k1m0 : Method := { name := "<init>", desc := "()V", sig := { parameters := [], returnType := none }, accessFlags := 1, code := none }
def k1c1 : Code := { maxStack := 8, maxLocals := 25, code := code, exceptionTable := #[], attributes := #[] }
def k1m1 : Method := { name := "law", desc := "(IIIIIJ)Z", sig := { parameters := [.int, .int, .int, .int, .int, .long], returnType := some .boolean }, accessFlags := 9, code := some k1c1 }
/-- com/example/emberlot/emberlot/SlotsRemovePinLaw -/
def k1 : Class := { plain "com/example/emberlot/emberlot/SlotsRemovePinLaw" (some 0) with
  accessFlags := 49
  interfaces := #[]
  cf := some (fileOf pool1 43 #[] #[{ accessFlags := 1, nameIndex := 5, descriptorIndex := 6, attributes := #[] }, { accessFlags := 9, nameIndex := 47, descriptorIndex := 48, attributes := #[] }] 49 2 #[] #[])
  fields := #[]
  methods := #[k1m0, k1m1]
  instanceTypes := #[]
  staticTypes := #[]
  resolved := Array.replicate 54 none
  statics := none }

def pool2 : Array CpInfo := pool [(3, .methodref 4 5), (0, .class_ 6), (0, .nameAndType 7 8), (0, u "java/lang/Object"), (0, u "<init>"), (0, u "()V"), (0, .fieldref 10 11), (0, .class_ 12), (0, .nameAndType 13 14), (0, u "com/example/emberlot/emberlot/Slots"), (0, u "nodes"), (0, u "[Ljava/lang/Object;"), (0, .fieldref 10 16), (0, .nameAndType 17 18), (0, u "free"), (0, u "I"), (0, .methodref 20 21), (0, .class_ 22), (0, .nameAndType 23 24), (0, u "java/lang/Math"), (0, u "max"), (0, u "(JJ)J"), (0, .long 2147483639), (1, .methodref 20 28), (0, .nameAndType 29 24), (0, u "min"), (0, .fieldref 10 31), (0, .nameAndType 32 18), (0, u "expected"), (0, .class_ 34), (0, u "[[I"), (0, .fieldref 10 36), (0, .nameAndType 37 34), (0, u "previous"), (0, .fieldref 10 39), (0, .nameAndType 40 34), (0, u "next"), (0, .fieldref 10 42), (0, .nameAndType 43 34), (0, u "columns"), (0, .fieldref 10 45), (0, .nameAndType 46 18), (0, u "taken"), (0, .methodref 10 48), (0, .nameAndType 49 8), (0, u "grow"), (0, .long 16), (8, .methodref 60 61), (0, .class_ 62), (0, .nameAndType 63 64), (0, u "java/util/Arrays"), (0, u "copyOf"), (0, u "([Ljava/lang/Object;I)[Ljava/lang/Object;"), (0, .methodref 60 66), (0, .nameAndType 63 67), (0, u "([II)[I"), (0, u "NONE"), (2, u "INITIAL_CAPACITY"), (1, u "MAX_CAPACITY"), (1, u "(IIJ)V"), (2, u "add"), (0, u "(Ljava/lang/Object;)I"), (3, u "remove"), (0, u "(I)V"), (0, u "node"), (0, u "(I)Ljava/lang/Object;"), (1, u "(II)I"), (1, u "(III)V"), (1, u "get"), (0, u "set")] 3

def k2c0 : Code := { maxStack := 5, maxLocals := 5, code := prog_50_method_1_code, exceptionTable := #[], attributes := #[] }
def k2m0 : Method := { name := "<init>", desc := "(IIJ)V", sig := { parameters := [.int, .int, .long], returnType := none }, accessFlags := 0, code := some k2c0 }
def k2c1 : Code := { maxStack := 4, maxLocals := 4, code := prog_50_method_2_code, exceptionTable := #[], attributes := #[] }
def k2m1 : Method := { name := "add", desc := "(Ljava/lang/Object;)I", sig := { parameters := [(.object "java/lang/Object")], returnType := some .int }, accessFlags := 0, code := some k2c1 }
def k2c2 : Code := { maxStack := 3, maxLocals := 2, code := prog_50_method_3_code, exceptionTable := #[], attributes := #[] }
def k2m2 : Method := { name := "remove", desc := "(I)V", sig := { parameters := [.int], returnType := none }, accessFlags := 0, code := some k2c2 }
def k2c3 : Code := { maxStack := 2, maxLocals := 2, code := prog_50_method_4_code, exceptionTable := #[], attributes := #[] }
def k2m3 : Method := { name := "node", desc := "(I)Ljava/lang/Object;", sig := { parameters := [.int], returnType := some (.object "java/lang/Object") }, accessFlags := 0, code := some k2c3 }
def k2c4 : Code := { maxStack := 2, maxLocals := 3, code := prog_50_method_9_code, exceptionTable := #[], attributes := #[] }
def k2m4 : Method := { name := "get", desc := "(II)I", sig := { parameters := [.int, .int], returnType := some .int }, accessFlags := 0, code := some k2c4 }
def k2c5 : Code := { maxStack := 3, maxLocals := 4, code := prog_50_method_10_code, exceptionTable := #[], attributes := #[] }
def k2m5 : Method := { name := "set", desc := "(III)V", sig := { parameters := [.int, .int, .int], returnType := none }, accessFlags := 0, code := some k2c5 }
def k2c6 : Code := { maxStack := 6, maxLocals := 6, code := prog_50_method_11_code, exceptionTable := #[], attributes := #[] }
def k2m6 : Method := { name := "grow", desc := "()V", sig := { parameters := [], returnType := none }, accessFlags := 2, code := some k2c6 }
/-- com/example/emberlot/emberlot/Slots -/
def k2 : Class := { plain "com/example/emberlot/emberlot/Slots" (some 0) with
  accessFlags := 48
  interfaces := #[]
  cf := some (fileOf pool2 10 #[] #[{ accessFlags := 0, nameIndex := 7, descriptorIndex := 75, attributes := #[] }, { accessFlags := 0, nameIndex := 78, descriptorIndex := 79, attributes := #[] }, { accessFlags := 0, nameIndex := 83, descriptorIndex := 84, attributes := #[] }, { accessFlags := 0, nameIndex := 85, descriptorIndex := 86, attributes := #[] }, { accessFlags := 0, nameIndex := 92, descriptorIndex := 88, attributes := #[] }, { accessFlags := 0, nameIndex := 93, descriptorIndex := 90, attributes := #[] }, { accessFlags := 2, nameIndex := 49, descriptorIndex := 8, attributes := #[] }] 48 4 #[] #[{ accessFlags := 24, nameIndex := 68, descriptorIndex := 18, attributes := #[] }, { accessFlags := 26, nameIndex := 71, descriptorIndex := 18, attributes := #[] }, { accessFlags := 26, nameIndex := 73, descriptorIndex := 18, attributes := #[] }, { accessFlags := 18, nameIndex := 32, descriptorIndex := 18, attributes := #[] }, { accessFlags := 2, nameIndex := 13, descriptorIndex := 14, attributes := #[] }, { accessFlags := 18, nameIndex := 37, descriptorIndex := 34, attributes := #[] }, { accessFlags := 18, nameIndex := 40, descriptorIndex := 34, attributes := #[] }, { accessFlags := 18, nameIndex := 43, descriptorIndex := 34, attributes := #[] }, { accessFlags := 2, nameIndex := 17, descriptorIndex := 18, attributes := #[] }, { accessFlags := 2, nameIndex := 46, descriptorIndex := 18, attributes := #[] }])
  fields := #[{ name := "NONE", type := .int, accessFlags := 24, slot := 0, constantValue := 0 }, { name := "INITIAL_CAPACITY", type := .int, accessFlags := 26, slot := 1, constantValue := 0 }, { name := "MAX_CAPACITY", type := .int, accessFlags := 26, slot := 2, constantValue := 0 }, { name := "expected", type := .int, accessFlags := 18, slot := 0, constantValue := 0 }, { name := "nodes", type := (.array (.object "java/lang/Object")), accessFlags := 2, slot := 1, constantValue := 0 }, { name := "previous", type := (.array (.array .int)), accessFlags := 18, slot := 2, constantValue := 0 }, { name := "next", type := (.array (.array .int)), accessFlags := 18, slot := 3, constantValue := 0 }, { name := "columns", type := (.array (.array .int)), accessFlags := 18, slot := 4, constantValue := 0 }, { name := "free", type := .int, accessFlags := 2, slot := 5, constantValue := 0 }, { name := "taken", type := .int, accessFlags := 2, slot := 6, constantValue := 0 }]
  methods := #[k2m0, k2m1, k2m2, k2m3, k2m4, k2m5, k2m6]
  instanceTypes := #[.int, (.array (.object "java/lang/Object")), (.array (.array .int)), (.array (.array .int)), (.array (.array .int)), .int, .int]
  staticTypes := #[.int, .int, .int]
  resolved := Array.replicate 97 none
  statics := none }

def pool3 : Array CpInfo := pool [(1, .class_ 2), (0, u "java/lang/Math"), (1, .class_ 6), (1, u "java/lang/Object"), (0, u "<init>"), (0, u "()V"), (89, .class_ 100), (1, u "java/lang/Math$RandomNumberGeneratorHolder"), (20, u "(JJ)J"), (50, u "negativeZeroFloatBits"), (0, u "J"), (2, u "negativeZeroDoubleBits"), (21, u "max"), (2, u "min"), (43, u "$assertionsDisabled"), (0, u "Z"), (88, u "(II)I"), (2, u "twoToTheDoubleScaleDown"), (0, u "D"), (4, u "twoToTheDoubleScaleUp"), (9, u "E"), (3, u "PI"), (2, u "TAU"), (2, u "DEGREES_TO_RADIANS"), (0, u "RADIANS_TO_DEGREES")] 94

def k3m0 : Method := { name := "<init>", desc := "()V", sig := { parameters := [], returnType := none }, accessFlags := 2, code := none }
def k3c1 : Code := { maxStack := 4, maxLocals := 4, code := jdk_29_method_66_code, exceptionTable := #[], attributes := #[] }
def k3m1 : Method := { name := "max", desc := "(JJ)J", sig := { parameters := [.long, .long], returnType := some .long }, accessFlags := 9, code := some k3c1 }
def k3c2 : Code := { maxStack := 2, maxLocals := 2, code := jdk_29_method_69_code, exceptionTable := #[], attributes := #[] }
def k3m2 : Method := { name := "min", desc := "(II)I", sig := { parameters := [.int, .int], returnType := some .int }, accessFlags := 9, code := some k3c2 }
def k3c3 : Code := { maxStack := 4, maxLocals := 4, code := jdk_29_method_70_code, exceptionTable := #[], attributes := #[] }
def k3m3 : Method := { name := "min", desc := "(JJ)J", sig := { parameters := [.long, .long], returnType := some .long }, accessFlags := 9, code := some k3c3 }
/-- java/lang/Math -/
def k3 : Class := { plain "java/lang/Math" (some 0) with
  accessFlags := 49
  interfaces := #[]
  cf := some (fileOf pool3 1 #[.nestMembers #[98]] #[{ accessFlags := 2, nameIndex := 7, descriptorIndex := 8, attributes := #[] }, { accessFlags := 9, nameIndex := 198, descriptorIndex := 121, attributes := #[] }, { accessFlags := 9, nameIndex := 201, descriptorIndex := 335, attributes := #[] }, { accessFlags := 9, nameIndex := 201, descriptorIndex := 121, attributes := #[] }] 49 4 #[] #[{ accessFlags := 25, nameIndex := 354, descriptorIndex := 339, attributes := #[] }, { accessFlags := 25, nameIndex := 358, descriptorIndex := 339, attributes := #[] }, { accessFlags := 25, nameIndex := 361, descriptorIndex := 339, attributes := #[] }, { accessFlags := 26, nameIndex := 364, descriptorIndex := 339, attributes := #[] }, { accessFlags := 26, nameIndex := 365, descriptorIndex := 339, attributes := #[] }, { accessFlags := 26, nameIndex := 172, descriptorIndex := 173, attributes := #[] }, { accessFlags := 26, nameIndex := 176, descriptorIndex := 173, attributes := #[] }, { accessFlags := 8, nameIndex := 344, descriptorIndex := 339, attributes := #[] }, { accessFlags := 8, nameIndex := 338, descriptorIndex := 339, attributes := #[] }, { accessFlags := 4120, nameIndex := 245, descriptorIndex := 246, attributes := #[] }])
  fields := #[{ name := "E", type := .double, accessFlags := 25, slot := 0, constantValue := 0 }, { name := "PI", type := .double, accessFlags := 25, slot := 1, constantValue := 0 }, { name := "TAU", type := .double, accessFlags := 25, slot := 2, constantValue := 0 }, { name := "DEGREES_TO_RADIANS", type := .double, accessFlags := 26, slot := 3, constantValue := 0 }, { name := "RADIANS_TO_DEGREES", type := .double, accessFlags := 26, slot := 4, constantValue := 0 }, { name := "negativeZeroFloatBits", type := .long, accessFlags := 26, slot := 5, constantValue := 0 }, { name := "negativeZeroDoubleBits", type := .long, accessFlags := 26, slot := 6, constantValue := 0 }, { name := "twoToTheDoubleScaleUp", type := .double, accessFlags := 8, slot := 7, constantValue := 0 }, { name := "twoToTheDoubleScaleDown", type := .double, accessFlags := 8, slot := 8, constantValue := 0 }, { name := "$assertionsDisabled", type := .boolean, accessFlags := 4120, slot := 9, constantValue := 0 }]
  methods := #[k3m0, k3m1, k3m2, k3m3]
  instanceTypes := #[]
  staticTypes := #[.double, .double, .double, .double, .double, .long, .long, .double, .double, .boolean]
  resolved := Array.replicate 460 none
  statics := none }

def pool4 : Array CpInfo := pool [(1, .class_ 2), (0, u "java/io/Serializable"), (0, .class_ 4), (0, u "java/lang/Object")] 2

/-- java/io/Serializable -/
def k4 : Class := { plain "java/io/Serializable" (some 0) with
  accessFlags := 1537
  interfaces := #[]
  cf := some (fileOf pool4 1 #[] #[] 1537 3 #[] #[])
  fields := #[]
  methods := #[]
  instanceTypes := #[]
  staticTypes := #[]
  resolved := Array.replicate 7 none
  statics := none }

def pool5 : Array CpInfo := pool [(1, .methodref 2 3), (0, .class_ 4), (0, .nameAndType 5 6), (0, u "java/lang/Object"), (0, u "<init>"), (0, u "()V"), (1, .class_ 10), (1, u "java/lang/Number"), (2, .class_ 14), (0, u "java/io/Serializable"), (0, u "serialVersionUID"), (0, u "J")] 20

def k5c0 : Code := { maxStack := 1, maxLocals := 1, code := jdk_18_method_1_code, exceptionTable := #[], attributes := #[] }
def k5m0 : Method := { name := "<init>", desc := "()V", sig := { parameters := [], returnType := none }, accessFlags := 1, code := some k5c0 }
/-- java/lang/Number -/
def k5 : Class := { plain "java/lang/Number" (some 0) with
  accessFlags := 1057
  interfaces := #[4]
  cf := some (fileOf pool5 8 #[] #[{ accessFlags := 1, nameIndex := 5, descriptorIndex := 6, attributes := #[] }] 1057 2 #[13] #[{ accessFlags := 26, nameIndex := 15, descriptorIndex := 16, attributes := #[] }])
  fields := #[{ name := "serialVersionUID", type := .long, accessFlags := 26, slot := 0, constantValue := 0 }]
  methods := #[k5m0]
  instanceTypes := #[]
  staticTypes := #[.long]
  resolved := Array.replicate 37 none
  statics := none }

def pool6 : Array CpInfo := pool [(1, .class_ 2), (0, u "java/lang/Comparable"), (0, .class_ 4), (0, u "java/lang/Object")] 7

/-- java/lang/Comparable -/
def k6 : Class := { plain "java/lang/Comparable" (some 0) with
  accessFlags := 1537
  interfaces := #[]
  cf := some (fileOf pool6 1 #[] #[] 1537 3 #[] #[])
  fields := #[]
  methods := #[]
  instanceTypes := #[]
  staticTypes := #[]
  resolved := Array.replicate 12 none
  statics := none }

def pool7 : Array CpInfo := pool [(1, .class_ 2), (0, u "java/lang/constant/Constable"), (0, .class_ 4), (0, u "java/lang/Object")] 6

/-- java/lang/constant/Constable -/
def k7 : Class := { plain "java/lang/constant/Constable" (some 0) with
  accessFlags := 1537
  interfaces := #[]
  cf := some (fileOf pool7 1 #[] #[] 1537 3 #[] #[])
  fields := #[]
  methods := #[]
  instanceTypes := #[]
  staticTypes := #[]
  resolved := Array.replicate 11 none
  statics := none }

def pool8 : Array CpInfo := pool [(1, .class_ 2), (0, u "java/lang/constant/ConstantDesc"), (0, .class_ 4), (0, u "java/lang/Object")] 32

/-- java/lang/constant/ConstantDesc -/
def k8 : Class := { plain "java/lang/constant/ConstantDesc" (some 0) with
  accessFlags := 1537
  interfaces := #[]
  cf := some (fileOf pool8 1 #[] #[] 1537 3 #[] #[])
  fields := #[]
  methods := #[]
  instanceTypes := #[]
  staticTypes := #[]
  resolved := Array.replicate 37 none
  statics := none }

def pool9 : Array CpInfo := pool [(1, .class_ 2), (0, u "java/lang/Integer"), (16, u "digits"), (0, u "[C"), (46, u "<init>"), (17, u "DigitOnes"), (0, u "[B"), (2, u "DigitTens"), (10, .nameAndType 67 101), (0, u "()V"), (85, u "valueOf"), (0, u "(I)Ljava/lang/Integer;"), (0, .class_ 190), (0, u "java/lang/Integer$IntegerCache"), (0, .fieldref 189 192), (0, .nameAndType 193 194), (0, u "high"), (0, u "I"), (4, .methodref 1 200), (0, .nameAndType 67 201), (0, u "(I)V"), (0, .methodref 203 100), (0, .class_ 204), (0, u "java/lang/Number"), (0, .fieldref 1 206), (0, .nameAndType 207 194), (0, u "value"), (94, u "TYPE"), (0, u "Ljava/lang/Class;"), (0, .class_ 305), (0, u "java/lang/Comparable"), (0, .class_ 307), (0, u "java/lang/constant/Constable"), (0, .class_ 309), (0, u "java/lang/constant/ConstantDesc"), (0, u "MIN_VALUE"), (1, u "MAX_VALUE"), (3, u "SIZE"), (1, u "BYTES"), (1, u "serialVersionUID"), (0, u "J")] 131

def k9c0 : Code := { maxStack := 3, maxLocals := 1, code := jdk_33_method_22_code, exceptionTable := #[], attributes := #[] }
def k9m0 : Method := { name := "valueOf", desc := "(I)Ljava/lang/Integer;", sig := { parameters := [.int], returnType := some (.object "java/lang/Integer") }, accessFlags := 9, code := some k9c0 }
def k9c1 : Code := { maxStack := 2, maxLocals := 2, code := jdk_33_method_23_code, exceptionTable := #[], attributes := #[] }
def k9m1 : Method := { name := "<init>", desc := "(I)V", sig := { parameters := [.int], returnType := none }, accessFlags := 1, code := some k9c1 }
/-- java/lang/Integer -/
def k9 : Class := { plain "java/lang/Integer" (some 5) with
  accessFlags := 49
  interfaces := #[6, 7, 8]
  cf := some (fileOf pool9 1 #[.nestMembers #[189]] #[{ accessFlags := 9, nameIndex := 187, descriptorIndex := 188, attributes := #[] }, { accessFlags := 1, nameIndex := 67, descriptorIndex := 201, attributes := #[] }] 49 203 #[304, 306, 308] #[{ accessFlags := 25, nameIndex := 310, descriptorIndex := 194, attributes := #[] }, { accessFlags := 25, nameIndex := 312, descriptorIndex := 194, attributes := #[] }, { accessFlags := 25, nameIndex := 302, descriptorIndex := 303, attributes := #[] }, { accessFlags := 24, nameIndex := 19, descriptorIndex := 20, attributes := #[] }, { accessFlags := 24, nameIndex := 89, descriptorIndex := 86, attributes := #[] }, { accessFlags := 24, nameIndex := 85, descriptorIndex := 86, attributes := #[] }, { accessFlags := 18, nameIndex := 207, descriptorIndex := 194, attributes := #[] }, { accessFlags := 25, nameIndex := 316, descriptorIndex := 194, attributes := #[] }, { accessFlags := 25, nameIndex := 318, descriptorIndex := 194, attributes := #[] }, { accessFlags := 26, nameIndex := 320, descriptorIndex := 321, attributes := #[] }])
  fields := #[{ name := "MIN_VALUE", type := .int, accessFlags := 25, slot := 0, constantValue := 0 }, { name := "MAX_VALUE", type := .int, accessFlags := 25, slot := 1, constantValue := 0 }, { name := "TYPE", type := (.object "java/lang/Class"), accessFlags := 25, slot := 2, constantValue := 0 }, { name := "digits", type := (.array .char), accessFlags := 24, slot := 3, constantValue := 0 }, { name := "DigitTens", type := (.array .byte), accessFlags := 24, slot := 4, constantValue := 0 }, { name := "DigitOnes", type := (.array .byte), accessFlags := 24, slot := 5, constantValue := 0 }, { name := "value", type := .int, accessFlags := 18, slot := 0, constantValue := 0 }, { name := "SIZE", type := .int, accessFlags := 25, slot := 6, constantValue := 0 }, { name := "BYTES", type := .int, accessFlags := 25, slot := 7, constantValue := 0 }, { name := "serialVersionUID", type := .long, accessFlags := 26, slot := 8, constantValue := 0 }]
  methods := #[k9m0, k9m1]
  instanceTypes := #[.int]
  staticTypes := #[.int, .int, (.object "java/lang/Class"), (.array .char), (.array .byte), (.array .byte), .int, .int, .long]
  resolved := Array.replicate 453 none
  statics := none }

def pool10 : Array CpInfo := pool [(2, .class_ 4), (1, u "java/lang/Object"), (0, u "<init>"), (0, u "()V"), (0, .class_ 8), (0, u "java/lang/Integer"), (7, .class_ 18), (1, u "java/lang/Integer$IntegerCache"), (0, u "$assertionsDisabled"), (0, u "Z"), (26, u "high"), (0, u "I"), (8, u "archivedCache"), (0, u "[Ljava/lang/Integer;"), (12, u "cache"), (0, u "low")] 27

def k10m0 : Method := { name := "<init>", desc := "()V", sig := { parameters := [], returnType := none }, accessFlags := 2, code := none }
/-- java/lang/Integer$IntegerCache -/
def k10 : Class := { plain "java/lang/Integer$IntegerCache" (some 0) with
  accessFlags := 48
  interfaces := #[]
  cf := some (fileOf pool10 16 #[.nestHost 7] #[{ accessFlags := 2, nameIndex := 5, descriptorIndex := 6, attributes := #[] }] 48 2 #[] #[{ accessFlags := 24, nameIndex := 72, descriptorIndex := 48, attributes := #[] }, { accessFlags := 24, nameIndex := 47, descriptorIndex := 48, attributes := #[] }, { accessFlags := 24, nameIndex := 71, descriptorIndex := 58, attributes := #[] }, { accessFlags := 8, nameIndex := 57, descriptorIndex := 58, attributes := #[] }, { accessFlags := 4120, nameIndex := 19, descriptorIndex := 20, attributes := #[] }])
  fields := #[{ name := "low", type := .int, accessFlags := 24, slot := 0, constantValue := 0 }, { name := "high", type := .int, accessFlags := 24, slot := 1, constantValue := 0 }, { name := "cache", type := (.array (.object "java/lang/Integer")), accessFlags := 24, slot := 2, constantValue := 0 }, { name := "archivedCache", type := (.array (.object "java/lang/Integer")), accessFlags := 8, slot := 3, constantValue := 0 }, { name := "$assertionsDisabled", type := .boolean, accessFlags := 4120, slot := 4, constantValue := 0 }]
  methods := #[k10m0]
  instanceTypes := #[]
  staticTypes := #[.int, .int, (.array (.object "java/lang/Integer")), (.array (.object "java/lang/Integer")), .boolean]
  resolved := Array.replicate 100 none
  statics := some 0 }

def pool11 : Array CpInfo := pool [(2, .class_ 4), (1, u "java/lang/Object"), (0, u "<init>"), (0, u "()V"), (7, .class_ 16), (1, u "java/util/Arrays"), (57, .class_ 76), (1, u "java/util/Arrays$NaturalOrder"), (9, .methodref 2 87), (0, .nameAndType 88 89), (0, u "getClass"), (0, u "()Ljava/lang/Class;"), (20, .class_ 111), (0, u "[Ljava/lang/Object;"), (1, .class_ 115), (1, u "java/util/Arrays$LegacyMergeSort"), (1, u "Z"), (32, .methodref 151 152), (0, .class_ 153), (0, .nameAndType 154 155), (0, u "java/lang/System"), (0, u "arraycopy"), (0, u "(Ljava/lang/Object;ILjava/lang/Object;II)V"), (144, .methodref 14 301), (0, .nameAndType 302 303), (0, u "copyOf"), (0, u "([Ljava/lang/Object;ILjava/lang/Class;)[Ljava/lang/Object;"), (0, .methodref 305 306), (0, .class_ 307), (0, .nameAndType 308 309), (0, u "java/lang/Math"), (0, u "min"), (0, u "(II)I"), (65, .class_ 376), (0, u "java/util/Arrays$ArrayList"), (68, u "$assertionsDisabled"), (269, u "MIN_ARRAY_SORT_GRAN"), (0, u "I"), (2, u "INSERTIONSORT_THRESHOLD"), (140, u "([Ljava/lang/Object;I)[Ljava/lang/Object;"), (10, u "([II)[I"), (103, .class_ 976), (0, u "java/util/Arrays$ArrayItr")] 52

def k11m0 : Method := { name := "<init>", desc := "()V", sig := { parameters := [], returnType := none }, accessFlags := 2, code := none }
def k11c1 : Code := { maxStack := 3, maxLocals := 2, code := jdk_65_method_119_code, exceptionTable := #[], attributes := #[] }
def k11m1 : Method := { name := "copyOf", desc := "([Ljava/lang/Object;I)[Ljava/lang/Object;", sig := { parameters := [(.array (.object "java/lang/Object")), .int], returnType := some (.array (.object "java/lang/Object")) }, accessFlags := 9, code := some k11c1 }
def k11c2 : Code := { maxStack := 6, maxLocals := 4, code := jdk_65_method_120_code, exceptionTable := #[], attributes := #[] }
def k11m2 : Method := { name := "copyOf", desc := "([Ljava/lang/Object;ILjava/lang/Class;)[Ljava/lang/Object;", sig := { parameters := [(.array (.object "java/lang/Object")), .int, (.object "java/lang/Class")], returnType := some (.array (.object "java/lang/Object")) }, accessFlags := 9, code := some k11c2 }
def k11c3 : Code := { maxStack := 6, maxLocals := 3, code := jdk_65_method_123_code, exceptionTable := #[], attributes := #[] }
def k11m3 : Method := { name := "copyOf", desc := "([II)[I", sig := { parameters := [(.array .int), .int], returnType := some (.array .int) }, accessFlags := 9, code := some k11c3 }
/-- java/util/Arrays -/
def k11 : Class := { plain "java/util/Arrays" (some 0) with
  accessFlags := 49
  interfaces := #[]
  cf := some (fileOf pool11 14 #[.nestMembers #[975, 375, 113, 74]] #[{ accessFlags := 2, nameIndex := 5, descriptorIndex := 6, attributes := #[] }, { accessFlags := 9, nameIndex := 302, descriptorIndex := 860, attributes := #[] }, { accessFlags := 9, nameIndex := 302, descriptorIndex := 303, attributes := #[] }, { accessFlags := 9, nameIndex := 302, descriptorIndex := 871, attributes := #[] }] 49 2 #[] #[{ accessFlags := 26, nameIndex := 715, descriptorIndex := 716, attributes := #[] }, { accessFlags := 26, nameIndex := 719, descriptorIndex := 716, attributes := #[] }, { accessFlags := 4120, nameIndex := 445, descriptorIndex := 117, attributes := #[] }])
  fields := #[{ name := "MIN_ARRAY_SORT_GRAN", type := .int, accessFlags := 26, slot := 0, constantValue := 0 }, { name := "INSERTIONSORT_THRESHOLD", type := .int, accessFlags := 26, slot := 1, constantValue := 0 }, { name := "$assertionsDisabled", type := .boolean, accessFlags := 4120, slot := 2, constantValue := 0 }]
  methods := #[k11m0, k11m1, k11m2, k11m3]
  instanceTypes := #[]
  staticTypes := #[.int, .int, .boolean]
  resolved := Array.replicate 1029 none
  statics := none }

def pool12 : Array CpInfo := pool [(2, .class_ 4), (1, u "java/lang/Object"), (0, u "<init>"), (0, u "()V"), (1, .class_ 10), (1, u "java/lang/System"), (0, u "allowSecurityManager"), (0, u "I"), (16, u "cons"), (0, u "Ljava/io/Console;"), (77, .class_ 110), (1, u "java/lang/System$CallersHolder"), (43, u "initialErrStream"), (0, u "Ljava/io/PrintStream;"), (19, u "security"), (0, u "Ljava/lang/SecurityManager;"), (31, .class_ 209), (0, u "java/lang/System$1"), (7, u "props"), (0, u "Ljava/util/Properties;"), (2, u "lineSeparator"), (0, u "Ljava/lang/String;"), (96, .class_ 321), (1, u "java/lang/System$LoggerFinder"), (5, .class_ 328), (0, u "java/lang/System$Logger"), (67, u "err"), (2, u "out"), (91, u "notSupportedJnuEncoding"), (15, u "in"), (17, u "initialIn"), (0, u "Ljava/io/InputStream;"), (35, u "bootLayer"), (0, u "Ljava/lang/ModuleLayer;"), (99, .class_ 664), (0, u "java/lang/System$2"), (9, u "NEVER"), (2, u "MAYBE"), (49, u "arraycopy"), (0, u "(Ljava/lang/Object;ILjava/lang/Object;II)V"), (72, .class_ 802), (0, u "java/lang/System$Logger$Level")] 31

def k12m0 : Method := { name := "<init>", desc := "()V", sig := { parameters := [], returnType := none }, accessFlags := 2, code := none }
def k12m1 : Method := { name := "arraycopy", desc := "(Ljava/lang/Object;ILjava/lang/Object;II)V", sig := { parameters := [(.object "java/lang/Object"), .int, (.object "java/lang/Object"), .int, .int], returnType := none }, accessFlags := 265, code := none }
/-- java/lang/System -/
def k12 : Class := { plain "java/lang/System" (some 0) with
  accessFlags := 49
  interfaces := #[]
  cf := some (fileOf pool12 8 #[.nestMembers #[319, 327, 801, 108, 663, 208]] #[{ accessFlags := 2, nameIndex := 5, descriptorIndex := 6, attributes := #[] }, { accessFlags := 265, nameIndex := 727, descriptorIndex := 728, attributes := #[] }] 49 2 #[] #[{ accessFlags := 25, nameIndex := 507, descriptorIndex := 526, attributes := #[] }, { accessFlags := 25, nameIndex := 399, descriptorIndex := 155, attributes := #[] }, { accessFlags := 25, nameIndex := 396, descriptorIndex := 155, attributes := #[] }, { accessFlags := 10, nameIndex := 525, descriptorIndex := 526, attributes := #[] }, { accessFlags := 26, nameIndex := 674, descriptorIndex := 12, attributes := #[] }, { accessFlags := 26, nameIndex := 677, descriptorIndex := 12, attributes := #[] }, { accessFlags := 10, nameIndex := 11, descriptorIndex := 12, attributes := #[] }, { accessFlags := 74, nameIndex := 175, descriptorIndex := 176, attributes := #[] }, { accessFlags := 10, nameIndex := 491, descriptorIndex := 222, attributes := #[] }, { accessFlags := 74, nameIndex := 29, descriptorIndex := 30, attributes := #[] }, { accessFlags := 74, nameIndex := 154, descriptorIndex := 155, attributes := #[] }, { accessFlags := 10, nameIndex := 217, descriptorIndex := 218, attributes := #[] }, { accessFlags := 10, nameIndex := 221, descriptorIndex := 222, attributes := #[] }, { accessFlags := 8, nameIndex := 562, descriptorIndex := 563, attributes := #[] }])
  fields := #[{ name := "in", type := (.object "java/io/InputStream"), accessFlags := 25, slot := 0, constantValue := 0 }, { name := "out", type := (.object "java/io/PrintStream"), accessFlags := 25, slot := 1, constantValue := 0 }, { name := "err", type := (.object "java/io/PrintStream"), accessFlags := 25, slot := 2, constantValue := 0 }, { name := "initialIn", type := (.object "java/io/InputStream"), accessFlags := 10, slot := 3, constantValue := 0 }, { name := "NEVER", type := .int, accessFlags := 26, slot := 4, constantValue := 0 }, { name := "MAYBE", type := .int, accessFlags := 26, slot := 5, constantValue := 0 }, { name := "allowSecurityManager", type := .int, accessFlags := 10, slot := 6, constantValue := 0 }, { name := "security", type := (.object "java/lang/SecurityManager"), accessFlags := 74, slot := 7, constantValue := 0 }, { name := "notSupportedJnuEncoding", type := (.object "java/lang/String"), accessFlags := 10, slot := 8, constantValue := 0 }, { name := "cons", type := (.object "java/io/Console"), accessFlags := 74, slot := 9, constantValue := 0 }, { name := "initialErrStream", type := (.object "java/io/PrintStream"), accessFlags := 74, slot := 10, constantValue := 0 }, { name := "props", type := (.object "java/util/Properties"), accessFlags := 10, slot := 11, constantValue := 0 }, { name := "lineSeparator", type := (.object "java/lang/String"), accessFlags := 10, slot := 12, constantValue := 0 }, { name := "bootLayer", type := (.object "java/lang/ModuleLayer"), accessFlags := 8, slot := 13, constantValue := 0 }]
  methods := #[k12m0, k12m1]
  instanceTypes := #[]
  staticTypes := #[(.object "java/io/InputStream"), (.object "java/io/PrintStream"), (.object "java/io/PrintStream"), (.object "java/io/InputStream"), .int, .int, .int, (.object "java/lang/SecurityManager"), (.object "java/lang/String"), (.object "java/io/Console"), (.object "java/io/PrintStream"), (.object "java/util/Properties"), (.object "java/lang/String"), (.object "java/lang/ModuleLayer")]
  resolved := Array.replicate 834 none
  statics := none }

def pool13 : Array CpInfo := pool [(1, u "java/lang/Class"), (0, .class_ 1), (0, u "java/lang/Object"), (0, .class_ 3)] 0

/-- java/lang/Class -/
def k13 : Class := { plain "java/lang/Class" (some 0) with
  accessFlags := 49
  interfaces := #[]
  cf := some (fileOf pool13 2 #[] #[] 49 4 #[] #[])
  fields := #[]
  methods := #[]
  instanceTypes := #[]
  staticTypes := #[]
  resolved := Array.replicate 5 none
  statics := none }

def pool14 : Array CpInfo := pool [(1, u "java/lang/Cloneable"), (0, .class_ 1), (0, u "java/lang/Object"), (0, .class_ 3)] 3

/-- java/lang/Cloneable -/
def k14 : Class := { plain "java/lang/Cloneable" (some 0) with
  accessFlags := 1537
  interfaces := #[]
  cf := some (fileOf pool14 2 #[] #[] 1537 4 #[] #[])
  fields := #[]
  methods := #[]
  instanceTypes := #[]
  staticTypes := #[]
  resolved := Array.replicate 8 none
  statics := none }

/-- the primitive byte -/
def k15 : Class := { plain "byte" none with kind := .primitive 'B', accessFlags := 0x411 }
/-- [B -/
def k16 : Class := { plain "[B" (some 0) with kind := .array 15 .byte, interfaces := #[14, 4], accessFlags := 1041 }

/-- the primitive int -/
def k17 : Class := { plain "int" none with kind := .primitive 'I', accessFlags := 0x411 }
/-- [I -/
def k18 : Class := { plain "[I" (some 0) with kind := .array 17 .int, interfaces := #[14, 4], accessFlags := 1041 }

/-- [Ljava/lang/Integer; -/
def k19 : Class := { plain "[Ljava/lang/Integer;" (some 0) with kind := .array 9 (.object "java/lang/Integer"), interfaces := #[14, 4], accessFlags := 1041 }

/-- [Ljava/lang/Object; -/
def k20 : Class := { plain "[Ljava/lang/Object;" (some 0) with kind := .array 0 (.object "java/lang/Object"), interfaces := #[14, 4], accessFlags := 1041, mirror := some 1 }

/-- [[I -/
def k21 : Class := { plain "[[I" (some 0) with kind := .array 18 (.array .int), interfaces := #[14, 4], accessFlags := 1041 }
def heap : Heap := #[{ cls := 10, slots := #[.int 0, .int 127, .ref 2, .null, .int 0], vm := .statics 10 },
  { cls := 13, slots := #[], vm := .mirror 20 },
  { cls := 19, slots := #[.ref 3, .ref 4, .ref 5, .ref 6, .ref 7, .ref 8, .ref 9, .ref 10, .ref 11, .ref 12, .ref 13, .ref 14, .ref 15, .ref 16, .ref 17, .ref 18, .ref 19, .ref 20, .ref 21, .ref 22, .ref 23, .ref 24, .ref 25, .ref 26, .ref 27, .ref 28, .ref 29, .ref 30, .ref 31, .ref 32, .ref 33, .ref 34, .ref 35, .ref 36, .ref 37, .ref 38, .ref 39, .ref 40, .ref 41, .ref 42, .ref 43, .ref 44, .ref 45, .ref 46, .ref 47, .ref 48, .ref 49, .ref 50, .ref 51, .ref 52, .ref 53, .ref 54, .ref 55, .ref 56, .ref 57, .ref 58, .ref 59, .ref 60, .ref 61, .ref 62, .ref 63, .ref 64, .ref 65, .ref 66, .ref 67, .ref 68, .ref 69, .ref 70, .ref 71, .ref 72, .ref 73, .ref 74, .ref 75, .ref 76, .ref 77, .ref 78, .ref 79, .ref 80, .ref 81, .ref 82, .ref 83, .ref 84, .ref 85, .ref 86, .ref 87, .ref 88, .ref 89, .ref 90, .ref 91, .ref 92, .ref 93, .ref 94, .ref 95, .ref 96, .ref 97, .ref 98, .ref 99, .ref 100, .ref 101, .ref 102, .ref 103, .ref 104, .ref 105, .ref 106, .ref 107, .ref 108, .ref 109, .ref 110, .ref 111, .ref 112, .ref 113, .ref 114, .ref 115, .ref 116, .ref 117, .ref 118, .ref 119, .ref 120, .ref 121, .ref 122, .ref 123, .ref 124, .ref 125, .ref 126, .ref 127, .ref 128, .ref 129, .ref 130, .ref 131, .ref 132, .ref 133, .ref 134, .ref 135, .ref 136, .ref 137, .ref 138, .ref 139, .ref 140, .ref 141, .ref 142, .ref 143, .ref 144, .ref 145, .ref 146, .ref 147, .ref 148, .ref 149, .ref 150, .ref 151, .ref 152, .ref 153, .ref 154, .ref 155, .ref 156, .ref 157, .ref 158, .ref 159, .ref 160, .ref 161, .ref 162, .ref 163, .ref 164, .ref 165, .ref 166, .ref 167, .ref 168, .ref 169, .ref 170, .ref 171, .ref 172, .ref 173, .ref 174, .ref 175, .ref 176, .ref 177, .ref 178, .ref 179, .ref 180, .ref 181, .ref 182, .ref 183, .ref 184, .ref 185, .ref 186, .ref 187, .ref 188, .ref 189, .ref 190, .ref 191, .ref 192, .ref 193, .ref 194, .ref 195, .ref 196, .ref 197, .ref 198, .ref 199, .ref 200, .ref 201, .ref 202, .ref 203, .ref 204, .ref 205, .ref 206, .ref 207, .ref 208, .ref 209, .ref 210, .ref 211, .ref 212, .ref 213, .ref 214, .ref 215, .ref 216, .ref 217, .ref 218, .ref 219, .ref 220, .ref 221, .ref 222, .ref 223, .ref 224, .ref 225, .ref 226, .ref 227, .ref 228, .ref 229, .ref 230, .ref 231, .ref 232, .ref 233, .ref 234, .ref 235, .ref 236, .ref 237, .ref 238, .ref 239, .ref 240, .ref 241, .ref 242, .ref 243, .ref 244, .ref 245, .ref 246, .ref 247, .ref 248, .ref 249, .ref 250, .ref 251, .ref 252, .ref 253, .ref 254, .ref 255, .ref 256, .ref 257, .ref 258], vm := .none },
  { cls := 9, slots := #[.int (-128)], vm := .none },
  { cls := 9, slots := #[.int (-127)], vm := .none },
  { cls := 9, slots := #[.int (-126)], vm := .none },
  { cls := 9, slots := #[.int (-125)], vm := .none },
  { cls := 9, slots := #[.int (-124)], vm := .none },
  { cls := 9, slots := #[.int (-123)], vm := .none },
  { cls := 9, slots := #[.int (-122)], vm := .none },
  { cls := 9, slots := #[.int (-121)], vm := .none },
  { cls := 9, slots := #[.int (-120)], vm := .none },
  { cls := 9, slots := #[.int (-119)], vm := .none },
  { cls := 9, slots := #[.int (-118)], vm := .none },
  { cls := 9, slots := #[.int (-117)], vm := .none },
  { cls := 9, slots := #[.int (-116)], vm := .none },
  { cls := 9, slots := #[.int (-115)], vm := .none },
  { cls := 9, slots := #[.int (-114)], vm := .none },
  { cls := 9, slots := #[.int (-113)], vm := .none },
  { cls := 9, slots := #[.int (-112)], vm := .none },
  { cls := 9, slots := #[.int (-111)], vm := .none },
  { cls := 9, slots := #[.int (-110)], vm := .none },
  { cls := 9, slots := #[.int (-109)], vm := .none },
  { cls := 9, slots := #[.int (-108)], vm := .none },
  { cls := 9, slots := #[.int (-107)], vm := .none },
  { cls := 9, slots := #[.int (-106)], vm := .none },
  { cls := 9, slots := #[.int (-105)], vm := .none },
  { cls := 9, slots := #[.int (-104)], vm := .none },
  { cls := 9, slots := #[.int (-103)], vm := .none },
  { cls := 9, slots := #[.int (-102)], vm := .none },
  { cls := 9, slots := #[.int (-101)], vm := .none },
  { cls := 9, slots := #[.int (-100)], vm := .none },
  { cls := 9, slots := #[.int (-99)], vm := .none },
  { cls := 9, slots := #[.int (-98)], vm := .none },
  { cls := 9, slots := #[.int (-97)], vm := .none },
  { cls := 9, slots := #[.int (-96)], vm := .none },
  { cls := 9, slots := #[.int (-95)], vm := .none },
  { cls := 9, slots := #[.int (-94)], vm := .none },
  { cls := 9, slots := #[.int (-93)], vm := .none },
  { cls := 9, slots := #[.int (-92)], vm := .none },
  { cls := 9, slots := #[.int (-91)], vm := .none },
  { cls := 9, slots := #[.int (-90)], vm := .none },
  { cls := 9, slots := #[.int (-89)], vm := .none },
  { cls := 9, slots := #[.int (-88)], vm := .none },
  { cls := 9, slots := #[.int (-87)], vm := .none },
  { cls := 9, slots := #[.int (-86)], vm := .none },
  { cls := 9, slots := #[.int (-85)], vm := .none },
  { cls := 9, slots := #[.int (-84)], vm := .none },
  { cls := 9, slots := #[.int (-83)], vm := .none },
  { cls := 9, slots := #[.int (-82)], vm := .none },
  { cls := 9, slots := #[.int (-81)], vm := .none },
  { cls := 9, slots := #[.int (-80)], vm := .none },
  { cls := 9, slots := #[.int (-79)], vm := .none },
  { cls := 9, slots := #[.int (-78)], vm := .none },
  { cls := 9, slots := #[.int (-77)], vm := .none },
  { cls := 9, slots := #[.int (-76)], vm := .none },
  { cls := 9, slots := #[.int (-75)], vm := .none },
  { cls := 9, slots := #[.int (-74)], vm := .none },
  { cls := 9, slots := #[.int (-73)], vm := .none },
  { cls := 9, slots := #[.int (-72)], vm := .none },
  { cls := 9, slots := #[.int (-71)], vm := .none },
  { cls := 9, slots := #[.int (-70)], vm := .none },
  { cls := 9, slots := #[.int (-69)], vm := .none },
  { cls := 9, slots := #[.int (-68)], vm := .none },
  { cls := 9, slots := #[.int (-67)], vm := .none },
  { cls := 9, slots := #[.int (-66)], vm := .none },
  { cls := 9, slots := #[.int (-65)], vm := .none },
  { cls := 9, slots := #[.int (-64)], vm := .none },
  { cls := 9, slots := #[.int (-63)], vm := .none },
  { cls := 9, slots := #[.int (-62)], vm := .none },
  { cls := 9, slots := #[.int (-61)], vm := .none },
  { cls := 9, slots := #[.int (-60)], vm := .none },
  { cls := 9, slots := #[.int (-59)], vm := .none },
  { cls := 9, slots := #[.int (-58)], vm := .none },
  { cls := 9, slots := #[.int (-57)], vm := .none },
  { cls := 9, slots := #[.int (-56)], vm := .none },
  { cls := 9, slots := #[.int (-55)], vm := .none },
  { cls := 9, slots := #[.int (-54)], vm := .none },
  { cls := 9, slots := #[.int (-53)], vm := .none },
  { cls := 9, slots := #[.int (-52)], vm := .none },
  { cls := 9, slots := #[.int (-51)], vm := .none },
  { cls := 9, slots := #[.int (-50)], vm := .none },
  { cls := 9, slots := #[.int (-49)], vm := .none },
  { cls := 9, slots := #[.int (-48)], vm := .none },
  { cls := 9, slots := #[.int (-47)], vm := .none },
  { cls := 9, slots := #[.int (-46)], vm := .none },
  { cls := 9, slots := #[.int (-45)], vm := .none },
  { cls := 9, slots := #[.int (-44)], vm := .none },
  { cls := 9, slots := #[.int (-43)], vm := .none },
  { cls := 9, slots := #[.int (-42)], vm := .none },
  { cls := 9, slots := #[.int (-41)], vm := .none },
  { cls := 9, slots := #[.int (-40)], vm := .none },
  { cls := 9, slots := #[.int (-39)], vm := .none },
  { cls := 9, slots := #[.int (-38)], vm := .none },
  { cls := 9, slots := #[.int (-37)], vm := .none },
  { cls := 9, slots := #[.int (-36)], vm := .none },
  { cls := 9, slots := #[.int (-35)], vm := .none },
  { cls := 9, slots := #[.int (-34)], vm := .none },
  { cls := 9, slots := #[.int (-33)], vm := .none },
  { cls := 9, slots := #[.int (-32)], vm := .none },
  { cls := 9, slots := #[.int (-31)], vm := .none },
  { cls := 9, slots := #[.int (-30)], vm := .none },
  { cls := 9, slots := #[.int (-29)], vm := .none },
  { cls := 9, slots := #[.int (-28)], vm := .none },
  { cls := 9, slots := #[.int (-27)], vm := .none },
  { cls := 9, slots := #[.int (-26)], vm := .none },
  { cls := 9, slots := #[.int (-25)], vm := .none },
  { cls := 9, slots := #[.int (-24)], vm := .none },
  { cls := 9, slots := #[.int (-23)], vm := .none },
  { cls := 9, slots := #[.int (-22)], vm := .none },
  { cls := 9, slots := #[.int (-21)], vm := .none },
  { cls := 9, slots := #[.int (-20)], vm := .none },
  { cls := 9, slots := #[.int (-19)], vm := .none },
  { cls := 9, slots := #[.int (-18)], vm := .none },
  { cls := 9, slots := #[.int (-17)], vm := .none },
  { cls := 9, slots := #[.int (-16)], vm := .none },
  { cls := 9, slots := #[.int (-15)], vm := .none },
  { cls := 9, slots := #[.int (-14)], vm := .none },
  { cls := 9, slots := #[.int (-13)], vm := .none },
  { cls := 9, slots := #[.int (-12)], vm := .none },
  { cls := 9, slots := #[.int (-11)], vm := .none },
  { cls := 9, slots := #[.int (-10)], vm := .none },
  { cls := 9, slots := #[.int (-9)], vm := .none },
  { cls := 9, slots := #[.int (-8)], vm := .none },
  { cls := 9, slots := #[.int (-7)], vm := .none },
  { cls := 9, slots := #[.int (-6)], vm := .none },
  { cls := 9, slots := #[.int (-5)], vm := .none },
  { cls := 9, slots := #[.int (-4)], vm := .none },
  { cls := 9, slots := #[.int (-3)], vm := .none },
  { cls := 9, slots := #[.int (-2)], vm := .none },
  { cls := 9, slots := #[.int (-1)], vm := .none },
  { cls := 9, slots := #[.int 0], vm := .none },
  { cls := 9, slots := #[.int 1], vm := .none },
  { cls := 9, slots := #[.int 2], vm := .none },
  { cls := 9, slots := #[.int 3], vm := .none },
  { cls := 9, slots := #[.int 4], vm := .none },
  { cls := 9, slots := #[.int 5], vm := .none },
  { cls := 9, slots := #[.int 6], vm := .none },
  { cls := 9, slots := #[.int 7], vm := .none },
  { cls := 9, slots := #[.int 8], vm := .none },
  { cls := 9, slots := #[.int 9], vm := .none },
  { cls := 9, slots := #[.int 10], vm := .none },
  { cls := 9, slots := #[.int 11], vm := .none },
  { cls := 9, slots := #[.int 12], vm := .none },
  { cls := 9, slots := #[.int 13], vm := .none },
  { cls := 9, slots := #[.int 14], vm := .none },
  { cls := 9, slots := #[.int 15], vm := .none },
  { cls := 9, slots := #[.int 16], vm := .none },
  { cls := 9, slots := #[.int 17], vm := .none },
  { cls := 9, slots := #[.int 18], vm := .none },
  { cls := 9, slots := #[.int 19], vm := .none },
  { cls := 9, slots := #[.int 20], vm := .none },
  { cls := 9, slots := #[.int 21], vm := .none },
  { cls := 9, slots := #[.int 22], vm := .none },
  { cls := 9, slots := #[.int 23], vm := .none },
  { cls := 9, slots := #[.int 24], vm := .none },
  { cls := 9, slots := #[.int 25], vm := .none },
  { cls := 9, slots := #[.int 26], vm := .none },
  { cls := 9, slots := #[.int 27], vm := .none },
  { cls := 9, slots := #[.int 28], vm := .none },
  { cls := 9, slots := #[.int 29], vm := .none },
  { cls := 9, slots := #[.int 30], vm := .none },
  { cls := 9, slots := #[.int 31], vm := .none },
  { cls := 9, slots := #[.int 32], vm := .none },
  { cls := 9, slots := #[.int 33], vm := .none },
  { cls := 9, slots := #[.int 34], vm := .none },
  { cls := 9, slots := #[.int 35], vm := .none },
  { cls := 9, slots := #[.int 36], vm := .none },
  { cls := 9, slots := #[.int 37], vm := .none },
  { cls := 9, slots := #[.int 38], vm := .none },
  { cls := 9, slots := #[.int 39], vm := .none },
  { cls := 9, slots := #[.int 40], vm := .none },
  { cls := 9, slots := #[.int 41], vm := .none },
  { cls := 9, slots := #[.int 42], vm := .none },
  { cls := 9, slots := #[.int 43], vm := .none },
  { cls := 9, slots := #[.int 44], vm := .none },
  { cls := 9, slots := #[.int 45], vm := .none },
  { cls := 9, slots := #[.int 46], vm := .none },
  { cls := 9, slots := #[.int 47], vm := .none },
  { cls := 9, slots := #[.int 48], vm := .none },
  { cls := 9, slots := #[.int 49], vm := .none },
  { cls := 9, slots := #[.int 50], vm := .none },
  { cls := 9, slots := #[.int 51], vm := .none },
  { cls := 9, slots := #[.int 52], vm := .none },
  { cls := 9, slots := #[.int 53], vm := .none },
  { cls := 9, slots := #[.int 54], vm := .none },
  { cls := 9, slots := #[.int 55], vm := .none },
  { cls := 9, slots := #[.int 56], vm := .none },
  { cls := 9, slots := #[.int 57], vm := .none },
  { cls := 9, slots := #[.int 58], vm := .none },
  { cls := 9, slots := #[.int 59], vm := .none },
  { cls := 9, slots := #[.int 60], vm := .none },
  { cls := 9, slots := #[.int 61], vm := .none },
  { cls := 9, slots := #[.int 62], vm := .none },
  { cls := 9, slots := #[.int 63], vm := .none },
  { cls := 9, slots := #[.int 64], vm := .none },
  { cls := 9, slots := #[.int 65], vm := .none },
  { cls := 9, slots := #[.int 66], vm := .none },
  { cls := 9, slots := #[.int 67], vm := .none },
  { cls := 9, slots := #[.int 68], vm := .none },
  { cls := 9, slots := #[.int 69], vm := .none },
  { cls := 9, slots := #[.int 70], vm := .none },
  { cls := 9, slots := #[.int 71], vm := .none },
  { cls := 9, slots := #[.int 72], vm := .none },
  { cls := 9, slots := #[.int 73], vm := .none },
  { cls := 9, slots := #[.int 74], vm := .none },
  { cls := 9, slots := #[.int 75], vm := .none },
  { cls := 9, slots := #[.int 76], vm := .none },
  { cls := 9, slots := #[.int 77], vm := .none },
  { cls := 9, slots := #[.int 78], vm := .none },
  { cls := 9, slots := #[.int 79], vm := .none },
  { cls := 9, slots := #[.int 80], vm := .none },
  { cls := 9, slots := #[.int 81], vm := .none },
  { cls := 9, slots := #[.int 82], vm := .none },
  { cls := 9, slots := #[.int 83], vm := .none },
  { cls := 9, slots := #[.int 84], vm := .none },
  { cls := 9, slots := #[.int 85], vm := .none },
  { cls := 9, slots := #[.int 86], vm := .none },
  { cls := 9, slots := #[.int 87], vm := .none },
  { cls := 9, slots := #[.int 88], vm := .none },
  { cls := 9, slots := #[.int 89], vm := .none },
  { cls := 9, slots := #[.int 90], vm := .none },
  { cls := 9, slots := #[.int 91], vm := .none },
  { cls := 9, slots := #[.int 92], vm := .none },
  { cls := 9, slots := #[.int 93], vm := .none },
  { cls := 9, slots := #[.int 94], vm := .none },
  { cls := 9, slots := #[.int 95], vm := .none },
  { cls := 9, slots := #[.int 96], vm := .none },
  { cls := 9, slots := #[.int 97], vm := .none },
  { cls := 9, slots := #[.int 98], vm := .none },
  { cls := 9, slots := #[.int 99], vm := .none },
  { cls := 9, slots := #[.int 100], vm := .none },
  { cls := 9, slots := #[.int 101], vm := .none },
  { cls := 9, slots := #[.int 102], vm := .none },
  { cls := 9, slots := #[.int 103], vm := .none },
  { cls := 9, slots := #[.int 104], vm := .none },
  { cls := 9, slots := #[.int 105], vm := .none },
  { cls := 9, slots := #[.int 106], vm := .none },
  { cls := 9, slots := #[.int 107], vm := .none },
  { cls := 9, slots := #[.int 108], vm := .none },
  { cls := 9, slots := #[.int 109], vm := .none },
  { cls := 9, slots := #[.int 110], vm := .none },
  { cls := 9, slots := #[.int 111], vm := .none },
  { cls := 9, slots := #[.int 112], vm := .none },
  { cls := 9, slots := #[.int 113], vm := .none },
  { cls := 9, slots := #[.int 114], vm := .none },
  { cls := 9, slots := #[.int 115], vm := .none },
  { cls := 9, slots := #[.int 116], vm := .none },
  { cls := 9, slots := #[.int 117], vm := .none },
  { cls := 9, slots := #[.int 118], vm := .none },
  { cls := 9, slots := #[.int 119], vm := .none },
  { cls := 9, slots := #[.int 120], vm := .none },
  { cls := 9, slots := #[.int 121], vm := .none },
  { cls := 9, slots := #[.int 122], vm := .none },
  { cls := 9, slots := #[.int 123], vm := .none },
  { cls := 9, slots := #[.int 124], vm := .none },
  { cls := 9, slots := #[.int 125], vm := .none },
  { cls := 9, slots := #[.int 126], vm := .none },
  { cls := 9, slots := #[.int 127], vm := .none }]
def classes : Array Class := #[k0, k1, k2, k3, k4, k5, k6, k7, k8, k9, k10, k11, k12, k13, k14, k15, k16, k17, k18, k19, k20, k21]
def interned : List (Array UInt16 × Addr) := []
def slotsUsed : Nat := 517
def theMethod : MethodId := ⟨1, 1⟩
def args0 : Array Value := #[.int 0, .int 3, .int 2, .int 1, .int 0, .long 0]
def aboutOver (below : List Frame) : State where
  vm := { classes := classes, interned := interned.toArray }
  heap := heap
  slotsUsed := slotsUsed
  threads := #[{ frames := .invoking theMethod args0 :: below }]
def below0 : List Frame := [.native { method := ⟨0, 0⟩, args := #[] }]
def about1 : State := aboutOver below0
def p0 : Program := .bare "" "" ""
def e0 : Env := launch0.env 0 0 0
theorem w_frames : about1.frames = Frame.invoking theMethod args0 :: below0 := rfl
set_option maxRecDepth 65536 in
theorem w_args : argsFit about1.vm theMethod args0 = true := by decide +kernel
set_option maxRecDepth 65536 in
theorem w_heap : heapFits about1 = true := by decide +kernel
set_option maxRecDepth 65536 in
theorem w_runnable : about1.curStatus? = some .runnable := by decide +kernel
set_option maxRecDepth 65536 in
theorem w_alone : about1.alone = true := by decide +kernel
set_option maxRecDepth 65536 in
theorem w_named : about1.methodNamed? x = some theMethod := by decide +kernel
set_option maxRecDepth 65536 in
theorem w_hears : about1.hears theMethod below0 = true := by decide +kernel
set_option maxRecDepth 65536 in
theorem w_ripe : about1.ripe theMethod args0 below0 = true := by decide +kernel
theorem w_running : about1.status = .running := rfl
set_option maxRecDepth 65536 in
theorem w_room : about1.hasRoom e0.platform room_1 = true :=
  launch0.hasRoom_least _ room_1 (by decide +kernel) (by decide +kernel) (by decide +kernel) (by decide +kernel) (by decide +kernel) (by decide +kernel)
theorem allAtoms_all (ts : List Jvm.Cond) (a : Array Jvm.Value) (st : Jvm.State) : (allAtoms ts).before a st = ts.all (fun c => c.before a st) := by
  induction ts with
  | nil => rfl
  | cons c t ih =>
    show (Jvm.Cond.and c (allAtoms t)).before a st = _
    rw [Jvm.Cond.before_and, ih, List.all_cons]
def words1 : List Jvm.Cond := Jvm.Cond.code x code maxLocals ret :: tables_1
/-- a 'code' word, met by the world's own term for the bytes: nothing is compared byte by byte -/
theorem code_word {y : MethodName} {bytes : ByteArray} {mx : Nat} {rt : Option FieldType} {a : Array Value} {s : State} {m : MethodId} {meth : Method} {c : Code} (h1 : s.methodNamed? y = some m) (h2 : s.vm.method? m = some meth) (h3 : meth.code = some c) (h4 : c.code = bytes)
    (h5 : (c.maxLocals == mx && c.exceptionTable.isEmpty && decide (c.maxStack ≤ mostOperands) && decide (meth.sig.returnType = rt) && !meth.locks && decide (parseMethodDescriptor y.desc = some meth.sig)) = true) : (Jvm.Cond.code y bytes mx rt).before a s = true := by
  simp only [Bool.and_eq_true, beq_iff_eq, Bool.not_eq_true', decide_eq_true_eq] at h5
  obtain ⟨⟨⟨⟨⟨g1, g2⟩, g3⟩, g4⟩, g5⟩, g6⟩ := h5
  simp [Cond.before, Cond.holds, Cond.value, h1, h2, h3, h4, g1, g2, g3, g4, g5, g6]
def isCode : Jvm.Cond → Bool
  | .code _ _ _ _ => true
  | _ => false
theorem all_split {L : List Jvm.Cond} {P : Jvm.Cond → Bool} (h1 : L.all (fun c => isCode c || P c) = true) (h2 : ∀ c ∈ L.filter isCode, P c = true) : L.all P = true := by
  refine List.all_eq_true.mpr fun c hc => ?_
  have h := List.all_eq_true.mp h1 c hc
  rcases Bool.eq_false_or_eq_true (isCode c) with hi | hi
  · exact h2 c (List.mem_filter.mpr ⟨hc, hi⟩)
  · simpa [hi] using h
set_option maxRecDepth 65536 in
theorem w_c0 : (Jvm.Cond.code x code maxLocals ret).before args0 about1 = true := code_word (m := ⟨1, 1⟩) (meth := k1m1) (c := k1c1) (by decide +kernel) rfl rfl rfl (by decide +kernel)
set_option maxRecDepth 65536 in
theorem w_c1 : (Jvm.Cond.code ({ cls := "com/example/emberlot/emberlot/Slots", name := "<init>", desc := "(IIJ)V" } : Jvm.MethodName) prog_50_method_1_code (5 : Nat) (Option.none : Option Jvm.ClassFile.FieldType)).before args0 about1 = true := code_word (m := ⟨2, 0⟩) (meth := k2m0) (c := k2c0) (by decide +kernel) rfl rfl rfl (by decide +kernel)
set_option maxRecDepth 65536 in
theorem w_c2 : (Jvm.Cond.code ({ cls := "java/lang/Object", name := "<init>", desc := "()V" } : Jvm.MethodName) object_method_1_code (1 : Nat) (Option.none : Option Jvm.ClassFile.FieldType)).before args0 about1 = true := code_word (m := ⟨0, 0⟩) (meth := k0m0) (c := k0c0) (by decide +kernel) rfl rfl rfl (by decide +kernel)
set_option maxRecDepth 65536 in
theorem w_c3 : (Jvm.Cond.code ({ cls := "java/lang/Math", name := "max", desc := "(JJ)J" } : Jvm.MethodName) jdk_29_method_66_code (4 : Nat) (Option.some Jvm.ClassFile.FieldType.long)).before args0 about1 = true := code_word (m := ⟨3, 1⟩) (meth := k3m1) (c := k3c1) (by decide +kernel) rfl rfl rfl (by decide +kernel)
set_option maxRecDepth 65536 in
theorem w_c4 : (Jvm.Cond.code ({ cls := "java/lang/Math", name := "min", desc := "(JJ)J" } : Jvm.MethodName) jdk_29_method_70_code (4 : Nat) (Option.some Jvm.ClassFile.FieldType.long)).before args0 about1 = true := code_word (m := ⟨3, 3⟩) (meth := k3m3) (c := k3c3) (by decide +kernel) rfl rfl rfl (by decide +kernel)
set_option maxRecDepth 65536 in
theorem w_c5 : (Jvm.Cond.code ({ cls := "java/lang/Integer", name := "valueOf", desc := "(I)Ljava/lang/Integer;" } : Jvm.MethodName) jdk_33_method_22_code (1 : Nat) (Option.some (Jvm.ClassFile.FieldType.object "java/lang/Integer"))).before args0 about1 = true := code_word (m := ⟨9, 0⟩) (meth := k9m0) (c := k9c0) (by decide +kernel) rfl rfl rfl (by decide +kernel)
set_option maxRecDepth 65536 in
theorem w_c6 : (Jvm.Cond.code ({ cls := "java/lang/Integer", name := "<init>", desc := "(I)V" } : Jvm.MethodName) jdk_33_method_23_code (2 : Nat) (Option.none : Option Jvm.ClassFile.FieldType)).before args0 about1 = true := code_word (m := ⟨9, 1⟩) (meth := k9m1) (c := k9c1) (by decide +kernel) rfl rfl rfl (by decide +kernel)
set_option maxRecDepth 65536 in
theorem w_c7 : (Jvm.Cond.code ({ cls := "java/lang/Number", name := "<init>", desc := "()V" } : Jvm.MethodName) jdk_18_method_1_code (1 : Nat) (Option.none : Option Jvm.ClassFile.FieldType)).before args0 about1 = true := code_word (m := ⟨5, 0⟩) (meth := k5m0) (c := k5c0) (by decide +kernel) rfl rfl rfl (by decide +kernel)
set_option maxRecDepth 65536 in
theorem w_c8 : (Jvm.Cond.code ({ cls := "com/example/emberlot/emberlot/Slots", name := "add", desc := "(Ljava/lang/Object;)I" } : Jvm.MethodName) prog_50_method_2_code (4 : Nat) (Option.some Jvm.ClassFile.FieldType.int)).before args0 about1 = true := code_word (m := ⟨2, 1⟩) (meth := k2m1) (c := k2c1) (by decide +kernel) rfl rfl rfl (by decide +kernel)
set_option maxRecDepth 65536 in
theorem w_c9 : (Jvm.Cond.code ({ cls := "com/example/emberlot/emberlot/Slots", name := "grow", desc := "()V" } : Jvm.MethodName) prog_50_method_11_code (6 : Nat) (Option.none : Option Jvm.ClassFile.FieldType)).before args0 about1 = true := code_word (m := ⟨2, 6⟩) (meth := k2m6) (c := k2c6) (by decide +kernel) rfl rfl rfl (by decide +kernel)
set_option maxRecDepth 65536 in
theorem w_c10 : (Jvm.Cond.code ({ cls := "java/util/Arrays", name := "copyOf", desc := "([Ljava/lang/Object;I)[Ljava/lang/Object;" } : Jvm.MethodName) jdk_65_method_119_code (2 : Nat) (Option.some (Jvm.ClassFile.FieldType.array (Jvm.ClassFile.FieldType.object "java/lang/Object")))).before args0 about1 = true := code_word (m := ⟨11, 1⟩) (meth := k11m1) (c := k11c1) (by decide +kernel) rfl rfl rfl (by decide +kernel)
set_option maxRecDepth 65536 in
theorem w_c11 : (Jvm.Cond.code ({ cls := "java/util/Arrays", name := "copyOf", desc := "([Ljava/lang/Object;ILjava/lang/Class;)[Ljava/lang/Object;" } : Jvm.MethodName) jdk_65_method_120_code (4 : Nat) (Option.some (Jvm.ClassFile.FieldType.array (Jvm.ClassFile.FieldType.object "java/lang/Object")))).before args0 about1 = true := code_word (m := ⟨11, 2⟩) (meth := k11m2) (c := k11c2) (by decide +kernel) rfl rfl rfl (by decide +kernel)
set_option maxRecDepth 65536 in
theorem w_c12 : (Jvm.Cond.code ({ cls := "java/lang/Math", name := "min", desc := "(II)I" } : Jvm.MethodName) jdk_29_method_69_code (2 : Nat) (Option.some Jvm.ClassFile.FieldType.int)).before args0 about1 = true := code_word (m := ⟨3, 2⟩) (meth := k3m2) (c := k3c2) (by decide +kernel) rfl rfl rfl (by decide +kernel)
set_option maxRecDepth 65536 in
theorem w_c13 : (Jvm.Cond.code ({ cls := "java/util/Arrays", name := "copyOf", desc := "([II)[I" } : Jvm.MethodName) jdk_65_method_123_code (3 : Nat) (Option.some (Jvm.ClassFile.FieldType.array Jvm.ClassFile.FieldType.int))).before args0 about1 = true := code_word (m := ⟨11, 3⟩) (meth := k11m3) (c := k11c3) (by decide +kernel) rfl rfl rfl (by decide +kernel)
set_option maxRecDepth 65536 in
theorem w_c14 : (Jvm.Cond.code ({ cls := "com/example/emberlot/emberlot/Slots", name := "set", desc := "(III)V" } : Jvm.MethodName) prog_50_method_10_code (4 : Nat) (Option.none : Option Jvm.ClassFile.FieldType)).before args0 about1 = true := code_word (m := ⟨2, 5⟩) (meth := k2m5) (c := k2c5) (by decide +kernel) rfl rfl rfl (by decide +kernel)
set_option maxRecDepth 65536 in
theorem w_c15 : (Jvm.Cond.code ({ cls := "com/example/emberlot/emberlot/Slots", name := "remove", desc := "(I)V" } : Jvm.MethodName) prog_50_method_3_code (2 : Nat) (Option.none : Option Jvm.ClassFile.FieldType)).before args0 about1 = true := code_word (m := ⟨2, 2⟩) (meth := k2m2) (c := k2c2) (by decide +kernel) rfl rfl rfl (by decide +kernel)
set_option maxRecDepth 65536 in
theorem w_c16 : (Jvm.Cond.code ({ cls := "com/example/emberlot/emberlot/Slots", name := "node", desc := "(I)Ljava/lang/Object;" } : Jvm.MethodName) prog_50_method_4_code (2 : Nat) (Option.some (Jvm.ClassFile.FieldType.object "java/lang/Object"))).before args0 about1 = true := code_word (m := ⟨2, 3⟩) (meth := k2m3) (c := k2c3) (by decide +kernel) rfl rfl rfl (by decide +kernel)
set_option maxRecDepth 65536 in
theorem w_c17 : (Jvm.Cond.code ({ cls := "com/example/emberlot/emberlot/Slots", name := "get", desc := "(II)I" } : Jvm.MethodName) prog_50_method_9_code (3 : Nat) (Option.some Jvm.ClassFile.FieldType.int)).before args0 about1 = true := code_word (m := ⟨2, 4⟩) (meth := k2m4) (c := k2c4) (by decide +kernel) rfl rfl rfl (by decide +kernel)
def codes1 : List Jvm.Cond := [Jvm.Cond.code x code maxLocals ret, Jvm.Cond.code ({ cls := "com/example/emberlot/emberlot/Slots", name := "<init>", desc := "(IIJ)V" } : Jvm.MethodName) prog_50_method_1_code (5 : Nat) (Option.none : Option Jvm.ClassFile.FieldType), Jvm.Cond.code ({ cls := "java/lang/Object", name := "<init>", desc := "()V" } : Jvm.MethodName) object_method_1_code (1 : Nat) (Option.none : Option Jvm.ClassFile.FieldType), Jvm.Cond.code ({ cls := "java/lang/Math", name := "max", desc := "(JJ)J" } : Jvm.MethodName) jdk_29_method_66_code (4 : Nat) (Option.some Jvm.ClassFile.FieldType.long), Jvm.Cond.code ({ cls := "java/lang/Math", name := "min", desc := "(JJ)J" } : Jvm.MethodName) jdk_29_method_70_code (4 : Nat) (Option.some Jvm.ClassFile.FieldType.long), Jvm.Cond.code ({ cls := "java/lang/Integer", name := "valueOf", desc := "(I)Ljava/lang/Integer;" } : Jvm.MethodName) jdk_33_method_22_code (1 : Nat) (Option.some (Jvm.ClassFile.FieldType.object "java/lang/Integer")), Jvm.Cond.code ({ cls := "java/lang/Integer", name := "<init>", desc := "(I)V" } : Jvm.MethodName) jdk_33_method_23_code (2 : Nat) (Option.none : Option Jvm.ClassFile.FieldType), Jvm.Cond.code ({ cls := "java/lang/Number", name := "<init>", desc := "()V" } : Jvm.MethodName) jdk_18_method_1_code (1 : Nat) (Option.none : Option Jvm.ClassFile.FieldType), Jvm.Cond.code ({ cls := "com/example/emberlot/emberlot/Slots", name := "add", desc := "(Ljava/lang/Object;)I" } : Jvm.MethodName) prog_50_method_2_code (4 : Nat) (Option.some Jvm.ClassFile.FieldType.int), Jvm.Cond.code ({ cls := "com/example/emberlot/emberlot/Slots", name := "grow", desc := "()V" } : Jvm.MethodName) prog_50_method_11_code (6 : Nat) (Option.none : Option Jvm.ClassFile.FieldType), Jvm.Cond.code ({ cls := "java/util/Arrays", name := "copyOf", desc := "([Ljava/lang/Object;I)[Ljava/lang/Object;" } : Jvm.MethodName) jdk_65_method_119_code (2 : Nat) (Option.some (Jvm.ClassFile.FieldType.array (Jvm.ClassFile.FieldType.object "java/lang/Object"))), Jvm.Cond.code ({ cls := "java/util/Arrays", name := "copyOf", desc := "([Ljava/lang/Object;ILjava/lang/Class;)[Ljava/lang/Object;" } : Jvm.MethodName) jdk_65_method_120_code (4 : Nat) (Option.some (Jvm.ClassFile.FieldType.array (Jvm.ClassFile.FieldType.object "java/lang/Object"))), Jvm.Cond.code ({ cls := "java/lang/Math", name := "min", desc := "(II)I" } : Jvm.MethodName) jdk_29_method_69_code (2 : Nat) (Option.some Jvm.ClassFile.FieldType.int), Jvm.Cond.code ({ cls := "java/util/Arrays", name := "copyOf", desc := "([II)[I" } : Jvm.MethodName) jdk_65_method_123_code (3 : Nat) (Option.some (Jvm.ClassFile.FieldType.array Jvm.ClassFile.FieldType.int)), Jvm.Cond.code ({ cls := "com/example/emberlot/emberlot/Slots", name := "set", desc := "(III)V" } : Jvm.MethodName) prog_50_method_10_code (4 : Nat) (Option.none : Option Jvm.ClassFile.FieldType), Jvm.Cond.code ({ cls := "com/example/emberlot/emberlot/Slots", name := "remove", desc := "(I)V" } : Jvm.MethodName) prog_50_method_3_code (2 : Nat) (Option.none : Option Jvm.ClassFile.FieldType), Jvm.Cond.code ({ cls := "com/example/emberlot/emberlot/Slots", name := "node", desc := "(I)Ljava/lang/Object;" } : Jvm.MethodName) prog_50_method_4_code (2 : Nat) (Option.some (Jvm.ClassFile.FieldType.object "java/lang/Object")), Jvm.Cond.code ({ cls := "com/example/emberlot/emberlot/Slots", name := "get", desc := "(II)I" } : Jvm.MethodName) prog_50_method_9_code (3 : Nat) (Option.some Jvm.ClassFile.FieldType.int)]
set_option maxRecDepth 65536 in
theorem codes_eq : words1.filter isCode = codes1 := rfl
theorem w_codes : ∀ c ∈ words1.filter isCode, c.before args0 about1 = true := by
  rw [codes_eq]
  intro c hc
  simp only [codes1, List.mem_cons, List.not_mem_nil, or_false] at hc
  rcases hc with rfl | rfl | rfl | rfl | rfl | rfl | rfl | rfl | rfl | rfl | rfl | rfl | rfl | rfl | rfl | rfl | rfl | rfl
  · exact w_c0
  · exact w_c1
  · exact w_c2
  · exact w_c3
  · exact w_c4
  · exact w_c5
  · exact w_c6
  · exact w_c7
  · exact w_c8
  · exact w_c9
  · exact w_c10
  · exact w_c11
  · exact w_c12
  · exact w_c13
  · exact w_c14
  · exact w_c15
  · exact w_c16
  · exact w_c17
set_option maxRecDepth 65536 in
theorem w_t1 : (words1.take 24).all (fun c => isCode c || c.before args0 about1) = true := by decide +kernel
set_option maxRecDepth 65536 in
theorem w_t2 : ((words1.drop 24).take 24).all (fun c => isCode c || c.before args0 about1) = true := by decide +kernel
set_option maxRecDepth 65536 in
theorem w_t3 : (((words1.drop 24).drop 24).take 24).all (fun c => isCode c || c.before args0 about1) = true := by decide +kernel
set_option maxRecDepth 65536 in
theorem w_t4 : ((((words1.drop 24).drop 24).drop 24).take 24).all (fun c => isCode c || c.before args0 about1) = true := by decide +kernel
set_option maxRecDepth 65536 in
theorem w_t5 : ((((words1.drop 24).drop 24).drop 24).drop 24).all (fun c => isCode c || c.before args0 about1) = true := by decide +kernel
theorem w_tables : (allAtoms (Jvm.Cond.code x code maxLocals ret :: tables_1)).before args0 about1 = true := by
  rw [allAtoms_all]
  show words1.all (fun c => c.before args0 about1) = true
  refine all_split ?_ w_codes
  rw [← List.take_append_drop 24 words1, List.all_append, w_t1, ← List.take_append_drop 24 (words1.drop 24), List.all_append, w_t2, ← List.take_append_drop 24 ((words1.drop 24).drop 24), List.all_append, w_t3, ← List.take_append_drop 24 (((words1.drop 24).drop 24).drop 24), List.all_append, w_t4, w_t5]
  rfl
set_option maxRecDepth 65536 in
theorem w_rest : rest_1_c.before args0 about1 = true := by decide +kernel
set_option maxRecDepth 65536 in
theorem w_case : (Jvm.Cond.and given_1 narrow_1).before args0 about1 = true := by decide +kernel
theorem w_applies : (headSpec (Jvm.Cond.code x code maxLocals ret :: tables_1) room_1).applies x e0.platform about1 = true :=
  (Spec.applies_iff w_frames).mpr ⟨w_running, w_runnable, w_alone, w_named, w_hears, w_ripe, w_room, w_tables⟩
set_option maxRecDepth 65536 in
theorem atStart : AtStart classFile x code maxLocals ret World_1 tables_1 room_1 Calls_1 rest_1 Pre_1 launch0 p0 e0 about1 theMethod args0 below0 :=
  ⟨lists_1, trivial, launch0.admits_env _ _ _, launch0.least_env, fairChoices_fair.cas, fairChoices_fair.clock, w_frames, w_args, w_heap, w_applies, ⟨⟨20, k20, 1, by decide +kernel, rfl, rfl, _, rfl, rfl⟩, trivial⟩, w_rest, w_case⟩
end start1
theorem witness_1 : WitnessClaimed_1 := ⟨start1.p0, start1.e0, start1.about1, start1.theMethod, start1.args0, start1.below0, start1.atStart⟩
end Jvm.Pilot.@@N@@
