import JvmDerived
import JvmDerived.Pilot.@@N@@Statement
import JvmDerived.Pilot.@@N@@Code
set_option linter.unusedVariables false
set_option linter.unusedSimpArgs false
namespace Jvm.Pilot.@@N@@
open Jvm Jvm.ClassFile Sem Op Lib Jvm.Free Jvm.Stand Jvm.LawKit Jvm.RoadKit Bundle Jvm.Pilot.@@N@@.Jvm.D
section OwnKit
variable {p : Program} {l : Launch} {e : Env} {R : Room} {s : State} {m : MethodId} {args : Array Value} {below : List Frame} {meth : Method} {c : Code} {T : State} {locs : List Loc} {cells slots : Nat}
/-- from the state u the run comes to an end of the invocation at which G holds -/
def Go (tb : Tables) (e : Env) (below : List Frame) (G : Outcome → State → Prop) (u : State) : Prop := ∃ s₂ o, Steps tb e below u s₂ ∧ s₂.status = .running ∧ Ended s₂ below o ∧ G o s₂
def End (Q : Option Value → Heap → List Loc → Prop) (s : State) (C S : Nat) (o : Outcome) (u : State) : Prop := ∃ v L, o = .returned v ∧ Q v u.heap L ∧ FrameEnd s o u L C S
theorem go {tb : Tables} {G : Outcome → State → Prop} {u u' : State} (st : ∀ t, Steps tb e below u' t → Steps tb e below u t) (k : Go tb e below G u') : Go tb e below G u := by
  obtain ⟨s₂, o, h1, h2⟩ := k
  exact ⟨s₂, o, st _ h1, h2⟩
theorem goT {tb : Tables} {G : Outcome → State → Prop} {u u' : State} (st : Steps tb e below u u') (k : Go tb e below G u') : Go tb e below G u := go (fun _ h => st.trans h) k
theorem own_fin (X : Stand p l e R s m args below meth c T locs cells slots) (hlk : meth.locks = false) {v : Option Value} (hv : meth.sig.returnType = none → v = none) {Q : Option Value → Heap → List Loc → Prop} {C S : Nat} (hq : Q v T.heap locs) (hc : cells ≤ C) (hs : slots ≤ S) {u : State}
    (st : ∀ fs, (∀ (f : JFrame) (acts : List Action), f.method = m → f.locked = none → f.entered = [] → (doReturn e (T.setTop f) acts v).1 = T.setFrames fs) → Steps p.tables e below u (T.setFrames fs)) : Go p.tables e below (End Q s C S) u := by
  obtain ⟨fs, hr, hrun, hended, hW, hsame⟩ := X.leave (v := v) hv hlk
  exact ⟨_, _, st fs hr, hrun, hended, _, _, rfl, hq, ⟨_, rfl⟩, hW, hsame.mono hc hs⟩
theorem own_retI (X : Stand p l e R s m args below meth c T locs cells slots) (hx : p.tables.exec = Jvm.exec) {pc : Nat} {Ls : Array Slot} {z : Int32} {rest : List Value} (hret : meth.sig.returnType = some .int) (hd : decode c.code pc = .ok (.ireturn, 1)) {fs : List Frame}
    (hl : ∀ (f : JFrame) (acts : List Action), f.method = m → f.locked = none → f.entered = [] → (doReturn e (T.setTop f) acts (some (.int z))).1 = T.setFrames fs) : Steps p.tables e below (T.setTop (mkF m pc Ls (.int z :: rest))) (T.setFrames fs) := by
  have hm' : T.vm.method? m = some meth := X.method'
  have hn : narrow .int (.int z) = .int z := rfl
  show Steps p.tables e below (T.setTop { method := m, pc := pc, locals := Ls, stack := _ :: rest, locked := none }) _
  jvm_step X.here [X.here.top, hx, hd, hm', hret, hn]
  first | (intro acts; rw [hl _ acts rfl rfl rfl]) | rw [hl _ _ rfl rfl rfl]
  exact Steps.refl _
theorem own_retA (X : Stand p l e R s m args below meth c T locs cells slots) (hx : p.tables.exec = Jvm.exec) {pc : Nat} {Ls : Array Slot} {z : Value} {t : FieldType} {rest : List Value} (hret : meth.sig.returnType = some t) (ht : t.isReference = true) (hz : z.isRef = true) (hd : decode c.code pc = .ok (.areturn, 1)) {fs : List Frame}
    (hl : ∀ (f : JFrame) (acts : List Action), f.method = m → f.locked = none → f.entered = [] → (doReturn e (T.setTop f) acts (some z)).1 = T.setFrames fs) : Steps p.tables e below (T.setTop (mkF m pc Ls (z :: rest))) (T.setFrames fs) := by
  have hm' : T.vm.method? m = some meth := X.method'
  show Steps p.tables e below (T.setTop { method := m, pc := pc, locals := Ls, stack := _ :: rest, locked := none }) _
  jvm_step X.here [X.here.top, hx, hd, hm', hret, ht, hz]
  first | (intro acts; rw [hl _ acts rfl rfl rfl]) | rw [hl _ _ rfl rfl rfl]
  exact Steps.refl _
theorem gI (X : Stand p l e R s m args below meth c T locs cells slots) (hx : p.tables.exec = Jvm.exec) (hlk : meth.locks = false) {pc : Nat} {Ls : Array Slot} {z : Int32} {rest : List Value} (hret : meth.sig.returnType = some .int) (hd : decode c.code pc = .ok (.ireturn, 1)) {Q : Option Value → Heap → List Loc → Prop} {C S : Nat} (hq : Q (some (.int z)) T.heap locs) (hc : cells ≤ C) (hs : slots ≤ S) :
    Go p.tables e below (End Q s C S) (T.setTop (mkF m pc Ls (.int z :: rest))) := own_fin X hlk (fun h => by rw [hret] at h; cases h) hq hc hs fun fs hr => own_retI X hx hret hd hr
theorem gN (X : Stand p l e R s m args below meth c T locs cells slots) (hx : p.tables.exec = Jvm.exec) (hlk : meth.locks = false) {pc : Nat} {Ls : Array Slot} {z : Int32} {t : FieldType} {rest : List Value} (hret : meth.sig.returnType = some t) (ht : t = .boolean ∨ t = .byte ∨ t = .char ∨ t = .short) (hn : nar t z = z) (hd : decode c.code pc = .ok (.ireturn, 1)) {Q : Option Value → Heap → List Loc → Prop} {C S : Nat} (hq : Q (some (.int z)) T.heap locs) (hc : cells ≤ C) (hs : slots ≤ S) :
    Go p.tables e below (End Q s C S) (T.setTop (mkF m pc Ls (.int z :: rest))) := own_fin X hlk (fun h => by rw [hret] at h; cases h) hq hc hs fun fs hr => retN X hx hret ht hd (by rw [hn]; exact hr)
theorem gJ (X : Stand p l e R s m args below meth c T locs cells slots) (hx : p.tables.exec = Jvm.exec) (hlk : meth.locks = false) {pc : Nat} {Ls : Array Slot} {z : Int64} (hret : meth.sig.returnType = some .long) (hd : decode c.code pc = .ok (.lreturn, 1)) {Q : Option Value → Heap → List Loc → Prop} {C S : Nat} (hq : Q (some (.long z)) T.heap locs) (hc : cells ≤ C) (hs : slots ≤ S) :
    Go p.tables e below (End Q s C S) (T.setTop (mkF m pc Ls [.long z])) := own_fin X hlk (fun h => by rw [hret] at h; cases h) hq hc hs fun fs hr => X.lreturnOut hx hret hd hr
theorem g0 (X : Stand p l e R s m args below meth c T locs cells slots) (hx : p.tables.exec = Jvm.exec) (hlk : meth.locks = false) {pc : Nat} {Ls : Array Slot} (hret : meth.sig.returnType = none) (hd : decode c.code pc = .ok (.return_, 1)) {Q : Option Value → Heap → List Loc → Prop} {C S : Nat} (hq : Q none T.heap locs) (hc : cells ≤ C) (hs : slots ≤ S) :
    Go p.tables e below (End Q s C S) (T.setTop (mkF m pc Ls [])) := own_fin X hlk (fun _ => rfl) hq hc hs fun fs hr => X.returnOut hx hret hd hr
theorem gA (X : Stand p l e R s m args below meth c T locs cells slots) (hx : p.tables.exec = Jvm.exec) (hlk : meth.locks = false) {pc : Nat} {Ls : Array Slot} {z : Value} {t : FieldType} {rest : List Value} (hret : meth.sig.returnType = some t) (ht : t.isReference = true) (hz : z.isRef = true) (hd : decode c.code pc = .ok (.areturn, 1)) {Q : Option Value → Heap → List Loc → Prop} {C S : Nat} (hq : Q (some z) T.heap locs) (hc : cells ≤ C) (hs : slots ≤ S) :
    Go p.tables e below (End Q s C S) (T.setTop (mkF m pc Ls (z :: rest))) := own_fin X hlk (fun h => by rw [hret] at h; cases h) hq hc hs fun fs hr => own_retA X hx hret ht hz hd hr
end OwnKit
/-- a body's contract out of its walk -/
theorem body {l : Launch} {y : MethodName} {bytes : ByteArray} {maxL : Nat} {ret : Option FieldType} {ws : List Jvm.Cond} {rm : Room} {as' : Array Value} {Z : State} {h0 : Heap} {Q : Option Value → Heap → List Loc → Prop} (pn : plainFor y = true)
    (k : ∀ (p : Program) (e : Env) (s : State) (m : MethodId) (below : List Frame) (meth : Method) (c : Code) (s₁ : State), p.tables.exec = Jvm.exec → c.code = bytes → c.maxLocals = maxL → s.vm.findClass y.cls = some m.cls → meth.name = y.name → meth.sig.returnType = ret → meth.locks = false → Z.Warmed39 s.vm → s₁.heap = h0 →
      Stand p l e rm s m as' below meth c s₁ [] 0 0 → Go p.tables e below (End Q s rm.cells rm.slots) (s₁.setTop (entryFrame m as' maxL))) :
    MetFree l y (head1 (Jvm.Cond.code y bytes maxL ret :: ws) rm) (fun a U => a = as' ∧ Z.Warmed39 U.vm ∧ U.heap = h0) (fun _ _ _ _ _ => True) (fun _ U o U' => ∃ v L, o = .returned v ∧ Q v U'.heap L ∧ FrameEnd U o U' L rm.cells rm.slots) := by
  refine MetFree.of_bodySF pn hisR ?_
  intro p e s m args below meth c s₁ Bd hml hP _
  obtain ⟨rfl, hZ, hh⟩ := hP
  obtain ⟨s₂, o, h1, h2, h3, h4⟩ := k p e s m below meth c s₁ Bd.exec Bd.bytes hml (findClass_of_methodNamed Bd.named) (name_of_methodNamed Bd.named Bd.method).1 Bd.returns Bd.notSynchronized hZ (by rw [← hh, Bd.state]; rfl) (Stand.of_body Bd)
  exact ⟨s₂, o, h1, h2, h3, h4⟩
/-- a boolean as an int -/
def B (P : Prop) [Decidable P] : Int32 := if P then 1 else 0
theorem Bt {P : Prop} [Decidable P] (h : P) : B P = 1 := if_pos h
theorem Bf {P : Prop} [Decidable P] (h : ¬ P) : B P = 0 := if_neg h
theorem B1 {P : Prop} [Decidable P] (h : P) : (1 : Int32) = B P := (if_pos h).symm
theorem B0 {P : Prop} [Decidable P] (h : ¬ P) : (0 : Int32) = B P := (if_neg h).symm
theorem B_iff {P Q : Prop} [Decidable P] [Decidable Q] (h : P ↔ Q) : B P = B Q := by simp only [B, h]
theorem B_nar {P : Prop} [Decidable P] : nar .boolean (B P) = B P := by by_cases h : P <;> simp only [B, h, if_true, if_false] <;> rfl
theorem bT {P : Prop} [Decidable P] (h : P) : ifCond.holds .ne (B P) = true ∧ ifCond.holds .eq (B P) = false := by rw [Bt h]; exact ⟨rfl, rfl⟩
theorem bF {P : Prop} [Decidable P] (h : ¬ P) : ifCond.holds .ne (B P) = false ∧ ifCond.holds .eq (B P) = true := by rw [Bf h]; exact ⟨rfl, rfl⟩
theorem lT {x y : Int64} (h : x < y) : ifCond.holds .lt (lcmpW x y) = true ∧ ifCond.holds .ge (lcmpW x y) = false ∧ ifCond.holds .gt (lcmpW y x) = true ∧ ifCond.holds .le (lcmpW y x) = false := by
  have h1 := tlt ((lw_lt x y).mpr h)
  have h2 := tlt ((lw_gt y x).mpr h)
  simp only [if0]; exact ⟨h1.1, h1.2.1, h2.2.2.1, h2.2.2.2⟩
theorem lF {x y : Int64} (h : ¬ x < y) : ifCond.holds .lt (lcmpW x y) = false ∧ ifCond.holds .ge (lcmpW x y) = true ∧ ifCond.holds .gt (lcmpW y x) = false ∧ ifCond.holds .le (lcmpW y x) = true := by
  have h1 := flt (fun q => h ((lw_lt x y).mp q))
  have h2 := flt (fun q => h ((lw_gt y x).mp q))
  simp only [if0]; exact ⟨h1.1, h1.2.1, h2.2.2.1, h2.2.2.2⟩
theorem lTe {x y : Int64} (h : x = y) : ifCond.holds .eq (lcmpW x y) = true ∧ ifCond.holds .ne (lcmpW x y) = false := by
  simp only [if0]; exact teq ((lw_eq x y).mpr h)
theorem lFe {x y : Int64} (h : ¬ x = y) : ifCond.holds .eq (lcmpW x y) = false ∧ ifCond.holds .ne (lcmpW x y) = true := by
  simp only [if0]; exact feq (fun q => h ((lw_eq x y).mp q))
theorem bTv {P : Prop} [Decidable P] {v : Int32} (hv : v = B P) (h : P) : ifCond.holds .ne v = true ∧ ifCond.holds .eq v = false := hv ▸ bT h
theorem bFv {P : Prop} [Decidable P] {v : Int32} (hv : v = B P) (h : ¬ P) : ifCond.holds .ne v = false ∧ ifCond.holds .eq v = true := hv ▸ bF h
theorem B_narv {P : Prop} [Decidable P] {v : Int32} (hv : v = B P) : nar .boolean v = v := hv ▸ B_nar
theorem own_fitb {v : Int32} (h : nar .boolean v = v) : fits .boolean (.int v) = true := h ▸ fits_nar_bool v
theorem ww {a0 : Array Value} {Z : State} (hw : ∀ d ∈ tables_1, d.before a0 Z = true) (i : Nat) {d : Jvm.Cond} (h : tables_1[i]? = some d) : d.before a0 Z = true := hw d (List.mem_of_getElem? h)
theorem own_Fto {Z : State} {h : Heap} {a : Addr} {C n d : String} {v w : Value} (F : Fld Z h a C n d v) (q : v = w) : Fld Z h a C n d w := q ▸ F
/-! arrays of ints (of any int-like kind) by a function of the place -/
def upd {α : Type} (f : Nat → α) (i : Nat) (v : α) : Nat → α := fun k => if k = i then v else f k
def own_l (l : List Int32) : Nat → Int32 := fun k => l.getD k 0
theorem own_upd_l (l : List Int32) (i : Nat) (x : Int32) (hi : i < l.length) : upd (own_l l) i x = own_l (l.set i x) := by
  funext k
  simp only [upd, own_l, List.getD_eq_getElem?_getD, List.getElem?_set]
  by_cases h : i = k
  · subst h; simp [hi]
  · simp [h, Ne.symm h]
def PI (Z : State) (h : Heap) (a : Addr) (ty : FieldType) (n : Nat) (g : Nat → Int32) : Prop := ∃ c : Cell, Arr Z h a c ty ∧ c.slots.size = n ∧ n < 2 ^ 31 ∧ ∀ i, i < n → c.slots[i]? = some (.int (g i))
section OwnArr
variable {Z : State} {h h' : Heap} {a b : Addr} {ty : FieldType} {n sl : Nat} {g : Nat → Int32} {v : Value} {ws : List Addr}
theorem PI.lt (F : PI Z h a ty n g) : a < h.size := by obtain ⟨c, A, -⟩ := F; exact A.lt
theorem PI.ext (F : PI Z h a ty n g) (E : Ext h h') : PI Z h' a ty n g := by obtain ⟨c, A, r⟩ := F; exact ⟨c, A.ext E, r⟩
theorem PI.other (F : PI Z h b ty n g) (W : Wr h h' a sl v) (q : b ≠ a) : PI Z h' b ty n g := by obtain ⟨c, A, r⟩ := F; exact ⟨c, A.other W q, r⟩
theorem PI.keep (F : PI Z h a ty n g) (K : Keep h h' ws) (q : a ∉ ws) : PI Z h' a ty n g := by obtain ⟨c, A, r⟩ := F; exact ⟨c, ⟨K.2.1 a c A.1 q, A.2⟩, r⟩
theorem PI.congr {g' : Nat → Int32} (F : PI Z h a ty n g) (q : ∀ i, i < n → g i = g' i) : PI Z h a ty n g' := by
  obtain ⟨c, A, r1, r2, r3⟩ := F
  exact ⟨c, A, r1, r2, fun i hi => by rw [← q i hi]; exact r3 i hi⟩
theorem PI.bound (F : PI Z h a ty n g) : n < 2 ^ 31 := by obtain ⟨c, -, -, q, -⟩ := F; exact q
theorem PI.new {k : ClassId} {z : Int32} (A : Arr Z h a (newA k ty z) ty) (q : ¬ z < 0) (hd : defaultValue ty = .int 0) : PI Z h a ty z.toNatClampNeg (fun _ => 0) :=
  ⟨_, A, sz_new _ _ _, (back32 q).2, fun i hi => by simp [newA, hd, hi]⟩
theorem PI.newL {k : ClassId} {z : Int32} {m : Nat} (A : Arr Z h a (newA k ty z) ty) (q : ¬ z < 0) (hd : defaultValue ty = .int 0) (hz : z.toNatClampNeg = m) : PI Z h a ty m (own_l (List.replicate m 0)) := by
  subst hz
  refine (PI.new A q hd).congr fun i hi => ?_
  simp [own_l, hi]
theorem PI.set {x j : Int32} (F : PI Z h a ty n g) (hn : j.toNatClampNeg < n) (W : Wr h h' a j.toNatClampNeg (.int x)) : PI Z h' a ty n (upd g j.toNatClampNeg x) := by
  obtain ⟨c, A, r1, r2, r3⟩ := F
  refine ⟨_, A.same W, by rw [sz_set]; exact r1, r2, fun i hi => ?_⟩
  by_cases q : i = j.toNatClampNeg
  · subst q; simp [upd, Cell.setSlot, r1, hn]
  · simp only [upd, if_neg q]
    rw [← r3 i hi]
    simp [Cell.setSlot, Array.getElem?_setIfInBounds, Ne.symm q]
theorem PI.setL {l l' : List Int32} {x j : Int32} {i : Nat} (F : PI Z h a ty n (own_l l)) (hn : j.toNatClampNeg < n) (W : Wr h h' a j.toNatClampNeg (.int x)) (hj : j.toNatClampNeg = i) (hi : i < l.length) (hl : l.set i x = l') : PI Z h' a ty n (own_l l') := by
  subst hl hj
  rw [← own_upd_l l _ x hi]
  exact F.set hn W
theorem own_inb {c : Cell} {j : Int32} (hs : c.slots.size = n) (hj : ¬ j < 0) (hn : j.toNatClampNeg < n) : ¬ (j < 0 ∨ c.slots.size ≤ j.toNatClampNeg) := fun q => q.elim hj fun r => by omega
end OwnArr
section OwnArr2
variable {p : Program} {l : Launch} {e : Env} {R : Room} {s : State} {m : MethodId} {args : Array Value} {below : List Frame} {meth : Method} {c : Code} {T : State} {locs : List Loc} {cells slots : Nat} {Z : State} {h : Heap} {a : Addr} {n : Nat} {g : Nat → Int32}
theorem own_iaload (X : Stand p l e R s m args below meth c T locs cells slots) (hx : p.tables.exec = Jvm.exec) (hZ : Z.Warmed39 s.vm) (eT : T.heap = h) (F : PI Z h a .int n g) {j v : Int32} (hj : ¬ j < 0) (hn : j.toNatClampNeg < n) (hv : g j.toNatClampNeg = v) {f : JFrame} (hg : f.method = m) {rest : List Value} (hs : f.stack = .int j :: .ref a :: rest) (hd : decode c.code f.pc = .ok (.iaload, 1)) (t : State)
    (k : Steps p.tables e below (T.setTop { f with pc := f.pc + 1, stack := .int v :: rest }) t) : Steps p.tables e below (T.setTop f) t := by
  obtain ⟨cl, A, r1, r2, r3⟩ := F
  exact X.iaload hx (j := j) (v := .int v) (by rw [eT]; exact A.1) (State.isArrayOf_alike hZ.alike A.2.1) A.2.2 (own_inb r1 hj hn) (by rw [r3 _ hn, hv]) hg hs hd t k
theorem own_baloadZ (X : Stand p l e R s m args below meth c T locs cells slots) (hx : p.tables.exec = Jvm.exec) (hZ : Z.Warmed39 s.vm) (eT : T.heap = h) (F : PI Z h a .boolean n g) {j v : Int32} (hj : ¬ j < 0) (hn : j.toNatClampNeg < n) (hv : g j.toNatClampNeg = v) {f : JFrame} (hg : f.method = m) {rest : List Value} (hs : f.stack = .int j :: .ref a :: rest) (hd : decode c.code f.pc = .ok (.baload, 1)) (t : State)
    (k : Steps p.tables e below (T.setTop { f with pc := f.pc + 1, stack := .int v :: rest }) t) : Steps p.tables e below (T.setTop f) t := by
  obtain ⟨cl, A, r1, r2, r3⟩ := F
  exact X.baloadBooleans hx (j := j) (v := .int v) (by rw [eT]; exact A.1) (State.isArrayOf_alike hZ.alike A.2.1) A.2.2 (own_inb r1 hj hn) (by rw [r3 _ hn, hv]) hg hs hd t k
theorem own_alen {ty : FieldType} (X : Stand p l e R s m args below meth c T locs cells slots) (hx : p.tables.exec = Jvm.exec) (hZ : Z.Warmed39 s.vm) (eT : T.heap = h) (F : PI Z h a ty n g) {z : Int32} (hz : n.toInt32 = z) {f : JFrame} (hg : f.method = m) {rest : List Value} (hs : f.stack = .ref a :: rest) (hd : decode c.code f.pc = .ok (.arraylength, 1)) (t : State)
    (k : Steps p.tables e below (T.setTop { f with pc := f.pc + 1, stack := .int z :: rest }) t) : Steps p.tables e below (T.setTop f) t := by
  obtain ⟨cl, A, r1, r2, r3⟩ := F
  exact X.arraylength hx (by rw [eT]; exact A.1) (State.isArrayOf_alike hZ.alike A.2.1) hg hs hd t (by rw [r1, hz]; exact k)
theorem own_iastore (X : Stand p l e R s m args below meth c T locs cells slots) (hx : p.tables.exec = Jvm.exec) (hZ : Z.Warmed39 s.vm) (eT : T.heap = h) (F : PI Z h a .int n g) {j x : Int32} (hj : ¬ j < 0) (hn : j.toNatClampNeg < n) {f : JFrame} (hg : f.method = m) {rest : List Value} (hs : f.stack = .int x :: .int j :: .ref a :: rest) (hd : decode c.code f.pc = .ok (.iastore, 1)) :
    ∃ T' h', Stand p l e R s m args below meth c T' (locs ++ [⟨a, j.toNatClampNeg⟩]) cells slots ∧ T'.heap = h' ∧ Wr h h' a j.toNatClampNeg (.int x) ∧ ∀ target, Steps p.tables e below (T'.setTop { f with pc := f.pc + 1, stack := rest }) target → Steps p.tables e below (T.setTop f) target := by
  obtain ⟨cl, A, r1, r2, r3⟩ := F
  exact stI X hx hZ eT A (own_inb r1 hj hn) hg hs hd
theorem own_bastoreZ (X : Stand p l e R s m args below meth c T locs cells slots) (hx : p.tables.exec = Jvm.exec) (hZ : Z.Warmed39 s.vm) (eT : T.heap = h) (F : PI Z h a .boolean n g) {j x : Int32} (hnx : nar .boolean x = x) (hj : ¬ j < 0) (hn : j.toNatClampNeg < n) {f : JFrame} (hg : f.method = m) {rest : List Value} (hs : f.stack = .int x :: .int j :: .ref a :: rest) (hd : decode c.code f.pc = .ok (.bastore, 1)) :
    ∃ T' h', Stand p l e R s m args below meth c T' (locs ++ [⟨a, j.toNatClampNeg⟩]) cells slots ∧ T'.heap = h' ∧ Wr h h' a j.toNatClampNeg (.int x) ∧ ∀ target, Steps p.tables e below (T'.setTop { f with pc := f.pc + 1, stack := rest }) target → Steps p.tables e below (T.setTop f) target := by
  obtain ⟨cl, A, r1, r2, r3⟩ := F
  obtain ⟨T', h', q1, q2, q3, q4⟩ := stZ X hx hZ eT A (x := x) (own_inb r1 hj hn) hg hs hd
  rw [hnx] at q3
  exact ⟨T', h', q1, q2, q3, q4⟩
end OwnArr2
theorem own_Lto {Z : State} {h : Heap} {a : Addr} {ty : FieldType} {n : Nat} {l l' : List Int32} (F : PI Z h a ty n (own_l l)) (q : l = l') : PI Z h a ty n (own_l l') := q ▸ F
theorem own_Gto {Z : State} {h : Heap} {a : Addr} {ty : FieldType} {n : Nat} {g g' : Nat → Int32} (F : PI Z h a ty n g) (q : g = g') : PI Z h a ty n g' := q ▸ F
/-! a ring buffer of cities as a list -/
def add1 (xs : List Int32) (c : Int32) : List Int32 := if c ∈ xs then xs else xs ++ [c]
def addAll (xs : List Int32) (l : List Int32) : List Int32 := l.foldl add1 xs
def Rep (N : Nat) (f g : Nat → Int32) (hd sz : Int32) (xs : List Int32) : Prop :=
  (N ≤ 4 ∧ 0 ≤ hd.toInt ∧ hd.toInt < N) ∧ (sz.toInt = xs.length ∧ xs.length ≤ N) ∧ (∀ i, i < xs.length → f ((hd.toNatClampNeg + i) % N) = xs.getD i 0) ∧
  (∀ c : Int32, 0 ≤ c.toInt → c.toInt < N → g c.toNatClampNeg = if c ∈ xs then 1 else 0) ∧ xs.Nodup ∧ ∀ x ∈ xs, 0 ≤ x.toInt ∧ x.toInt < N
theorem own_nn {j : Int32} (h : 0 ≤ j.toInt) : ¬ j < 0 := by rw [Int32.lt_iff_toInt_lt]; have : (0 : Int32).toInt = 0 := rfl; omega
theorem own_cl {j : Int32} (h : 0 ≤ j.toInt) : (j.toNatClampNeg : Int) = j.toInt := (nat_of (own_nn h)).symm
theorem own_lt {j : Int32} {N : Nat} (h : 0 ≤ j.toInt) (h2 : j.toInt < N) : j.toNatClampNeg < N := by have := own_cl h; omega
theorem own_t32 {N : Nat} (h : N < 2 ^ 31) : N.toInt32.toInt = N := by
  show (Int32.ofNat N).toInt = N
  exact Int32.toInt_ofNat_of_lt (by omega)
theorem own_pig : ∀ (N : Nat) (l : List Nat), l.Nodup → (∀ x ∈ l, x < N) → l.length ≤ N
  | 0, l, _, h => by
    cases l with
    | nil => simp
    | cons a t => exact absurd (h a (by simp)) (by omega)
  | N + 1, l, nd, h => by
    have h1 := own_pig N (l.erase N) (nd.erase N) fun x hx => by
      have h2 := (List.Nodup.mem_erase_iff nd).mp hx
      have h3 := h x h2.2
      omega
    have h4 := List.length_erase_of_mem (a := N) (l := l)
    by_cases q : N ∈ l
    · rw [h4 q] at h1; omega
    · rw [List.erase_of_not_mem q] at h1; omega
theorem own_pig32 {N : Nat} {l : List Int32} (nd : l.Nodup) (h : ∀ x ∈ l, 0 ≤ x.toInt ∧ x.toInt < N) : l.length ≤ N := by
  have h1 := own_pig N (l.map fun x => x.toNatClampNeg) ?_ ?_
  · simpa using h1
  · refine List.Pairwise.map _ ?_ (List.Pairwise.and_mem.mp nd)
    intro a b hab q
    have ha := own_cl (h a hab.1).1
    have hb := own_cl (h b hab.2.1).1
    exact hab.2.2 (Int32.toInt_inj.mp (by omega))
  · intro x hx
    obtain ⟨y, hy, rfl⟩ := List.mem_map.mp hx
    exact own_lt (h y hy).1 (h y hy).2
theorem Rep.new {N : Nat} (h0 : 0 < N) (h : N ≤ 4) : Rep N (fun _ => 0) (fun _ => 0) 0 0 [] :=
  ⟨⟨h, by decide, by have : (0 : Int32).toInt = 0 := rfl; omega⟩, ⟨rfl, by simp⟩, by simp, by simp, by simp, by simp⟩
theorem Rep.N0 {N : Nat} {f g : Nat → Int32} {hd sz : Int32} {xs : List Int32} (R : Rep N f g hd sz xs) : 0 < N := by obtain ⟨⟨h1, h2, h3⟩, -⟩ := R; omega
theorem Rep.len {N : Nat} {f g : Nat → Int32} {hd sz : Int32} {xs : List Int32} (R : Rep N f g hd sz xs) : N.toInt32.toInt = N := own_t32 (by obtain ⟨⟨h1, h2, h3⟩, -⟩ := R; omega)
theorem Rep.ne0 {N : Nat} {f g : Nat → Int32} {hd sz : Int32} {xs : List Int32} (R : Rep N f g hd sz xs) : N.toInt32 ≠ 0 := fun q => by
  have h1 := R.len; have h2 := R.N0; rw [q] at h1; have : (0 : Int32).toInt = 0 := rfl; omega
theorem Rep.head {N : Nat} {f g : Nat → Int32} {hd sz : Int32} {xs : List Int32} (R : Rep N f g hd sz xs) : ¬ hd < 0 ∧ hd.toNatClampNeg < N := by
  obtain ⟨⟨h1, h2, h3⟩, -⟩ := R; exact ⟨own_nn h2, own_lt h2 h3⟩
theorem Rep.tail {N : Nat} {f g : Nat → Int32} {hd sz : Int32} {xs : List Int32} (R : Rep N f g hd sz xs) : 0 ≤ ((hd + sz) % N.toInt32).toInt ∧ ((hd + sz) % N.toInt32).toInt < N ∧ ((hd + sz) % N.toInt32).toNatClampNeg = (hd.toNatClampNeg + xs.length) % N := by
  have hl := R.len; have h0 := R.N0
  obtain ⟨⟨h1, h2, h3⟩, ⟨h4, h5⟩, -⟩ := R
  have a1 := c_iadd hd sz
  have a2 := rng32 (hd + sz)
  have a3 : (hd + sz).toInt = hd.toInt + xs.length := by omega
  have a4 := (c_irem (hd + sz) N.toInt32 N hl).1 (by omega)
  have a5 := own_cl h2
  have a6 : ((hd + sz) % N.toInt32).toInt = (((hd.toNatClampNeg + xs.length) % N : Nat) : Int) := by rw [a4, a3, ← a5]; rfl
  have a7 := Nat.mod_lt (hd.toNatClampNeg + xs.length) h0
  refine ⟨by omega, by omega, ?_⟩
  have a8 := own_cl (j := (hd + sz) % N.toInt32) (by omega)
  omega
theorem Rep.full {N : Nat} {f g : Nat → Int32} {hd sz c : Int32} {xs : List Int32} (R : Rep N f g hd sz xs) (hc : 0 ≤ c.toInt ∧ c.toInt < N) (hg : g c.toNatClampNeg = 0) : c ∉ xs ∧ xs.length < N := by
  obtain ⟨-, -, -, h6, h7, h8⟩ := R
  have q : c ∉ xs := fun hm => by
    have := h6 c hc.1 hc.2
    rw [if_pos hm, hg] at this
    exact absurd this (by decide)
  refine ⟨q, ?_⟩
  have := own_pig32 (N := N) (l := c :: xs) (List.nodup_cons.mpr ⟨q, h7⟩) (fun x hx => (List.mem_cons.mp hx).elim (fun e => e ▸ hc) (h8 x))
  simp only [List.length_cons] at this
  omega
theorem Rep.push {N : Nat} {f g : Nat → Int32} {hd sz c : Int32} {xs : List Int32} (R : Rep N f g hd sz xs) (hc : 0 ≤ c.toInt ∧ c.toInt < N) (hg : g c.toNatClampNeg = 0) :
    Rep N (upd f ((hd + sz) % N.toInt32).toNatClampNeg c) (upd g c.toNatClampNeg 1) hd (sz + 1) (add1 xs c) := by
  obtain ⟨q, hlt⟩ := R.full hc hg
  obtain ⟨t1, t2, t3⟩ := R.tail
  obtain ⟨⟨h1, h2, h3⟩, ⟨h4, h5⟩, h5', h6, h7, h8⟩ := R
  rw [add1, if_neg q, t3]
  refine ⟨⟨h1, h2, h3⟩, ⟨?_, by simp; omega⟩, ?_, ?_, ?_, ?_⟩
  · have a1 := c_iadd sz 1
    have a2 := rng32 (sz + 1)
    have a3 : (1 : Int32).toInt = 1 := rfl
    rw [a3] at a1
    simp only [List.length_append, List.length_singleton]
    omega
  · intro i hi
    simp only [List.length_append, List.length_singleton] at hi
    have b1 := own_cl h2
    by_cases e : i = xs.length
    · subst e; simp [upd]
    · have hi' : i < xs.length := by omega
      have ne : (hd.toNatClampNeg + i) % N ≠ (hd.toNatClampNeg + xs.length) % N := by
        intro e2
        have hN : N = 1 ∨ N = 2 ∨ N = 3 ∨ N = 4 := by omega
        rcases hN with rfl | rfl | rfl | rfl <;> omega
      simp only [upd, if_neg ne]
      rw [h5' i hi']
      simp [List.getElem?_append_left hi']
  · intro x hx0 hx1
    by_cases e : x = c
    · subst e; simp [upd]
    · have ne : x.toNatClampNeg ≠ c.toNatClampNeg := fun e2 => e (Int32.toInt_inj.mp (by have := own_cl hx0; have := own_cl hc.1; omega))
      simp only [upd, if_neg ne]
      rw [h6 x hx0 hx1]
      simp [e]
  · refine List.nodup_append.mpr ⟨h7, by simp, ?_⟩
    intro a ha b hb e
    simp only [List.mem_singleton] at hb
    subst hb; subst e; exact q ha
  · intro x hx
    rcases List.mem_append.mp hx with hx | hx
    · exact h8 x hx
    · simp only [List.mem_singleton] at hx; subst hx; exact hc
theorem Rep.skip {N : Nat} {f g : Nat → Int32} {hd sz c : Int32} {xs : List Int32} (R : Rep N f g hd sz xs) (hc : 0 ≤ c.toInt ∧ c.toInt < N) (hg : ¬ g c.toNatClampNeg = 0) : Rep N f g hd sz (add1 xs c) := by
  have h6 := R.2.2.2.1 c hc.1 hc.2
  have q : c ∈ xs := by
    by_cases q : c ∈ xs
    · exact q
    · rw [if_neg q] at h6; exact absurd h6 hg
  rw [add1, if_pos q]; exact R
theorem Rep.take {N : Nat} {f g : Nat → Int32} {hd sz x : Int32} {xs : List Int32} (R : Rep N f g hd sz (x :: xs)) {hd' : Int32} (h : hd' = if (hd + 1) = N.toInt32 then 0 else hd + 1) : Rep N f (upd g x.toNatClampNeg 0) hd' (sz - 1) xs := by
  have hl := R.len; have hN0 := R.N0
  obtain ⟨⟨h1, h2, h3⟩, ⟨h4, h5⟩, h5', h6, h7, h8⟩ := R
  have a1 := c_iadd hd 1
  have a2 := rng32 (hd + 1)
  have a3 : (1 : Int32).toInt = 1 := rfl
  have a0 : (0 : Int32).toInt = 0 := rfl
  rw [a3] at a1
  have a4 : (hd + 1).toInt = hd.toInt + 1 := by omega
  have b1 := own_cl h2
  have hh : 0 ≤ hd'.toInt ∧ hd'.toInt < N ∧ hd'.toNatClampNeg = (hd.toNatClampNeg + 1) % N := by
    by_cases e : (hd + 1) = N.toInt32
    · rw [if_pos e] at h; subst h
      have e2 : (hd + 1).toInt = N := by rw [e, hl]
      refine ⟨by decide, by omega, ?_⟩
      have : hd.toNatClampNeg + 1 = N := by omega
      rw [this, Nat.mod_self]; rfl
    · rw [if_neg e] at h; subst h
      have e2 : (hd + 1).toInt ≠ N := fun q => e (Int32.toInt_inj.mp (by rw [q, hl]))
      have c1 := own_cl (j := hd + 1) (by omega)
      have c2 : hd.toNatClampNeg + 1 < N := by omega
      refine ⟨by omega, by omega, ?_⟩
      rw [Nat.mod_eq_of_lt c2]; omega
  obtain ⟨nx, nd⟩ := List.nodup_cons.mp h7
  refine ⟨⟨h1, hh.1, hh.2.1⟩, ⟨?_, ?_⟩, ?_, ?_, nd, fun y hy => h8 y (List.mem_cons_of_mem _ hy)⟩
  · have d1 := c_isub sz 1
    have d2 := rng32 (sz - 1)
    rw [a3] at d1
    simp only [List.length_cons] at h4 h5
    omega
  · simp only [List.length_cons] at h5; omega
  · intro i hi
    have := h5' (i + 1) (by simp; omega)
    rw [hh.2.2]
    have e : (hd.toNatClampNeg + 1) % N + i = (hd.toNatClampNeg + 1) % N + i := rfl
    rw [Nat.mod_add_mod, Nat.add_assoc, Nat.add_comm 1 i]
    rw [this]; simp
  · intro c hc0 hc1
    by_cases e : c = x
    · subst e; simp [upd, nx]
    · have ne : c.toNatClampNeg ≠ x.toNatClampNeg := fun e2 => e (Int32.toInt_inj.mp (by have := own_cl hc0; have := own_cl (h8 x (by simp)).1; omega))
      simp only [upd, if_neg ne]
      rw [h6 c hc0 hc1]
      simp [e]
theorem Rep.first {N : Nat} {f g : Nat → Int32} {hd sz x : Int32} {xs : List Int32} (R : Rep N f g hd sz (x :: xs)) : f hd.toNatClampNeg = x := by
  have h := R.2.2.1 0 (by simp)
  have h2 := R.head.2
  simpa [Nat.mod_eq_of_lt h2] using h
theorem Rep.mem {N : Nat} {f g : Nat → Int32} {hd sz x : Int32} {xs : List Int32} (R : Rep N f g hd sz (x :: xs)) : ¬ x < 0 ∧ x.toNatClampNeg < N := by
  have h := R.2.2.2.2.2 x (by simp)
  exact ⟨own_nn h.1, own_lt h.1 h.2⟩
theorem Rep.empty {N : Nat} {f g : Nat → Int32} {hd sz : Int32} {xs : List Int32} (R : Rep N f g hd sz xs) : (sz = (0 : Int32)) ↔ (xs = []) := by
  have h := R.2.1.1
  constructor
  · intro q; subst q
    have : (0 : Int32).toInt = 0 := rfl
    exact List.length_eq_zero_iff.mp (by omega)
  · intro q; subst q
    exact Int32.toInt_inj.mp (by rw [h]; rfl)
theorem own_iv {k r : Nat} {i : Int32} {N : Nat} (hk : k < 2 ^ 31) (hi : 0 ≤ i.toInt ∧ i.toInt + (r + 1 : Nat) = k) : ¬ i < 0 ∧ i.toNatClampNeg < k ∧ i < k.toInt32 ∧ (0 ≤ (i + 1).toInt ∧ (i + 1).toInt + r = k) ∧ i.toNatClampNeg = k - (r + 1) := by
  have h1 := own_cl hi.1
  have h2 := own_t32 hk
  have a1 := c_iadd i 1
  have a2 := rng32 (i + 1)
  have a3 : (1 : Int32).toInt = 1 := rfl
  rw [a3] at a1
  refine ⟨own_nn hi.1, by omega, ?_, by omega, by omega⟩
  rw [Int32.lt_iff_toInt_lt, h2]; omega
theorem own_iz {k : Nat} {i : Int32} (hk : k < 2 ^ 31) (hi : 0 ≤ i.toInt ∧ i.toInt + (0 : Nat) = k) : ¬ i < k.toInt32 := by
  have h2 := own_t32 hk
  rw [Int32.lt_iff_toInt_lt, h2]; omega
theorem own_next {k r : Nat} {lf : Nat → Int32} {xs : List Int32} (h : r + 1 ≤ k) : addAll xs ((List.range (k - r)).map lf) = add1 (addAll xs ((List.range (k - (r + 1))).map lf)) (lf (k - (r + 1))) := by
  have e : k - r = (k - (r + 1)) + 1 := by omega
  rw [e, List.range_succ, List.map_append, addAll, List.foldl_append]; rfl
theorem pn_com_example_lootpath_lootpath_solve_CityQueue__init__1 : plainFor (⟨"com/example/lootpath/lootpath/solve/CityQueue", "<init>", "(I)V"⟩ : MethodName) = true := by first | exact plainFor_of_name (by first | (simp [plainName, overriddenIn]; done) | decide +kernel) | decide +kernel
def Q_rm1 (Z : State) (o0 : Addr) (p1 : Int32) (h0 : Heap) (n0 : Nat) (v : Option Value) (h : Heap) (L : List Loc) : Prop := ∃ ca : Addr, ∃ wa : Addr, v = none ∧ Fr n0 L ∧ Keep h0 h [o0] ∧ (Exa Z h o0 "com/example/lootpath/lootpath/solve/CityQueue") ∧ (Fld Z h o0 "com/example/lootpath/lootpath/solve/CityQueue" "cities" "[I" (.ref ca)) ∧ (Fld Z h o0 "com/example/lootpath/lootpath/solve/CityQueue" "waiting" "[Z" (.ref wa)) ∧ (Fld Z h o0 "com/example/lootpath/lootpath/solve/CityQueue" "head" "I" (.int (0 : Int32))) ∧ (Fld Z h o0 "com/example/lootpath/lootpath/solve/CityQueue" "size" "I" (.int (0 : Int32))) ∧ (PI Z h ca .int p1.toNatClampNeg (fun _ => 0)) ∧ (PI Z h wa .boolean p1.toNatClampNeg (fun _ => 0)) ∧ (h0.size ≤ ca) ∧ (h0.size ≤ wa) ∧ (ca ≠ wa)
set_option maxRecDepth 65536 in
set_option maxHeartbeats 4000000 in
theorem ef_rm1 (m : MethodId) (o0 : Addr) (p1 : Int32) : entryFrame m #[(.ref o0), (.int p1)] 2 = mkF m 0 #[.val (.ref o0), .val (.int p1)] [] := by first | (simp [entryFrame, mkF, argsToLocals, Value.category, maxLocals]; done) | rfl
theorem d1_0 : decode prog_5_method_1_code 0 = .ok (.aload_n 0, 1) := by decide +kernel
theorem d1_1 : decode prog_5_method_1_code 1 = .ok (.invokespecial 1, 3) := by decide +kernel
theorem d1_4 : decode prog_5_method_1_code 4 = .ok (.aload_n 0, 1) := by decide +kernel
theorem d1_5 : decode prog_5_method_1_code 5 = .ok (.iload_n 1, 1) := by decide +kernel
theorem d1_6 : decode prog_5_method_1_code 6 = .ok (.newarray .int, 2) := by decide +kernel
theorem d1_8 : decode prog_5_method_1_code 8 = .ok (.putfield 7, 3) := by decide +kernel
theorem d1_11 : decode prog_5_method_1_code 11 = .ok (.aload_n 0, 1) := by decide +kernel
theorem d1_12 : decode prog_5_method_1_code 12 = .ok (.iload_n 1, 1) := by decide +kernel
theorem d1_13 : decode prog_5_method_1_code 13 = .ok (.newarray .boolean, 2) := by decide +kernel
theorem d1_15 : decode prog_5_method_1_code 15 = .ok (.putfield 13, 3) := by decide +kernel
theorem d1_18 : decode prog_5_method_1_code 18 = .ok (.return_, 1) := by decide +kernel
set_option maxRecDepth 65536 in
set_option maxHeartbeats 40000000 in
theorem rm1 (l : Launch) (Z : State) (a0 : Array Value) (hw : ∀ d ∈ tables_1, d.before a0 Z = true) (ws : List Jvm.Cond) (o0 : Addr) (p1 : Int32) (h0 : Heap) (n0 : Nat) (Z0 : n0 ≤ h0.size) (g_o0 : n0 ≤ o0) (F0 : Exa Z h0 o0 "com/example/lootpath/lootpath/solve/CityQueue") (F1 : Fld Z h0 o0 "com/example/lootpath/lootpath/solve/CityQueue" "cities" "[I" .null) (F2 : Fld Z h0 o0 "com/example/lootpath/lootpath/solve/CityQueue" "waiting" "[Z" .null) (F3 : Fld Z h0 o0 "com/example/lootpath/lootpath/solve/CityQueue" "head" "I" (.int (0 : Int32))) (F4 : Fld Z h0 o0 "com/example/lootpath/lootpath/solve/CityQueue" "size" "I" (.int (0 : Int32))) (hp0 : ¬ p1 < 0) (hp4 : p1.toNatClampNeg ≤ 4) :
    MetFree l (⟨"com/example/lootpath/lootpath/solve/CityQueue", "<init>", "(I)V"⟩ : MethodName) (head1 (Jvm.Cond.code (⟨"com/example/lootpath/lootpath/solve/CityQueue", "<init>", "(I)V"⟩ : MethodName) prog_5_method_1_code 2 none :: ws) ({ frames := 1, cells := 2, slots := 8, locals := 12 } : Room)) (fun a U => a = #[(.ref o0), (.int p1)] ∧ Z.Warmed39 U.vm ∧ U.heap = h0) (fun _ _ _ _ _ => True) (fun _ U o U' => ∃ v L, o = .returned v ∧ Q_rm1 Z o0 p1 h0 n0 v U'.heap L ∧ FrameEnd U o U' L ({ frames := 1, cells := 2, slots := 8, locals := 12 } : Room).cells ({ frames := 1, cells := 2, slots := 8, locals := 12 } : Room).slots) := by
  refine body pn_com_example_lootpath_lootpath_solve_CityQueue__init__1 ?_
  intro p e s m below meth c s₁ hx hby hml hown hnm hret hlk hZ e0 X0
  replace hml : c.maxLocals = 2 := hml
  replace hown : s.vm.findClass "com/example/lootpath/lootpath/solve/CityQueue" = some m.cls := hown
  replace hnm : meth.name = "<init>" := hnm
  replace hret : meth.sig.returnType = none := hret
  have N0 := Fr.nil n0
  rw [ef_rm1]
  obtain ⟨G, hG⟩ : ∃ G, G = End (Q_rm1 Z o0 p1 h0 n0) s ({ frames := 1, cells := 2, slots := 8, locals := 12 } : Room).cells ({ frames := 1, cells := 2, slots := 8, locals := 12 } : Room).slots := ⟨_, rfl⟩
  rw [← hG]
  refine go (u' := s₁.setTop (mkF m 1 #[.val (.ref o0), .val (.int p1)] [(.ref o0)])) (fun _ ks_ => XS.aloadN X0.here hx rfl (hb hby d1_0) rfl rfl ks_) ?_
  obtain ⟨T1, X1, e1, st1⟩ := initO X0 hx hZ hown (ww hw 7 rfl) (ww hw 8 rfl) (ww hw 9 rfl) e0 (g := (mkF m 1 #[.val (.ref o0), .val (.int p1)] [(.ref o0)])) rfl (by rw [hml]; rfl) rfl (hb hby d1_1) (by decide) (W := 0) (by show 2 * 0 + _ ≤ _; exact Nat.le_of_eq rfl) (by decide)
  refine go (u' := T1.setTop (mkF m 4 #[.val (.ref o0), .val (.int p1)] [])) st1 ?_
  refine go (u' := T1.setTop (mkF m 5 #[.val (.ref o0), .val (.int p1)] [(.ref o0)])) (fun _ ks_ => XS.aloadN X1.here hx rfl (hb hby d1_4) rfl rfl ks_) ?_
  refine go (u' := T1.setTop (mkF m 6 #[.val (.ref o0), .val (.int p1)] [(.int p1), (.ref o0)])) (fun _ ks_ => XS.iloadN X1.here hx rfl (hb hby d1_5) rfl  ks_) ?_
  obtain ⟨T2, h2, k2, X2, e2, E2, A2, st2⟩ := newP X1 hx hZ (ww hw 0 rfl) e1 (g := (mkF m 6 #[.val (.ref o0), .val (.int p1)] [(.int p1), (.ref o0)])) rfl (hb hby d1_6) rfl hp0 (cap := 4) hp4 (by decide) (by decide) (by decide)
  obtain ⟨b2, g2⟩ : ∃ z, z = h0.size := ⟨_, rfl⟩
  rw [← g2] at A2 st2
  have ne_o0_b2 : o0 ≠ b2 := Nat.ne_of_lt (Nat.lt_of_lt_of_le F0.lt (Nat.le_of_eq g2.symm))
  have g_b2 : n0 ≤ b2 := Nat.le_trans Z0 (Nat.le_of_eq g2.symm)
  have sz_b2 : h0.size ≤ b2 := Nat.le_trans (Keep.refl h0 [o0]).1 (Nat.le_of_eq g2.symm)
  have K2 : Keep h0 h2 [o0] := (Keep.refl h0 [o0]).ext E2
  have Fa3 : Exa Z h2 o0 "com/example/lootpath/lootpath/solve/CityQueue" := F0.ext E2
  have Fa4 : Fld Z h2 o0 "com/example/lootpath/lootpath/solve/CityQueue" "cities" "[I" .null := F1.ext E2
  have Fa5 : Fld Z h2 o0 "com/example/lootpath/lootpath/solve/CityQueue" "waiting" "[Z" .null := F2.ext E2
  have Fa6 : Fld Z h2 o0 "com/example/lootpath/lootpath/solve/CityQueue" "head" "I" (.int (0 : Int32)) := F3.ext E2
  have Fa7 : Fld Z h2 o0 "com/example/lootpath/lootpath/solve/CityQueue" "size" "I" (.int (0 : Int32)) := F4.ext E2
  have Z2 : n0 ≤ h2.size := Nat.le_trans Z0 E2.1
  have Fa8 : PI Z h2 b2 .int p1.toNatClampNeg (fun _ => 0) := PI.new A2 hp0 rfl
  refine go (u' := T2.setTop (mkF m 8 #[.val (.ref o0), .val (.int p1)] [(.ref b2), (.ref o0)])) st2 ?_
  obtain ⟨T9, h9, X9, e9, W9, st9⟩ := putF X2 hx hZ hown (host := "") (Or.inl (ww hw 10 rfl)) Via.refl e2 Fa4 Fa3 (Or.inr ⟨(ww hw 11 rfl), rfl, hnm⟩) (ww hw 2 rfl) (ty := (.array .int)) (by decide) rfl rfl (g := (mkF m 8 #[.val (.ref o0), .val (.int p1)] [(.ref b2), (.ref o0)])) rfl rfl (hb hby d1_8)
  have N9 := Fr.snoc X9 N0 g_o0
  have K9 : Keep h0 h9 [o0] := K2.wr W9 (Or.inl (List.mem_of_getElem? (i := 0) rfl))
  have Z9 : n0 ≤ h9.size := Nat.le_trans Z2 (Keep.of_wr W9).1
  have Fa10 : Exa Z h9 o0 "com/example/lootpath/lootpath/solve/CityQueue" := Fa3.wr W9
  have Fa11 : Fld Z h9 o0 "com/example/lootpath/lootpath/solve/CityQueue" "waiting" "[Z" .null := Fa5.other W9 (Or.inr (slot_ne (Or.inr (ww hw 14 rfl)) (Or.inr (ww hw 11 rfl)) (by decide) (t := (.array .boolean)) (t' := (.array .int)) (by decide) (by decide)))
  have Fa12 : Fld Z h9 o0 "com/example/lootpath/lootpath/solve/CityQueue" "head" "I" (.int (0 : Int32)) := Fa6.other W9 (Or.inr (slot_ne (Or.inl (ww hw 21 rfl)) (Or.inr (ww hw 11 rfl)) (by decide) (t := .int) (t' := (.array .int)) (by decide) (by decide)))
  have Fa13 : Fld Z h9 o0 "com/example/lootpath/lootpath/solve/CityQueue" "size" "I" (.int (0 : Int32)) := Fa7.other W9 (Or.inr (slot_ne (Or.inl (ww hw 23 rfl)) (Or.inr (ww hw 11 rfl)) (by decide) (t := .int) (t' := (.array .int)) (by decide) (by decide)))
  have Fa14 : PI Z h9 b2 .int p1.toNatClampNeg (fun _ => 0) := Fa8.other W9 (Ne.symm ne_o0_b2)
  have Fa15 : Fld Z h9 o0 "com/example/lootpath/lootpath/solve/CityQueue" "cities" "[I" (.ref b2) := Fa4.same W9
  refine go (u' := T9.setTop (mkF m 11 #[.val (.ref o0), .val (.int p1)] [])) st9 ?_
  refine go (u' := T9.setTop (mkF m 12 #[.val (.ref o0), .val (.int p1)] [(.ref o0)])) (fun _ ks_ => XS.aloadN X9.here hx rfl (hb hby d1_11) rfl rfl ks_) ?_
  refine go (u' := T9.setTop (mkF m 13 #[.val (.ref o0), .val (.int p1)] [(.int p1), (.ref o0)])) (fun _ ks_ => XS.iloadN X9.here hx rfl (hb hby d1_12) rfl  ks_) ?_
  obtain ⟨T16, h16, k16, X16, e16, E16, A16, st16⟩ := newP X9 hx hZ (ww hw 12 rfl) e9 (g := (mkF m 13 #[.val (.ref o0), .val (.int p1)] [(.int p1), (.ref o0)])) rfl (hb hby d1_13) rfl hp0 (cap := 4) hp4 (by decide) (by decide) (by decide)
  obtain ⟨b16, g16⟩ : ∃ z, z = h9.size := ⟨_, rfl⟩
  rw [← g16] at A16 st16
  have ne_o0_b16 : o0 ≠ b16 := Nat.ne_of_lt (Nat.lt_of_lt_of_le Fa10.lt (Nat.le_of_eq g16.symm))
  have ne_b2_b16 : b2 ≠ b16 := Nat.ne_of_lt (Nat.lt_of_lt_of_le Fa14.lt (Nat.le_of_eq g16.symm))
  have g_b16 : n0 ≤ b16 := Nat.le_trans Z9 (Nat.le_of_eq g16.symm)
  have sz_b16 : h0.size ≤ b16 := Nat.le_trans K9.1 (Nat.le_of_eq g16.symm)
  have K16 : Keep h0 h16 [o0] := K9.ext E16
  have Fa17 : Exa Z h16 o0 "com/example/lootpath/lootpath/solve/CityQueue" := Fa10.ext E16
  have Fa18 : Fld Z h16 o0 "com/example/lootpath/lootpath/solve/CityQueue" "cities" "[I" (.ref b2) := Fa15.ext E16
  have Fa19 : Fld Z h16 o0 "com/example/lootpath/lootpath/solve/CityQueue" "waiting" "[Z" .null := Fa11.ext E16
  have Fa20 : Fld Z h16 o0 "com/example/lootpath/lootpath/solve/CityQueue" "head" "I" (.int (0 : Int32)) := Fa12.ext E16
  have Fa21 : Fld Z h16 o0 "com/example/lootpath/lootpath/solve/CityQueue" "size" "I" (.int (0 : Int32)) := Fa13.ext E16
  have Fa22 : PI Z h16 b2 .int p1.toNatClampNeg (fun _ => 0) := Fa14.ext E16
  have Z16 : n0 ≤ h16.size := Nat.le_trans Z9 E16.1
  have Fa23 : PI Z h16 b16 .boolean p1.toNatClampNeg (fun _ => 0) := PI.new A16 hp0 rfl
  refine go (u' := T16.setTop (mkF m 15 #[.val (.ref o0), .val (.int p1)] [(.ref b16), (.ref o0)])) st16 ?_
  obtain ⟨T24, h24, X24, e24, W24, st24⟩ := putF X16 hx hZ hown (host := "") (Or.inl (ww hw 13 rfl)) Via.refl e16 Fa19 Fa17 (Or.inr ⟨(ww hw 14 rfl), rfl, hnm⟩) (ww hw 2 rfl) (ty := (.array .boolean)) (by decide) rfl rfl (g := (mkF m 15 #[.val (.ref o0), .val (.int p1)] [(.ref b16), (.ref o0)])) rfl rfl (hb hby d1_15)
  have N24 := Fr.snoc X24 N9 g_o0
  have K24 : Keep h0 h24 [o0] := K16.wr W24 (Or.inl (List.mem_of_getElem? (i := 0) rfl))
  have Z24 : n0 ≤ h24.size := Nat.le_trans Z16 (Keep.of_wr W24).1
  have Fa25 : Exa Z h24 o0 "com/example/lootpath/lootpath/solve/CityQueue" := Fa17.wr W24
  have Fa26 : Fld Z h24 o0 "com/example/lootpath/lootpath/solve/CityQueue" "cities" "[I" (.ref b2) := Fa18.other W24 (Or.inr (slot_ne (Or.inr (ww hw 11 rfl)) (Or.inr (ww hw 14 rfl)) (by decide) (t := (.array .int)) (t' := (.array .boolean)) (by decide) (by decide)))
  have Fa27 : Fld Z h24 o0 "com/example/lootpath/lootpath/solve/CityQueue" "head" "I" (.int (0 : Int32)) := Fa20.other W24 (Or.inr (slot_ne (Or.inl (ww hw 21 rfl)) (Or.inr (ww hw 14 rfl)) (by decide) (t := .int) (t' := (.array .boolean)) (by decide) (by decide)))
  have Fa28 : Fld Z h24 o0 "com/example/lootpath/lootpath/solve/CityQueue" "size" "I" (.int (0 : Int32)) := Fa21.other W24 (Or.inr (slot_ne (Or.inl (ww hw 23 rfl)) (Or.inr (ww hw 14 rfl)) (by decide) (t := .int) (t' := (.array .boolean)) (by decide) (by decide)))
  have Fa29 : PI Z h24 b2 .int p1.toNatClampNeg (fun _ => 0) := Fa22.other W24 (Ne.symm ne_o0_b2)
  have Fa30 : PI Z h24 b16 .boolean p1.toNatClampNeg (fun _ => 0) := Fa23.other W24 (Ne.symm ne_o0_b16)
  have Fa31 : Fld Z h24 o0 "com/example/lootpath/lootpath/solve/CityQueue" "waiting" "[Z" (.ref b16) := Fa19.same W24
  refine go (u' := T24.setTop (mkF m 18 #[.val (.ref o0), .val (.int p1)] [])) st24 ?_
  rw [hG]
  refine g0 X24 hx hlk hret (hb hby d1_18) ?_ (Nat.le_of_ble_eq_true rfl) (Nat.le_of_ble_eq_true rfl)
  show Q_rm1 Z o0 p1 h0 n0 (none) T24.heap _
  rw [e24]
  exact ⟨b2, b16, rfl, N24, K24, Fa25, Fa26, Fa31, Fa27, Fa28, Fa29, Fa30, sz_b2, sz_b16, ne_b2_b16⟩
theorem pn_com_example_lootpath_lootpath_solve_CityQueue_isEmpty_7 : plainFor (⟨"com/example/lootpath/lootpath/solve/CityQueue", "isEmpty", "()Z"⟩ : MethodName) = true := by first | exact plainFor_of_name (by first | (simp [plainName, overriddenIn]; done) | decide +kernel) | decide +kernel
def Q_rm7 (Z : State) (o0 : Addr) (sz : Int32) (h0 : Heap) (n0 : Nat) (v : Option Value) (h : Heap) (L : List Loc) : Prop := v = some (.int (B (sz = (0 : Int32)))) ∧ Fr n0 L ∧ h = h0
set_option maxRecDepth 65536 in
set_option maxHeartbeats 4000000 in
theorem ef_rm7 (m : MethodId) (o0 : Addr) : entryFrame m #[(.ref o0)] 1 = mkF m 0 #[.val (.ref o0)] [] := by first | (simp [entryFrame, mkF, argsToLocals, Value.category, maxLocals]; done) | rfl
theorem d7_0 : decode prog_5_method_3_code 0 = .ok (.aload_n 0, 1) := by decide +kernel
theorem d7_1 : decode prog_5_method_3_code 1 = .ok (.getfield 21, 3) := by decide +kernel
theorem d7_4 : decode prog_5_method_3_code 4 = .ok (.ifCond .ne 7, 3) := by decide +kernel
theorem d7_7 : decode prog_5_method_3_code 7 = .ok (.iconst 1, 1) := by decide +kernel
theorem d7_8 : decode prog_5_method_3_code 8 = .ok (.goto 4, 3) := by decide +kernel
theorem d7_11 : decode prog_5_method_3_code 11 = .ok (.iconst 0, 1) := by decide +kernel
theorem d7_12 : decode prog_5_method_3_code 12 = .ok (.ireturn, 1) := by decide +kernel
set_option maxRecDepth 65536 in
set_option maxHeartbeats 40000000 in
theorem rm7 (l : Launch) (Z : State) (a0 : Array Value) (hw : ∀ d ∈ tables_1, d.before a0 Z = true) (ws : List Jvm.Cond) (o0 : Addr) (sz : Int32) (h0 : Heap) (n0 : Nat) (Z0 : n0 ≤ h0.size) (F0 : Fld Z h0 o0 "com/example/lootpath/lootpath/solve/CityQueue" "size" "I" (.int sz)) :
    MetFree l (⟨"com/example/lootpath/lootpath/solve/CityQueue", "isEmpty", "()Z"⟩ : MethodName) (head1 (Jvm.Cond.code (⟨"com/example/lootpath/lootpath/solve/CityQueue", "isEmpty", "()Z"⟩ : MethodName) prog_5_method_3_code 1 (some .boolean) :: ws) ({ frames := 0, cells := 0, slots := 0, locals := 0 } : Room)) (fun a U => a = #[(.ref o0)] ∧ Z.Warmed39 U.vm ∧ U.heap = h0) (fun _ _ _ _ _ => True) (fun _ U o U' => ∃ v L, o = .returned v ∧ Q_rm7 Z o0 sz h0 n0 v U'.heap L ∧ FrameEnd U o U' L ({ frames := 0, cells := 0, slots := 0, locals := 0 } : Room).cells ({ frames := 0, cells := 0, slots := 0, locals := 0 } : Room).slots) := by
  refine body pn_com_example_lootpath_lootpath_solve_CityQueue_isEmpty_7 ?_
  intro p e s m below meth c s₁ hx hby hml hown hnm hret hlk hZ e0 X0
  replace hml : c.maxLocals = 1 := hml
  replace hown : s.vm.findClass "com/example/lootpath/lootpath/solve/CityQueue" = some m.cls := hown
  replace hnm : meth.name = "isEmpty" := hnm
  replace hret : meth.sig.returnType = (some .boolean) := hret
  have N0 := Fr.nil n0
  rw [ef_rm7]
  obtain ⟨G, hG⟩ : ∃ G, G = End (Q_rm7 Z o0 sz h0 n0) s ({ frames := 0, cells := 0, slots := 0, locals := 0 } : Room).cells ({ frames := 0, cells := 0, slots := 0, locals := 0 } : Room).slots := ⟨_, rfl⟩
  rw [← hG]
  refine go (u' := s₁.setTop (mkF m 1 #[.val (.ref o0)] [(.ref o0)])) (fun _ ks_ => XS.aloadN X0.here hx rfl (hb hby d7_0) rfl rfl ks_) ?_
  obtain ⟨T1, X1, e1, st1⟩ := getF X0 hx hZ hown (host := "") (Or.inl (ww hw 22 rfl)) Via.refl e0 F0 (g := (mkF m 1 #[.val (.ref o0)] [(.ref o0)])) rfl rfl (hb hby d7_1)
  refine go (u' := T1.setTop (mkF m 4 #[.val (.ref o0)] [(.int sz)])) st1 ?_
  by_cases c4_1 : sz = (0 : Int32)
  ·
    refine go (u' := T1.setTop (mkF m 7 #[.val (.ref o0)] [])) (fun _ ks_ => XS.ifNo X1.here hx rfl (hb hby d7_4) rfl ((if0 _ _).trans (teq c4_1).2) ks_) ?_
    refine go (u' := T1.setTop (mkF m 8 #[.val (.ref o0)] [(.int (1 : Int32))])) (fun _ ks_ => XS.iconst X1.here hx rfl (hb hby d7_7) ks_) ?_
    refine go (u' := T1.setTop (mkF m 12 #[.val (.ref o0)] [(.int (1 : Int32))])) (fun _ ks_ => XS.goto X1.here hx rfl (pc0 := 8) (pc' := 12) rfl (hb hby d7_8) (by decide) (by decide) ks_) ?_
    rw [hG]
    refine gN X1 hx hlk (t := .boolean) hret (by simp) rfl (hb hby d7_12) ?_ (Nat.le_of_ble_eq_true rfl) (Nat.le_of_ble_eq_true rfl)
    show Q_rm7 Z o0 sz h0 n0 (some (.int (1 : Int32))) T1.heap _
    rw [e1]
    exact ⟨congrArg (fun z => some (Value.int z)) (B1 c4_1), N0, rfl⟩
  ·
    refine go (u' := T1.setTop (mkF m 11 #[.val (.ref o0)] [])) (fun _ ks_ => XS.ifYes X1.here hx rfl (pc0 := 4) (pc' := 11) rfl (hb hby d7_4) rfl ((if0 _ _).trans (feq c4_1).2) (by decide) (by decide) ks_) ?_
    refine go (u' := T1.setTop (mkF m 12 #[.val (.ref o0)] [(.int (0 : Int32))])) (fun _ ks_ => XS.iconst X1.here hx rfl (hb hby d7_11) ks_) ?_
    rw [hG]
    refine gN X1 hx hlk (t := .boolean) hret (by simp) rfl (hb hby d7_12) ?_ (Nat.le_of_ble_eq_true rfl) (Nat.le_of_ble_eq_true rfl)
    show Q_rm7 Z o0 sz h0 n0 (some (.int (0 : Int32))) T1.heap _
    rw [e1]
    exact ⟨congrArg (fun z => some (Value.int z)) (B0 c4_1), N0, rfl⟩
theorem pn_com_example_lootpath_lootpath_solve_CityQueue_take_5 : plainFor (⟨"com/example/lootpath/lootpath/solve/CityQueue", "take", "()I"⟩ : MethodName) = true := by first | exact plainFor_of_name (by first | (simp [plainName, overriddenIn]; done) | decide +kernel) | decide +kernel
def Q_rm5 (Z : State) (o0 : Addr) (ca : Addr) (wa : Addr) (hd : Int32) (sz : Int32) (N : Nat) (f : Nat → Int32) (g : Nat → Int32) (x : Int32) (xs : List Int32) (h0 : Heap) (n0 : Nat) (v : Option Value) (h : Heap) (L : List Loc) : Prop := ∃ g1 : Nat → Int32, ∃ hd1 : Int32, ∃ sz1 : Int32, v = some (.int x) ∧ Fr n0 L ∧ Keep h0 h [o0, ca, wa] ∧ (Exa Z h o0 "com/example/lootpath/lootpath/solve/CityQueue") ∧ (Fld Z h o0 "com/example/lootpath/lootpath/solve/CityQueue" "cities" "[I" (.ref ca)) ∧ (Fld Z h o0 "com/example/lootpath/lootpath/solve/CityQueue" "waiting" "[Z" (.ref wa)) ∧ (Fld Z h o0 "com/example/lootpath/lootpath/solve/CityQueue" "head" "I" (.int hd1)) ∧ (Fld Z h o0 "com/example/lootpath/lootpath/solve/CityQueue" "size" "I" (.int sz1)) ∧ (PI Z h ca .int N f) ∧ (PI Z h wa .boolean N g1) ∧ (Rep N f g1 hd1 sz1 xs)
set_option maxRecDepth 65536 in
set_option maxHeartbeats 4000000 in
theorem ef_rm5 (m : MethodId) (o0 : Addr) : entryFrame m #[(.ref o0)] 2 = mkF m 0 #[.val (.ref o0), .unset] [] := by first | (simp [entryFrame, mkF, argsToLocals, Value.category, maxLocals]; done) | rfl
theorem d5_0 : decode prog_5_method_4_code 0 = .ok (.aload_n 0, 1) := by decide +kernel
theorem d5_1 : decode prog_5_method_4_code 1 = .ok (.getfield 7, 3) := by decide +kernel
theorem d5_4 : decode prog_5_method_4_code 4 = .ok (.aload_n 0, 1) := by decide +kernel
theorem d5_5 : decode prog_5_method_4_code 5 = .ok (.getfield 17, 3) := by decide +kernel
theorem d5_8 : decode prog_5_method_4_code 8 = .ok (.iaload, 1) := by decide +kernel
theorem d5_9 : decode prog_5_method_4_code 9 = .ok (.istore_n 1, 1) := by decide +kernel
theorem d5_10 : decode prog_5_method_4_code 10 = .ok (.aload_n 0, 1) := by decide +kernel
theorem d5_11 : decode prog_5_method_4_code 11 = .ok (.aload_n 0, 1) := by decide +kernel
theorem d5_12 : decode prog_5_method_4_code 12 = .ok (.getfield 17, 3) := by decide +kernel
theorem d5_15 : decode prog_5_method_4_code 15 = .ok (.iconst 1, 1) := by decide +kernel
theorem d5_16 : decode prog_5_method_4_code 16 = .ok (.iadd, 1) := by decide +kernel
theorem d5_17 : decode prog_5_method_4_code 17 = .ok (.aload_n 0, 1) := by decide +kernel
theorem d5_18 : decode prog_5_method_4_code 18 = .ok (.getfield 7, 3) := by decide +kernel
theorem d5_21 : decode prog_5_method_4_code 21 = .ok (.arraylength, 1) := by decide +kernel
theorem d5_22 : decode prog_5_method_4_code 22 = .ok (.if_icmp .ne 7, 3) := by decide +kernel
theorem d5_25 : decode prog_5_method_4_code 25 = .ok (.iconst 0, 1) := by decide +kernel
theorem d5_26 : decode prog_5_method_4_code 26 = .ok (.goto 9, 3) := by decide +kernel
theorem d5_29 : decode prog_5_method_4_code 29 = .ok (.aload_n 0, 1) := by decide +kernel
theorem d5_30 : decode prog_5_method_4_code 30 = .ok (.getfield 17, 3) := by decide +kernel
theorem d5_33 : decode prog_5_method_4_code 33 = .ok (.iconst 1, 1) := by decide +kernel
theorem d5_34 : decode prog_5_method_4_code 34 = .ok (.iadd, 1) := by decide +kernel
theorem d5_35 : decode prog_5_method_4_code 35 = .ok (.putfield 17, 3) := by decide +kernel
theorem d5_38 : decode prog_5_method_4_code 38 = .ok (.aload_n 0, 1) := by decide +kernel
theorem d5_39 : decode prog_5_method_4_code 39 = .ok (.dup, 1) := by decide +kernel
theorem d5_40 : decode prog_5_method_4_code 40 = .ok (.getfield 21, 3) := by decide +kernel
theorem d5_43 : decode prog_5_method_4_code 43 = .ok (.iconst 1, 1) := by decide +kernel
theorem d5_44 : decode prog_5_method_4_code 44 = .ok (.isub, 1) := by decide +kernel
theorem d5_45 : decode prog_5_method_4_code 45 = .ok (.putfield 21, 3) := by decide +kernel
theorem d5_48 : decode prog_5_method_4_code 48 = .ok (.aload_n 0, 1) := by decide +kernel
theorem d5_49 : decode prog_5_method_4_code 49 = .ok (.getfield 13, 3) := by decide +kernel
theorem d5_52 : decode prog_5_method_4_code 52 = .ok (.iload_n 1, 1) := by decide +kernel
theorem d5_53 : decode prog_5_method_4_code 53 = .ok (.iconst 0, 1) := by decide +kernel
theorem d5_54 : decode prog_5_method_4_code 54 = .ok (.bastore, 1) := by decide +kernel
theorem d5_55 : decode prog_5_method_4_code 55 = .ok (.iload_n 1, 1) := by decide +kernel
theorem d5_56 : decode prog_5_method_4_code 56 = .ok (.ireturn, 1) := by decide +kernel
set_option maxRecDepth 65536 in
set_option maxHeartbeats 40000000 in
theorem rm5 (l : Launch) (Z : State) (a0 : Array Value) (hw : ∀ d ∈ tables_1, d.before a0 Z = true) (ws : List Jvm.Cond) (o0 : Addr) (ca : Addr) (wa : Addr) (hd : Int32) (sz : Int32) (N : Nat) (f : Nat → Int32) (g : Nat → Int32) (x : Int32) (xs : List Int32) (h0 : Heap) (n0 : Nat) (Z0 : n0 ≤ h0.size) (g_o0 : n0 ≤ o0) (g_ca : n0 ≤ ca) (g_wa : n0 ≤ wa) (ne_o0_ca : o0 ≠ ca) (ne_o0_wa : o0 ≠ wa) (ne_ca_wa : ca ≠ wa) (F0 : Exa Z h0 o0 "com/example/lootpath/lootpath/solve/CityQueue") (F1 : Fld Z h0 o0 "com/example/lootpath/lootpath/solve/CityQueue" "cities" "[I" (.ref ca)) (F2 : Fld Z h0 o0 "com/example/lootpath/lootpath/solve/CityQueue" "waiting" "[Z" (.ref wa)) (F3 : Fld Z h0 o0 "com/example/lootpath/lootpath/solve/CityQueue" "head" "I" (.int hd)) (F4 : Fld Z h0 o0 "com/example/lootpath/lootpath/solve/CityQueue" "size" "I" (.int sz)) (F5 : PI Z h0 ca .int N f) (F6 : PI Z h0 wa .boolean N g) (hR : Rep N f g hd sz (x :: xs)) :
    MetFree l (⟨"com/example/lootpath/lootpath/solve/CityQueue", "take", "()I"⟩ : MethodName) (head1 (Jvm.Cond.code (⟨"com/example/lootpath/lootpath/solve/CityQueue", "take", "()I"⟩ : MethodName) prog_5_method_4_code 2 (some .int) :: ws) ({ frames := 0, cells := 0, slots := 0, locals := 0 } : Room)) (fun a U => a = #[(.ref o0)] ∧ Z.Warmed39 U.vm ∧ U.heap = h0) (fun _ _ _ _ _ => True) (fun _ U o U' => ∃ v L, o = .returned v ∧ Q_rm5 Z o0 ca wa hd sz N f g x xs h0 n0 v U'.heap L ∧ FrameEnd U o U' L ({ frames := 0, cells := 0, slots := 0, locals := 0 } : Room).cells ({ frames := 0, cells := 0, slots := 0, locals := 0 } : Room).slots) := by
  refine body pn_com_example_lootpath_lootpath_solve_CityQueue_take_5 ?_
  intro p e s m below meth c s₁ hx hby hml hown hnm hret hlk hZ e0 X0
  replace hml : c.maxLocals = 2 := hml
  replace hown : s.vm.findClass "com/example/lootpath/lootpath/solve/CityQueue" = some m.cls := hown
  replace hnm : meth.name = "take" := hnm
  replace hret : meth.sig.returnType = (some .int) := hret
  have N0 := Fr.nil n0
  rw [ef_rm5]
  obtain ⟨G, hG⟩ : ∃ G, G = End (Q_rm5 Z o0 ca wa hd sz N f g x xs h0 n0) s ({ frames := 0, cells := 0, slots := 0, locals := 0 } : Room).cells ({ frames := 0, cells := 0, slots := 0, locals := 0 } : Room).slots := ⟨_, rfl⟩
  rw [← hG]
  refine go (u' := s₁.setTop (mkF m 1 #[.val (.ref o0), .unset] [(.ref o0)])) (fun _ ks_ => XS.aloadN X0.here hx rfl (hb hby d5_0) rfl rfl ks_) ?_
  obtain ⟨T1, X1, e1, st1⟩ := getF X0 hx hZ hown (host := "") (Or.inl (ww hw 10 rfl)) Via.refl e0 F1 (g := (mkF m 1 #[.val (.ref o0), .unset] [(.ref o0)])) rfl rfl (hb hby d5_1)
  refine go (u' := T1.setTop (mkF m 4 #[.val (.ref o0), .unset] [(.ref ca)])) st1 ?_
  refine go (u' := T1.setTop (mkF m 5 #[.val (.ref o0), .unset] [(.ref o0), (.ref ca)])) (fun _ ks_ => XS.aloadN X1.here hx rfl (hb hby d5_4) rfl rfl ks_) ?_
  obtain ⟨T2, X2, e2, st2⟩ := getF X1 hx hZ hown (host := "") (Or.inl (ww hw 20 rfl)) Via.refl e1 F3 (g := (mkF m 5 #[.val (.ref o0), .unset] [(.ref o0), (.ref ca)])) rfl rfl (hb hby d5_5)
  refine go (u' := T2.setTop (mkF m 8 #[.val (.ref o0), .unset] [(.int hd), (.ref ca)])) st2 ?_
  refine go (u' := T2.setTop (mkF m 9 #[.val (.ref o0), .unset] [(.int x)])) (own_iaload X2 hx hZ e2 F5 (j := hd) (v := x) hR.head.1 hR.head.2 hR.first (f := (mkF m 8 #[.val (.ref o0), .unset] [(.int hd), (.ref ca)])) rfl rfl (hb hby d5_8)) ?_
  refine go (u' := T2.setTop (mkF m 10 #[.val (.ref o0), .val (.int x)] [])) (fun _ ks_ => XS.istoreN X2.here hx rfl (hb hby d5_9) rfl  (l' := #[.val (.ref o0), .val (.int x)]) rfl ks_) ?_
  refine go (u' := T2.setTop (mkF m 11 #[.val (.ref o0), .val (.int x)] [(.ref o0)])) (fun _ ks_ => XS.aloadN X2.here hx rfl (hb hby d5_10) rfl rfl ks_) ?_
  refine go (u' := T2.setTop (mkF m 12 #[.val (.ref o0), .val (.int x)] [(.ref o0), (.ref o0)])) (fun _ ks_ => XS.aloadN X2.here hx rfl (hb hby d5_11) rfl rfl ks_) ?_
  obtain ⟨T3, X3, e3, st3⟩ := getF X2 hx hZ hown (host := "") (Or.inl (ww hw 20 rfl)) Via.refl e2 F3 (g := (mkF m 12 #[.val (.ref o0), .val (.int x)] [(.ref o0), (.ref o0)])) rfl rfl (hb hby d5_12)
  refine go (u' := T3.setTop (mkF m 15 #[.val (.ref o0), .val (.int x)] [(.int hd), (.ref o0)])) st3 ?_
  refine go (u' := T3.setTop (mkF m 16 #[.val (.ref o0), .val (.int x)] [(.int (1 : Int32)), (.int hd), (.ref o0)])) (fun _ ks_ => XS.iconst X3.here hx rfl (hb hby d5_15) ks_) ?_
  refine go (u' := T3.setTop (mkF m 17 #[.val (.ref o0), .val (.int x)] [(.int (hd + (1 : Int32))), (.ref o0)])) (fun _ ks_ => XS.iadd X3.here hx rfl (hb hby d5_16) rfl ks_) ?_
  refine go (u' := T3.setTop (mkF m 18 #[.val (.ref o0), .val (.int x)] [(.ref o0), (.int (hd + (1 : Int32))), (.ref o0)])) (fun _ ks_ => XS.aloadN X3.here hx rfl (hb hby d5_17) rfl rfl ks_) ?_
  obtain ⟨T4, X4, e4, st4⟩ := getF X3 hx hZ hown (host := "") (Or.inl (ww hw 10 rfl)) Via.refl e3 F1 (g := (mkF m 18 #[.val (.ref o0), .val (.int x)] [(.ref o0), (.int (hd + (1 : Int32))), (.ref o0)])) rfl rfl (hb hby d5_18)
  refine go (u' := T4.setTop (mkF m 21 #[.val (.ref o0), .val (.int x)] [(.ref ca), (.int (hd + (1 : Int32))), (.ref o0)])) st4 ?_
  refine go (u' := T4.setTop (mkF m 22 #[.val (.ref o0), .val (.int x)] [(.int (N).toInt32), (.int (hd + (1 : Int32))), (.ref o0)])) (own_alen X4 hx hZ e4 F5 (z := (N).toInt32) rfl (f := (mkF m 21 #[.val (.ref o0), .val (.int x)] [(.ref ca), (.int (hd + (1 : Int32))), (.ref o0)])) rfl rfl (hb hby d5_21)) ?_
  by_cases c22_1 : (hd + (1 : Int32)) = (N).toInt32
  ·
    refine go (u' := T4.setTop (mkF m 25 #[.val (.ref o0), .val (.int x)] [(.ref o0)])) (fun _ ks_ => XS.icmpNo X4.here hx rfl (hb hby d5_22) rfl (teq c22_1).2 ks_) ?_
    refine go (u' := T4.setTop (mkF m 26 #[.val (.ref o0), .val (.int x)] [(.int (0 : Int32)), (.ref o0)])) (fun _ ks_ => XS.iconst X4.here hx rfl (hb hby d5_25) ks_) ?_
    refine go (u' := T4.setTop (mkF m 35 #[.val (.ref o0), .val (.int x)] [(.int (0 : Int32)), (.ref o0)])) (fun _ ks_ => XS.goto X4.here hx rfl (pc0 := 26) (pc' := 35) rfl (hb hby d5_26) (by decide) (by decide) ks_) ?_
    obtain ⟨T5, h5, X5, e5, W5, st5⟩ := putF X4 hx hZ hown (host := "") (Or.inl (ww hw 20 rfl)) Via.refl e4 F3 F0 (Or.inl (ww hw 21 rfl)) (ww hw 2 rfl) (ty := .int) (by decide) rfl rfl (g := (mkF m 35 #[.val (.ref o0), .val (.int x)] [(.int (0 : Int32)), (.ref o0)])) rfl rfl (hb hby d5_35)
    have N5 := Fr.snoc X5 N0 g_o0
    have K5 : Keep h0 h5 [o0, ca, wa] := (Keep.refl h0 [o0, ca, wa]).wr W5 (Or.inl (List.mem_of_getElem? (i := 0) rfl))
    have Z5 : n0 ≤ h5.size := Nat.le_trans Z0 (Keep.of_wr W5).1
    have Fa6 : Exa Z h5 o0 "com/example/lootpath/lootpath/solve/CityQueue" := F0.wr W5
    have Fa7 : Fld Z h5 o0 "com/example/lootpath/lootpath/solve/CityQueue" "cities" "[I" (.ref ca) := F1.other W5 (Or.inr (slot_ne (Or.inr (ww hw 11 rfl)) (Or.inl (ww hw 21 rfl)) (by decide) (t := (.array .int)) (t' := .int) (by decide) (by decide)))
    have Fa8 : Fld Z h5 o0 "com/example/lootpath/lootpath/solve/CityQueue" "waiting" "[Z" (.ref wa) := F2.other W5 (Or.inr (slot_ne (Or.inr (ww hw 14 rfl)) (Or.inl (ww hw 21 rfl)) (by decide) (t := (.array .boolean)) (t' := .int) (by decide) (by decide)))
    have Fa9 : Fld Z h5 o0 "com/example/lootpath/lootpath/solve/CityQueue" "size" "I" (.int sz) := F4.other W5 (Or.inr (slot_ne (Or.inl (ww hw 23 rfl)) (Or.inl (ww hw 21 rfl)) (by decide) (t := .int) (t' := .int) (by decide) (by decide)))
    have Fa10 : PI Z h5 ca .int N f := F5.other W5 (Ne.symm ne_o0_ca)
    have Fa11 : PI Z h5 wa .boolean N g := F6.other W5 (Ne.symm ne_o0_wa)
    have Fa12 : Fld Z h5 o0 "com/example/lootpath/lootpath/solve/CityQueue" "head" "I" (.int (0 : Int32)) := F3.same W5
    refine go (u' := T5.setTop (mkF m 38 #[.val (.ref o0), .val (.int x)] [])) st5 ?_
    refine go (u' := T5.setTop (mkF m 39 #[.val (.ref o0), .val (.int x)] [(.ref o0)])) (fun _ ks_ => XS.aloadN X5.here hx rfl (hb hby d5_38) rfl rfl ks_) ?_
    refine go (u' := T5.setTop (mkF m 40 #[.val (.ref o0), .val (.int x)] [(.ref o0), (.ref o0)])) (fun _ ks_ => XS.dup X5.here hx rfl (hb hby d5_39) rfl rfl ks_) ?_
    obtain ⟨T13, X13, e13, st13⟩ := getF X5 hx hZ hown (host := "") (Or.inl (ww hw 22 rfl)) Via.refl e5 Fa9 (g := (mkF m 40 #[.val (.ref o0), .val (.int x)] [(.ref o0), (.ref o0)])) rfl rfl (hb hby d5_40)
    refine go (u' := T13.setTop (mkF m 43 #[.val (.ref o0), .val (.int x)] [(.int sz), (.ref o0)])) st13 ?_
    refine go (u' := T13.setTop (mkF m 44 #[.val (.ref o0), .val (.int x)] [(.int (1 : Int32)), (.int sz), (.ref o0)])) (fun _ ks_ => XS.iconst X13.here hx rfl (hb hby d5_43) ks_) ?_
    refine go (u' := T13.setTop (mkF m 45 #[.val (.ref o0), .val (.int x)] [(.int (sz - (1 : Int32))), (.ref o0)])) (fun _ ks_ => XS.isub X13.here hx rfl (hb hby d5_44) rfl ks_) ?_
    obtain ⟨T14, h14, X14, e14, W14, st14⟩ := putF X13 hx hZ hown (host := "") (Or.inl (ww hw 22 rfl)) Via.refl e13 Fa9 Fa6 (Or.inl (ww hw 23 rfl)) (ww hw 2 rfl) (ty := .int) (by decide) rfl rfl (g := (mkF m 45 #[.val (.ref o0), .val (.int x)] [(.int (sz - (1 : Int32))), (.ref o0)])) rfl rfl (hb hby d5_45)
    have N14 := Fr.snoc X14 N5 g_o0
    have K14 : Keep h0 h14 [o0, ca, wa] := K5.wr W14 (Or.inl (List.mem_of_getElem? (i := 0) rfl))
    have Z14 : n0 ≤ h14.size := Nat.le_trans Z5 (Keep.of_wr W14).1
    have Fa15 : Exa Z h14 o0 "com/example/lootpath/lootpath/solve/CityQueue" := Fa6.wr W14
    have Fa16 : Fld Z h14 o0 "com/example/lootpath/lootpath/solve/CityQueue" "cities" "[I" (.ref ca) := Fa7.other W14 (Or.inr (slot_ne (Or.inr (ww hw 11 rfl)) (Or.inl (ww hw 23 rfl)) (by decide) (t := (.array .int)) (t' := .int) (by decide) (by decide)))
    have Fa17 : Fld Z h14 o0 "com/example/lootpath/lootpath/solve/CityQueue" "waiting" "[Z" (.ref wa) := Fa8.other W14 (Or.inr (slot_ne (Or.inr (ww hw 14 rfl)) (Or.inl (ww hw 23 rfl)) (by decide) (t := (.array .boolean)) (t' := .int) (by decide) (by decide)))
    have Fa18 : Fld Z h14 o0 "com/example/lootpath/lootpath/solve/CityQueue" "head" "I" (.int (0 : Int32)) := Fa12.other W14 (Or.inr (slot_ne (Or.inl (ww hw 21 rfl)) (Or.inl (ww hw 23 rfl)) (by decide) (t := .int) (t' := .int) (by decide) (by decide)))
    have Fa19 : PI Z h14 ca .int N f := Fa10.other W14 (Ne.symm ne_o0_ca)
    have Fa20 : PI Z h14 wa .boolean N g := Fa11.other W14 (Ne.symm ne_o0_wa)
    have Fa21 : Fld Z h14 o0 "com/example/lootpath/lootpath/solve/CityQueue" "size" "I" (.int (sz - (1 : Int32))) := Fa9.same W14
    refine go (u' := T14.setTop (mkF m 48 #[.val (.ref o0), .val (.int x)] [])) st14 ?_
    refine go (u' := T14.setTop (mkF m 49 #[.val (.ref o0), .val (.int x)] [(.ref o0)])) (fun _ ks_ => XS.aloadN X14.here hx rfl (hb hby d5_48) rfl rfl ks_) ?_
    obtain ⟨T22, X22, e22, st22⟩ := getF X14 hx hZ hown (host := "") (Or.inl (ww hw 13 rfl)) Via.refl e14 Fa17 (g := (mkF m 49 #[.val (.ref o0), .val (.int x)] [(.ref o0)])) rfl rfl (hb hby d5_49)
    refine go (u' := T22.setTop (mkF m 52 #[.val (.ref o0), .val (.int x)] [(.ref wa)])) st22 ?_
    refine go (u' := T22.setTop (mkF m 53 #[.val (.ref o0), .val (.int x)] [(.int x), (.ref wa)])) (fun _ ks_ => XS.iloadN X22.here hx rfl (hb hby d5_52) rfl  ks_) ?_
    refine go (u' := T22.setTop (mkF m 54 #[.val (.ref o0), .val (.int x)] [(.int (0 : Int32)), (.int x), (.ref wa)])) (fun _ ks_ => XS.iconst X22.here hx rfl (hb hby d5_53) ks_) ?_
    obtain ⟨T23, h23, X23, e23, W23, st23⟩ := own_bastoreZ X22 hx hZ e22 Fa20 (j := x) (x := (0 : Int32)) (hnx := rfl) hR.mem.1 hR.mem.2 (f := (mkF m 54 #[.val (.ref o0), .val (.int x)] [(.int (0 : Int32)), (.int x), (.ref wa)])) rfl rfl (hb hby d5_54)
    have N23 := Fr.snoc X23 N14 g_wa
    have K23 : Keep h0 h23 [o0, ca, wa] := K14.wr W23 (Or.inl (List.mem_of_getElem? (i := 2) rfl))
    have Z23 : n0 ≤ h23.size := Nat.le_trans Z14 (Keep.of_wr W23).1
    have Fa24 : Exa Z h23 o0 "com/example/lootpath/lootpath/solve/CityQueue" := Fa15.wr W23
    have Fa25 : Fld Z h23 o0 "com/example/lootpath/lootpath/solve/CityQueue" "cities" "[I" (.ref ca) := Fa16.other W23 (Or.inl ne_o0_wa)
    have Fa26 : Fld Z h23 o0 "com/example/lootpath/lootpath/solve/CityQueue" "waiting" "[Z" (.ref wa) := Fa17.other W23 (Or.inl ne_o0_wa)
    have Fa27 : Fld Z h23 o0 "com/example/lootpath/lootpath/solve/CityQueue" "head" "I" (.int (0 : Int32)) := Fa18.other W23 (Or.inl ne_o0_wa)
    have Fa28 : Fld Z h23 o0 "com/example/lootpath/lootpath/solve/CityQueue" "size" "I" (.int (sz - (1 : Int32))) := Fa21.other W23 (Or.inl ne_o0_wa)
    have Fa29 : PI Z h23 ca .int N f := Fa19.other W23 ne_ca_wa
    have Fa30 : PI Z h23 wa .boolean N (upd g (x).toNatClampNeg (0 : Int32)) := Fa20.set hR.mem.2 W23
    refine go (u' := T23.setTop (mkF m 55 #[.val (.ref o0), .val (.int x)] [])) st23 ?_
    refine go (u' := T23.setTop (mkF m 56 #[.val (.ref o0), .val (.int x)] [(.int x)])) (fun _ ks_ => XS.iloadN X23.here hx rfl (hb hby d5_55) rfl  ks_) ?_
    rw [hG]
    refine gI X23 hx hlk hret (hb hby d5_56) ?_ (Nat.le_of_ble_eq_true rfl) (Nat.le_of_ble_eq_true rfl)
    show Q_rm5 Z o0 ca wa hd sz N f g x xs h0 n0 (some (.int x)) T23.heap _
    rw [e23]
    exact ⟨(upd g (x).toNatClampNeg (0 : Int32)), (0 : Int32), (sz - (1 : Int32)), rfl, N23, K23, Fa24, Fa25, Fa26, Fa27, Fa28, Fa29, Fa30, (hR.take (if_pos c22_1).symm)⟩
  ·
    refine go (u' := T4.setTop (mkF m 29 #[.val (.ref o0), .val (.int x)] [(.ref o0)])) (fun _ ks_ => XS.icmpYes X4.here hx rfl (pc0 := 22) (pc' := 29) rfl (hb hby d5_22) rfl (feq c22_1).2 (by decide) (by decide) ks_) ?_
    refine go (u' := T4.setTop (mkF m 30 #[.val (.ref o0), .val (.int x)] [(.ref o0), (.ref o0)])) (fun _ ks_ => XS.aloadN X4.here hx rfl (hb hby d5_29) rfl rfl ks_) ?_
    obtain ⟨T31, X31, e31, st31⟩ := getF X4 hx hZ hown (host := "") (Or.inl (ww hw 20 rfl)) Via.refl e4 F3 (g := (mkF m 30 #[.val (.ref o0), .val (.int x)] [(.ref o0), (.ref o0)])) rfl rfl (hb hby d5_30)
    refine go (u' := T31.setTop (mkF m 33 #[.val (.ref o0), .val (.int x)] [(.int hd), (.ref o0)])) st31 ?_
    refine go (u' := T31.setTop (mkF m 34 #[.val (.ref o0), .val (.int x)] [(.int (1 : Int32)), (.int hd), (.ref o0)])) (fun _ ks_ => XS.iconst X31.here hx rfl (hb hby d5_33) ks_) ?_
    refine go (u' := T31.setTop (mkF m 35 #[.val (.ref o0), .val (.int x)] [(.int (hd + (1 : Int32))), (.ref o0)])) (fun _ ks_ => XS.iadd X31.here hx rfl (hb hby d5_34) rfl ks_) ?_
    obtain ⟨T32, h32, X32, e32, W32, st32⟩ := putF X31 hx hZ hown (host := "") (Or.inl (ww hw 20 rfl)) Via.refl e31 F3 F0 (Or.inl (ww hw 21 rfl)) (ww hw 2 rfl) (ty := .int) (by decide) rfl rfl (g := (mkF m 35 #[.val (.ref o0), .val (.int x)] [(.int (hd + (1 : Int32))), (.ref o0)])) rfl rfl (hb hby d5_35)
    have N32 := Fr.snoc X32 N0 g_o0
    have K32 : Keep h0 h32 [o0, ca, wa] := (Keep.refl h0 [o0, ca, wa]).wr W32 (Or.inl (List.mem_of_getElem? (i := 0) rfl))
    have Z32 : n0 ≤ h32.size := Nat.le_trans Z0 (Keep.of_wr W32).1
    have Fa33 : Exa Z h32 o0 "com/example/lootpath/lootpath/solve/CityQueue" := F0.wr W32
    have Fa34 : Fld Z h32 o0 "com/example/lootpath/lootpath/solve/CityQueue" "cities" "[I" (.ref ca) := F1.other W32 (Or.inr (slot_ne (Or.inr (ww hw 11 rfl)) (Or.inl (ww hw 21 rfl)) (by decide) (t := (.array .int)) (t' := .int) (by decide) (by decide)))
    have Fa35 : Fld Z h32 o0 "com/example/lootpath/lootpath/solve/CityQueue" "waiting" "[Z" (.ref wa) := F2.other W32 (Or.inr (slot_ne (Or.inr (ww hw 14 rfl)) (Or.inl (ww hw 21 rfl)) (by decide) (t := (.array .boolean)) (t' := .int) (by decide) (by decide)))
    have Fa36 : Fld Z h32 o0 "com/example/lootpath/lootpath/solve/CityQueue" "size" "I" (.int sz) := F4.other W32 (Or.inr (slot_ne (Or.inl (ww hw 23 rfl)) (Or.inl (ww hw 21 rfl)) (by decide) (t := .int) (t' := .int) (by decide) (by decide)))
    have Fa37 : PI Z h32 ca .int N f := F5.other W32 (Ne.symm ne_o0_ca)
    have Fa38 : PI Z h32 wa .boolean N g := F6.other W32 (Ne.symm ne_o0_wa)
    have Fa39 : Fld Z h32 o0 "com/example/lootpath/lootpath/solve/CityQueue" "head" "I" (.int (hd + (1 : Int32))) := F3.same W32
    refine go (u' := T32.setTop (mkF m 38 #[.val (.ref o0), .val (.int x)] [])) st32 ?_
    refine go (u' := T32.setTop (mkF m 39 #[.val (.ref o0), .val (.int x)] [(.ref o0)])) (fun _ ks_ => XS.aloadN X32.here hx rfl (hb hby d5_38) rfl rfl ks_) ?_
    refine go (u' := T32.setTop (mkF m 40 #[.val (.ref o0), .val (.int x)] [(.ref o0), (.ref o0)])) (fun _ ks_ => XS.dup X32.here hx rfl (hb hby d5_39) rfl rfl ks_) ?_
    obtain ⟨T40, X40, e40, st40⟩ := getF X32 hx hZ hown (host := "") (Or.inl (ww hw 22 rfl)) Via.refl e32 Fa36 (g := (mkF m 40 #[.val (.ref o0), .val (.int x)] [(.ref o0), (.ref o0)])) rfl rfl (hb hby d5_40)
    refine go (u' := T40.setTop (mkF m 43 #[.val (.ref o0), .val (.int x)] [(.int sz), (.ref o0)])) st40 ?_
    refine go (u' := T40.setTop (mkF m 44 #[.val (.ref o0), .val (.int x)] [(.int (1 : Int32)), (.int sz), (.ref o0)])) (fun _ ks_ => XS.iconst X40.here hx rfl (hb hby d5_43) ks_) ?_
    refine go (u' := T40.setTop (mkF m 45 #[.val (.ref o0), .val (.int x)] [(.int (sz - (1 : Int32))), (.ref o0)])) (fun _ ks_ => XS.isub X40.here hx rfl (hb hby d5_44) rfl ks_) ?_
    obtain ⟨T41, h41, X41, e41, W41, st41⟩ := putF X40 hx hZ hown (host := "") (Or.inl (ww hw 22 rfl)) Via.refl e40 Fa36 Fa33 (Or.inl (ww hw 23 rfl)) (ww hw 2 rfl) (ty := .int) (by decide) rfl rfl (g := (mkF m 45 #[.val (.ref o0), .val (.int x)] [(.int (sz - (1 : Int32))), (.ref o0)])) rfl rfl (hb hby d5_45)
    have N41 := Fr.snoc X41 N32 g_o0
    have K41 : Keep h0 h41 [o0, ca, wa] := K32.wr W41 (Or.inl (List.mem_of_getElem? (i := 0) rfl))
    have Z41 : n0 ≤ h41.size := Nat.le_trans Z32 (Keep.of_wr W41).1
    have Fa42 : Exa Z h41 o0 "com/example/lootpath/lootpath/solve/CityQueue" := Fa33.wr W41
    have Fa43 : Fld Z h41 o0 "com/example/lootpath/lootpath/solve/CityQueue" "cities" "[I" (.ref ca) := Fa34.other W41 (Or.inr (slot_ne (Or.inr (ww hw 11 rfl)) (Or.inl (ww hw 23 rfl)) (by decide) (t := (.array .int)) (t' := .int) (by decide) (by decide)))
    have Fa44 : Fld Z h41 o0 "com/example/lootpath/lootpath/solve/CityQueue" "waiting" "[Z" (.ref wa) := Fa35.other W41 (Or.inr (slot_ne (Or.inr (ww hw 14 rfl)) (Or.inl (ww hw 23 rfl)) (by decide) (t := (.array .boolean)) (t' := .int) (by decide) (by decide)))
    have Fa45 : Fld Z h41 o0 "com/example/lootpath/lootpath/solve/CityQueue" "head" "I" (.int (hd + (1 : Int32))) := Fa39.other W41 (Or.inr (slot_ne (Or.inl (ww hw 21 rfl)) (Or.inl (ww hw 23 rfl)) (by decide) (t := .int) (t' := .int) (by decide) (by decide)))
    have Fa46 : PI Z h41 ca .int N f := Fa37.other W41 (Ne.symm ne_o0_ca)
    have Fa47 : PI Z h41 wa .boolean N g := Fa38.other W41 (Ne.symm ne_o0_wa)
    have Fa48 : Fld Z h41 o0 "com/example/lootpath/lootpath/solve/CityQueue" "size" "I" (.int (sz - (1 : Int32))) := Fa36.same W41
    refine go (u' := T41.setTop (mkF m 48 #[.val (.ref o0), .val (.int x)] [])) st41 ?_
    refine go (u' := T41.setTop (mkF m 49 #[.val (.ref o0), .val (.int x)] [(.ref o0)])) (fun _ ks_ => XS.aloadN X41.here hx rfl (hb hby d5_48) rfl rfl ks_) ?_
    obtain ⟨T49, X49, e49, st49⟩ := getF X41 hx hZ hown (host := "") (Or.inl (ww hw 13 rfl)) Via.refl e41 Fa44 (g := (mkF m 49 #[.val (.ref o0), .val (.int x)] [(.ref o0)])) rfl rfl (hb hby d5_49)
    refine go (u' := T49.setTop (mkF m 52 #[.val (.ref o0), .val (.int x)] [(.ref wa)])) st49 ?_
    refine go (u' := T49.setTop (mkF m 53 #[.val (.ref o0), .val (.int x)] [(.int x), (.ref wa)])) (fun _ ks_ => XS.iloadN X49.here hx rfl (hb hby d5_52) rfl  ks_) ?_
    refine go (u' := T49.setTop (mkF m 54 #[.val (.ref o0), .val (.int x)] [(.int (0 : Int32)), (.int x), (.ref wa)])) (fun _ ks_ => XS.iconst X49.here hx rfl (hb hby d5_53) ks_) ?_
    obtain ⟨T50, h50, X50, e50, W50, st50⟩ := own_bastoreZ X49 hx hZ e49 Fa47 (j := x) (x := (0 : Int32)) (hnx := rfl) hR.mem.1 hR.mem.2 (f := (mkF m 54 #[.val (.ref o0), .val (.int x)] [(.int (0 : Int32)), (.int x), (.ref wa)])) rfl rfl (hb hby d5_54)
    have N50 := Fr.snoc X50 N41 g_wa
    have K50 : Keep h0 h50 [o0, ca, wa] := K41.wr W50 (Or.inl (List.mem_of_getElem? (i := 2) rfl))
    have Z50 : n0 ≤ h50.size := Nat.le_trans Z41 (Keep.of_wr W50).1
    have Fa51 : Exa Z h50 o0 "com/example/lootpath/lootpath/solve/CityQueue" := Fa42.wr W50
    have Fa52 : Fld Z h50 o0 "com/example/lootpath/lootpath/solve/CityQueue" "cities" "[I" (.ref ca) := Fa43.other W50 (Or.inl ne_o0_wa)
    have Fa53 : Fld Z h50 o0 "com/example/lootpath/lootpath/solve/CityQueue" "waiting" "[Z" (.ref wa) := Fa44.other W50 (Or.inl ne_o0_wa)
    have Fa54 : Fld Z h50 o0 "com/example/lootpath/lootpath/solve/CityQueue" "head" "I" (.int (hd + (1 : Int32))) := Fa45.other W50 (Or.inl ne_o0_wa)
    have Fa55 : Fld Z h50 o0 "com/example/lootpath/lootpath/solve/CityQueue" "size" "I" (.int (sz - (1 : Int32))) := Fa48.other W50 (Or.inl ne_o0_wa)
    have Fa56 : PI Z h50 ca .int N f := Fa46.other W50 ne_ca_wa
    have Fa57 : PI Z h50 wa .boolean N (upd g (x).toNatClampNeg (0 : Int32)) := Fa47.set hR.mem.2 W50
    refine go (u' := T50.setTop (mkF m 55 #[.val (.ref o0), .val (.int x)] [])) st50 ?_
    refine go (u' := T50.setTop (mkF m 56 #[.val (.ref o0), .val (.int x)] [(.int x)])) (fun _ ks_ => XS.iloadN X50.here hx rfl (hb hby d5_55) rfl  ks_) ?_
    rw [hG]
    refine gI X50 hx hlk hret (hb hby d5_56) ?_ (Nat.le_of_ble_eq_true rfl) (Nat.le_of_ble_eq_true rfl)
    show Q_rm5 Z o0 ca wa hd sz N f g x xs h0 n0 (some (.int x)) T50.heap _
    rw [e50]
    exact ⟨(upd g (x).toNatClampNeg (0 : Int32)), (hd + (1 : Int32)), (sz - (1 : Int32)), rfl, N50, K50, Fa51, Fa52, Fa53, Fa54, Fa55, Fa56, Fa57, (hR.take (if_neg c22_1).symm)⟩
theorem pn_com_example_lootpath_lootpath_solve_CityQueue_add_3 : plainFor (⟨"com/example/lootpath/lootpath/solve/CityQueue", "add", "([I)V"⟩ : MethodName) = true := by first | exact plainFor_of_name (by first | (simp [plainName, overriddenIn]; done) | decide +kernel) | decide +kernel
def Q_rm3 (Z : State) (o0 : Addr) (o1 : Addr) (ca : Addr) (wa : Addr) (hd : Int32) (sz : Int32) (N : Nat) (f : Nat → Int32) (g : Nat → Int32) (k : Nat) (lf : Nat → Int32) (xs : List Int32) (h0 : Heap) (n0 : Nat) (v : Option Value) (h : Heap) (L : List Loc) : Prop := ∃ f1 : Nat → Int32, ∃ g1 : Nat → Int32, ∃ sz1 : Int32, v = none ∧ Fr n0 L ∧ Keep h0 h [o0, ca, wa] ∧ (Exa Z h o0 "com/example/lootpath/lootpath/solve/CityQueue") ∧ (Fld Z h o0 "com/example/lootpath/lootpath/solve/CityQueue" "cities" "[I" (.ref ca)) ∧ (Fld Z h o0 "com/example/lootpath/lootpath/solve/CityQueue" "waiting" "[Z" (.ref wa)) ∧ (Fld Z h o0 "com/example/lootpath/lootpath/solve/CityQueue" "head" "I" (.int hd)) ∧ (Fld Z h o0 "com/example/lootpath/lootpath/solve/CityQueue" "size" "I" (.int sz1)) ∧ (PI Z h ca .int N f1) ∧ (PI Z h wa .boolean N g1) ∧ (Rep N f1 g1 hd sz1 (addAll xs ((List.range k).map lf)))
set_option maxRecDepth 65536 in
set_option maxHeartbeats 4000000 in
theorem ef_rm3 (m : MethodId) (o0 : Addr) (o1 : Addr) : entryFrame m #[(.ref o0), (.ref o1)] 6 = mkF m 0 #[.val (.ref o0), .val (.ref o1), .unset, .unset, .unset, .unset] [] := by first | (simp [entryFrame, mkF, argsToLocals, Value.category, maxLocals]; done) | rfl
theorem d3_0 : decode prog_5_method_2_code 0 = .ok (.aload_n 1, 1) := by decide +kernel
theorem d3_1 : decode prog_5_method_2_code 1 = .ok (.astore_n 2, 1) := by decide +kernel
theorem d3_2 : decode prog_5_method_2_code 2 = .ok (.aload_n 2, 1) := by decide +kernel
theorem d3_3 : decode prog_5_method_2_code 3 = .ok (.arraylength, 1) := by decide +kernel
theorem d3_4 : decode prog_5_method_2_code 4 = .ok (.istore_n 3, 1) := by decide +kernel
theorem d3_5 : decode prog_5_method_2_code 5 = .ok (.iconst 0, 1) := by decide +kernel
theorem d3_6 : decode prog_5_method_2_code 6 = .ok (.istore 4, 2) := by decide +kernel
theorem d3_8 : decode prog_5_method_2_code 8 = .ok (.iload 4, 2) := by decide +kernel
theorem d3_10 : decode prog_5_method_2_code 10 = .ok (.iload_n 3, 1) := by decide +kernel
theorem d3_11 : decode prog_5_method_2_code 11 = .ok (.if_icmp .ge 65, 3) := by decide +kernel
theorem d3_14 : decode prog_5_method_2_code 14 = .ok (.aload_n 2, 1) := by decide +kernel
theorem d3_15 : decode prog_5_method_2_code 15 = .ok (.iload 4, 2) := by decide +kernel
theorem d3_17 : decode prog_5_method_2_code 17 = .ok (.iaload, 1) := by decide +kernel
theorem d3_18 : decode prog_5_method_2_code 18 = .ok (.istore 5, 2) := by decide +kernel
theorem d3_20 : decode prog_5_method_2_code 20 = .ok (.aload_n 0, 1) := by decide +kernel
theorem d3_21 : decode prog_5_method_2_code 21 = .ok (.getfield 13, 3) := by decide +kernel
theorem d3_24 : decode prog_5_method_2_code 24 = .ok (.iload 5, 2) := by decide +kernel
theorem d3_26 : decode prog_5_method_2_code 26 = .ok (.baload, 1) := by decide +kernel
theorem d3_27 : decode prog_5_method_2_code 27 = .ok (.ifCond .ne 43, 3) := by decide +kernel
theorem d3_30 : decode prog_5_method_2_code 30 = .ok (.aload_n 0, 1) := by decide +kernel
theorem d3_31 : decode prog_5_method_2_code 31 = .ok (.getfield 13, 3) := by decide +kernel
theorem d3_34 : decode prog_5_method_2_code 34 = .ok (.iload 5, 2) := by decide +kernel
theorem d3_36 : decode prog_5_method_2_code 36 = .ok (.iconst 1, 1) := by decide +kernel
theorem d3_37 : decode prog_5_method_2_code 37 = .ok (.bastore, 1) := by decide +kernel
theorem d3_38 : decode prog_5_method_2_code 38 = .ok (.aload_n 0, 1) := by decide +kernel
theorem d3_39 : decode prog_5_method_2_code 39 = .ok (.getfield 7, 3) := by decide +kernel
theorem d3_42 : decode prog_5_method_2_code 42 = .ok (.aload_n 0, 1) := by decide +kernel
theorem d3_43 : decode prog_5_method_2_code 43 = .ok (.getfield 17, 3) := by decide +kernel
theorem d3_46 : decode prog_5_method_2_code 46 = .ok (.aload_n 0, 1) := by decide +kernel
theorem d3_47 : decode prog_5_method_2_code 47 = .ok (.getfield 21, 3) := by decide +kernel
theorem d3_50 : decode prog_5_method_2_code 50 = .ok (.iadd, 1) := by decide +kernel
theorem d3_51 : decode prog_5_method_2_code 51 = .ok (.aload_n 0, 1) := by decide +kernel
theorem d3_52 : decode prog_5_method_2_code 52 = .ok (.getfield 7, 3) := by decide +kernel
theorem d3_55 : decode prog_5_method_2_code 55 = .ok (.arraylength, 1) := by decide +kernel
theorem d3_56 : decode prog_5_method_2_code 56 = .ok (.irem, 1) := by decide +kernel
theorem d3_57 : decode prog_5_method_2_code 57 = .ok (.iload 5, 2) := by decide +kernel
theorem d3_59 : decode prog_5_method_2_code 59 = .ok (.iastore, 1) := by decide +kernel
theorem d3_60 : decode prog_5_method_2_code 60 = .ok (.aload_n 0, 1) := by decide +kernel
theorem d3_61 : decode prog_5_method_2_code 61 = .ok (.dup, 1) := by decide +kernel
theorem d3_62 : decode prog_5_method_2_code 62 = .ok (.getfield 21, 3) := by decide +kernel
theorem d3_65 : decode prog_5_method_2_code 65 = .ok (.iconst 1, 1) := by decide +kernel
theorem d3_66 : decode prog_5_method_2_code 66 = .ok (.iadd, 1) := by decide +kernel
theorem d3_67 : decode prog_5_method_2_code 67 = .ok (.putfield 21, 3) := by decide +kernel
theorem d3_70 : decode prog_5_method_2_code 70 = .ok (.iinc 4 1, 3) := by decide +kernel
theorem d3_73 : decode prog_5_method_2_code 73 = .ok (.goto (-65), 3) := by decide +kernel
theorem d3_76 : decode prog_5_method_2_code 76 = .ok (.return_, 1) := by decide +kernel
set_option maxRecDepth 65536 in
set_option maxHeartbeats 40000000 in
theorem rm3 (l : Launch) (Z : State) (a0 : Array Value) (hw : ∀ d ∈ tables_1, d.before a0 Z = true) (ws : List Jvm.Cond) (o0 : Addr) (o1 : Addr) (ca : Addr) (wa : Addr) (hd : Int32) (sz : Int32) (N : Nat) (f : Nat → Int32) (g : Nat → Int32) (k : Nat) (lf : Nat → Int32) (xs : List Int32) (h0 : Heap) (n0 : Nat) (Z0 : n0 ≤ h0.size) (g_o0 : n0 ≤ o0) (g_ca : n0 ≤ ca) (g_wa : n0 ≤ wa) (ne_o0_ca : o0 ≠ ca) (ne_o0_wa : o0 ≠ wa) (ne_ca_wa : ca ≠ wa) (ne_o0_o1 : o0 ≠ o1) (ne_o1_ca : o1 ≠ ca) (ne_o1_wa : o1 ≠ wa) (F0 : Exa Z h0 o0 "com/example/lootpath/lootpath/solve/CityQueue") (F1 : Fld Z h0 o0 "com/example/lootpath/lootpath/solve/CityQueue" "cities" "[I" (.ref ca)) (F2 : Fld Z h0 o0 "com/example/lootpath/lootpath/solve/CityQueue" "waiting" "[Z" (.ref wa)) (F3 : Fld Z h0 o0 "com/example/lootpath/lootpath/solve/CityQueue" "head" "I" (.int hd)) (F4 : Fld Z h0 o0 "com/example/lootpath/lootpath/solve/CityQueue" "size" "I" (.int sz)) (F5 : PI Z h0 ca .int N f) (F6 : PI Z h0 wa .boolean N g) (F7 : PI Z h0 o1 .int k lf) (hR : Rep N f g hd sz xs) (hl : ∀ i, i < k → 0 ≤ (lf i).toInt ∧ (lf i).toInt < N) :
    MetFree l (⟨"com/example/lootpath/lootpath/solve/CityQueue", "add", "([I)V"⟩ : MethodName) (head1 (Jvm.Cond.code (⟨"com/example/lootpath/lootpath/solve/CityQueue", "add", "([I)V"⟩ : MethodName) prog_5_method_2_code 6 none :: ws) ({ frames := 0, cells := 0, slots := 0, locals := 0 } : Room)) (fun a U => a = #[(.ref o0), (.ref o1)] ∧ Z.Warmed39 U.vm ∧ U.heap = h0) (fun _ _ _ _ _ => True) (fun _ U o U' => ∃ v L, o = .returned v ∧ Q_rm3 Z o0 o1 ca wa hd sz N f g k lf xs h0 n0 v U'.heap L ∧ FrameEnd U o U' L ({ frames := 0, cells := 0, slots := 0, locals := 0 } : Room).cells ({ frames := 0, cells := 0, slots := 0, locals := 0 } : Room).slots) := by
  refine body pn_com_example_lootpath_lootpath_solve_CityQueue_add_3 ?_
  intro p e s m below meth c s₁ hx hby hml hown hnm hret hlk hZ e0 X0
  replace hml : c.maxLocals = 6 := hml
  replace hown : s.vm.findClass "com/example/lootpath/lootpath/solve/CityQueue" = some m.cls := hown
  replace hnm : meth.name = "add" := hnm
  replace hret : meth.sig.returnType = none := hret
  have N0 := Fr.nil n0
  rw [ef_rm3]
  obtain ⟨G, hG⟩ : ∃ G, G = End (Q_rm3 Z o0 o1 ca wa hd sz N f g k lf xs h0 n0) s ({ frames := 0, cells := 0, slots := 0, locals := 0 } : Room).cells ({ frames := 0, cells := 0, slots := 0, locals := 0 } : Room).slots := ⟨_, rfl⟩
  rw [← hG]
  refine go (u' := s₁.setTop (mkF m 1 #[.val (.ref o0), .val (.ref o1), .unset, .unset, .unset, .unset] [(.ref o1)])) (fun _ ks_ => XS.aloadN X0.here hx rfl (hb hby d3_0) rfl rfl ks_) ?_
  refine go (u' := s₁.setTop (mkF m 2 #[.val (.ref o0), .val (.ref o1), .val (.ref o1), .unset, .unset, .unset] [])) (fun _ ks_ => XS.astoreN X0.here hx rfl (hb hby d3_1) rfl rfl (l' := #[.val (.ref o0), .val (.ref o1), .val (.ref o1), .unset, .unset, .unset]) rfl ks_) ?_
  refine go (u' := s₁.setTop (mkF m 3 #[.val (.ref o0), .val (.ref o1), .val (.ref o1), .unset, .unset, .unset] [(.ref o1)])) (fun _ ks_ => XS.aloadN X0.here hx rfl (hb hby d3_2) rfl rfl ks_) ?_
  refine go (u' := s₁.setTop (mkF m 4 #[.val (.ref o0), .val (.ref o1), .val (.ref o1), .unset, .unset, .unset] [(.int k.toInt32)])) (own_alen X0 hx hZ e0 F7 (z := k.toInt32) rfl (f := (mkF m 3 #[.val (.ref o0), .val (.ref o1), .val (.ref o1), .unset, .unset, .unset] [(.ref o1)])) rfl rfl (hb hby d3_3)) ?_
  refine go (u' := s₁.setTop (mkF m 5 #[.val (.ref o0), .val (.ref o1), .val (.ref o1), .val (.int k.toInt32), .unset, .unset] [])) (fun _ ks_ => XS.istoreN X0.here hx rfl (hb hby d3_4) rfl  (l' := #[.val (.ref o0), .val (.ref o1), .val (.ref o1), .val (.int k.toInt32), .unset, .unset]) rfl ks_) ?_
  refine go (u' := s₁.setTop (mkF m 6 #[.val (.ref o0), .val (.ref o1), .val (.ref o1), .val (.int k.toInt32), .unset, .unset] [(.int (0 : Int32))])) (fun _ ks_ => XS.iconst X0.here hx rfl (hb hby d3_5) ks_) ?_
  refine go (u' := s₁.setTop (mkF m 8 #[.val (.ref o0), .val (.ref o1), .val (.ref o1), .val (.int k.toInt32), .val (.int (0 : Int32)), .unset] [])) (fun _ ks_ => XS.istore X0.here hx rfl (hb hby d3_6) rfl  (l' := #[.val (.ref o0), .val (.ref o1), .val (.ref o1), .val (.int k.toInt32), .val (.int (0 : Int32)), .unset]) rfl ks_) ?_
  have C8_1 : ∀ (r : Nat) (i : Int32) (fc : Nat → Int32) (gc : Nat → Int32) (sc : Int32) (s5 : Slot) (T1 : State) (h1 : Heap) (Ls1 : List Loc), (Stand p l e ({ frames := 0, cells := 0, slots := 0, locals := 0 } : Room) s m #[(.ref o0), (.ref o1)] below meth c T1 Ls1 0 0) → (T1.heap = h1) → (Fr n0 Ls1) → (n0 ≤ h1.size) → (Keep h0 h1 [o0, ca, wa]) → (Exa Z h1 o0 "com/example/lootpath/lootpath/solve/CityQueue") → (Fld Z h1 o0 "com/example/lootpath/lootpath/solve/CityQueue" "cities" "[I" (.ref ca)) → (Fld Z h1 o0 "com/example/lootpath/lootpath/solve/CityQueue" "waiting" "[Z" (.ref wa)) → (Fld Z h1 o0 "com/example/lootpath/lootpath/solve/CityQueue" "head" "I" (.int hd)) → (Fld Z h1 o0 "com/example/lootpath/lootpath/solve/CityQueue" "size" "I" (.int sc)) → (PI Z h1 ca .int N fc) → (PI Z h1 wa .boolean N gc) → (PI Z h1 o1 .int k lf) → (0 ≤ i.toInt ∧ i.toInt + (r : Nat) = k) → (Rep N fc gc hd sc (addAll xs ((List.range (k - r)).map lf))) → (One s5) → Go p.tables e below G (T1.setTop (mkF m 8 #[.val (.ref o0), .val (.ref o1), .val (.ref o1), .val (.int k.toInt32), .val (.int i), s5] [])) := by
    intro r
    induction r with
    | zero =>
      intro i fc gc sc s5 T1 h1 Ls1 X1 e1 N1 Z1 K1 F1_0 F1_1 F1_2 F1_3 F1_4 F1_5 F1_6 F1_7 hi hRc hs5
      have hRc' := hRc
      rw [Nat.sub_zero] at hRc
      refine go (u' := T1.setTop (mkF m 10 #[.val (.ref o0), .val (.ref o1), .val (.ref o1), .val (.int k.toInt32), .val (.int i), s5] [(.int i)])) (fun _ ks_ => XS.iload X1.here hx rfl (hb hby d3_8) rfl  ks_) ?_
      refine go (u' := T1.setTop (mkF m 11 #[.val (.ref o0), .val (.ref o1), .val (.ref o1), .val (.int k.toInt32), .val (.int i), s5] [(.int k.toInt32), (.int i)])) (fun _ ks_ => XS.iloadN X1.here hx rfl (hb hby d3_10) rfl  ks_) ?_
      refine go (u' := T1.setTop (mkF m 76 #[.val (.ref o0), .val (.ref o1), .val (.ref o1), .val (.int k.toInt32), .val (.int i), s5] [])) (fun _ ks_ => XS.icmpYes X1.here hx rfl (pc0 := 11) (pc' := 76) rfl (hb hby d3_11) rfl (flt (show ¬ (i < k.toInt32) from (own_iz F7.bound hi))).2.1 (by decide) (by decide) ks_) ?_
      rw [hG]
      refine g0 X1 hx hlk hret (hb hby d3_76) ?_ (Nat.le_of_ble_eq_true rfl) (Nat.le_of_ble_eq_true rfl)
      show Q_rm3 Z o0 o1 ca wa hd sz N f g k lf xs h0 n0 (none) T1.heap _
      rw [e1]
      exact ⟨fc, gc, sc, rfl, N1, K1, F1_0, F1_1, F1_2, F1_3, F1_4, F1_5, F1_6, hRc⟩
    | succ r ih8 =>
      intro i fc gc sc s5 T1 h1 Ls1 X1 e1 N1 Z1 K1 F1_0 F1_1 F1_2 F1_3 F1_4 F1_5 F1_6 F1_7 hi hRc hs5
      have hiv := own_iv (N := N) F7.bound hi
      have hrk : r + 1 ≤ k := by have := hi.2; have := hi.1; omega
      have hcb0 := hl _ hiv.2.1
      refine go (u' := T1.setTop (mkF m 10 #[.val (.ref o0), .val (.ref o1), .val (.ref o1), .val (.int k.toInt32), .val (.int i), s5] [(.int i)])) (fun _ ks_ => XS.iload X1.here hx rfl (hb hby d3_8) rfl  ks_) ?_
      refine go (u' := T1.setTop (mkF m 11 #[.val (.ref o0), .val (.ref o1), .val (.ref o1), .val (.int k.toInt32), .val (.int i), s5] [(.int k.toInt32), (.int i)])) (fun _ ks_ => XS.iloadN X1.here hx rfl (hb hby d3_10) rfl  ks_) ?_
      refine go (u' := T1.setTop (mkF m 14 #[.val (.ref o0), .val (.ref o1), .val (.ref o1), .val (.int k.toInt32), .val (.int i), s5] [])) (fun _ ks_ => XS.icmpNo X1.here hx rfl (hb hby d3_11) rfl (tlt hiv.2.2.1).2.1 ks_) ?_
      refine go (u' := T1.setTop (mkF m 15 #[.val (.ref o0), .val (.ref o1), .val (.ref o1), .val (.int k.toInt32), .val (.int i), s5] [(.ref o1)])) (fun _ ks_ => XS.aloadN X1.here hx rfl (hb hby d3_14) rfl rfl ks_) ?_
      refine go (u' := T1.setTop (mkF m 17 #[.val (.ref o0), .val (.ref o1), .val (.ref o1), .val (.int k.toInt32), .val (.int i), s5] [(.int i), (.ref o1)])) (fun _ ks_ => XS.iload X1.here hx rfl (hb hby d3_15) rfl  ks_) ?_
      refine go (u' := T1.setTop (mkF m 18 #[.val (.ref o0), .val (.ref o1), .val (.ref o1), .val (.int k.toInt32), .val (.int i), s5] [(.int (lf i.toNatClampNeg))])) (own_iaload X1 hx hZ e1 F1_7 (j := i) (v := (lf i.toNatClampNeg)) hiv.1 hiv.2.1 rfl (f := (mkF m 17 #[.val (.ref o0), .val (.ref o1), .val (.ref o1), .val (.int k.toInt32), .val (.int i), s5] [(.int i), (.ref o1)])) rfl rfl (hb hby d3_17)) ?_
      obtain ⟨cy, hcy⟩ : ∃ z, z = (lf i.toNatClampNeg) := ⟨_, rfl⟩
      rw [← hcy]
      refine go (u' := T1.setTop (mkF m 20 #[.val (.ref o0), .val (.ref o1), .val (.ref o1), .val (.int k.toInt32), .val (.int i), .val (.int cy)] [])) (fun _ ks_ => XS.istoreS X1.here hx rfl (hb hby d3_18) rfl  rfl hs5 ks_) ?_
      have hcb : 0 ≤ cy.toInt ∧ cy.toInt < N := by rw [hcy]; exact hcb0
      refine go (u' := T1.setTop (mkF m 21 #[.val (.ref o0), .val (.ref o1), .val (.ref o1), .val (.int k.toInt32), .val (.int i), .val (.int cy)] [(.ref o0)])) (fun _ ks_ => XS.aloadN X1.here hx rfl (hb hby d3_20) rfl rfl ks_) ?_
      obtain ⟨T2, X2, e2, st2⟩ := getF X1 hx hZ hown (host := "") (Or.inl (ww hw 13 rfl)) Via.refl e1 F1_2 (g := (mkF m 21 #[.val (.ref o0), .val (.ref o1), .val (.ref o1), .val (.int k.toInt32), .val (.int i), .val (.int cy)] [(.ref o0)])) rfl rfl (hb hby d3_21)
      refine go (u' := T2.setTop (mkF m 24 #[.val (.ref o0), .val (.ref o1), .val (.ref o1), .val (.int k.toInt32), .val (.int i), .val (.int cy)] [(.ref wa)])) st2 ?_
      refine go (u' := T2.setTop (mkF m 26 #[.val (.ref o0), .val (.ref o1), .val (.ref o1), .val (.int k.toInt32), .val (.int i), .val (.int cy)] [(.int cy), (.ref wa)])) (fun _ ks_ => XS.iload X2.here hx rfl (hb hby d3_24) rfl  ks_) ?_
      refine go (u' := T2.setTop (mkF m 27 #[.val (.ref o0), .val (.ref o1), .val (.ref o1), .val (.int k.toInt32), .val (.int i), .val (.int cy)] [(.int (gc cy.toNatClampNeg))])) (own_baloadZ X2 hx hZ e2 F1_6 (j := cy) (v := (gc cy.toNatClampNeg)) (own_nn hcb.1) (own_lt hcb.1 hcb.2) rfl (f := (mkF m 26 #[.val (.ref o0), .val (.ref o1), .val (.ref o1), .val (.int k.toInt32), .val (.int i), .val (.int cy)] [(.int cy), (.ref wa)])) rfl rfl (hb hby d3_26)) ?_
      by_cases c27_1 : (gc cy.toNatClampNeg) = (0 : Int32)
      ·
        refine go (u' := T2.setTop (mkF m 30 #[.val (.ref o0), .val (.ref o1), .val (.ref o1), .val (.int k.toInt32), .val (.int i), .val (.int cy)] [])) (fun _ ks_ => XS.ifNo X2.here hx rfl (hb hby d3_27) rfl ((if0 _ _).trans (teq c27_1).2) ks_) ?_
        refine go (u' := T2.setTop (mkF m 31 #[.val (.ref o0), .val (.ref o1), .val (.ref o1), .val (.int k.toInt32), .val (.int i), .val (.int cy)] [(.ref o0)])) (fun _ ks_ => XS.aloadN X2.here hx rfl (hb hby d3_30) rfl rfl ks_) ?_
        obtain ⟨T3, X3, e3, st3⟩ := getF X2 hx hZ hown (host := "") (Or.inl (ww hw 13 rfl)) Via.refl e2 F1_2 (g := (mkF m 31 #[.val (.ref o0), .val (.ref o1), .val (.ref o1), .val (.int k.toInt32), .val (.int i), .val (.int cy)] [(.ref o0)])) rfl rfl (hb hby d3_31)
        refine go (u' := T3.setTop (mkF m 34 #[.val (.ref o0), .val (.ref o1), .val (.ref o1), .val (.int k.toInt32), .val (.int i), .val (.int cy)] [(.ref wa)])) st3 ?_
        refine go (u' := T3.setTop (mkF m 36 #[.val (.ref o0), .val (.ref o1), .val (.ref o1), .val (.int k.toInt32), .val (.int i), .val (.int cy)] [(.int cy), (.ref wa)])) (fun _ ks_ => XS.iload X3.here hx rfl (hb hby d3_34) rfl  ks_) ?_
        refine go (u' := T3.setTop (mkF m 37 #[.val (.ref o0), .val (.ref o1), .val (.ref o1), .val (.int k.toInt32), .val (.int i), .val (.int cy)] [(.int (1 : Int32)), (.int cy), (.ref wa)])) (fun _ ks_ => XS.iconst X3.here hx rfl (hb hby d3_36) ks_) ?_
        obtain ⟨T4, h4, X4, e4, W4, st4⟩ := own_bastoreZ X3 hx hZ e3 F1_6 (j := cy) (x := (1 : Int32)) (hnx := rfl) (own_nn hcb.1) (own_lt hcb.1 hcb.2) (f := (mkF m 37 #[.val (.ref o0), .val (.ref o1), .val (.ref o1), .val (.int k.toInt32), .val (.int i), .val (.int cy)] [(.int (1 : Int32)), (.int cy), (.ref wa)])) rfl rfl (hb hby d3_37)
        have N4 := Fr.snoc X4 N1 g_wa
        have K4 : Keep h0 h4 [o0, ca, wa] := K1.wr W4 (Or.inl (List.mem_of_getElem? (i := 2) rfl))
        have Z4 : n0 ≤ h4.size := Nat.le_trans Z1 (Keep.of_wr W4).1
        have Fa5 : Exa Z h4 o0 "com/example/lootpath/lootpath/solve/CityQueue" := F1_0.wr W4
        have Fa6 : Fld Z h4 o0 "com/example/lootpath/lootpath/solve/CityQueue" "cities" "[I" (.ref ca) := F1_1.other W4 (Or.inl ne_o0_wa)
        have Fa7 : Fld Z h4 o0 "com/example/lootpath/lootpath/solve/CityQueue" "waiting" "[Z" (.ref wa) := F1_2.other W4 (Or.inl ne_o0_wa)
        have Fa8 : Fld Z h4 o0 "com/example/lootpath/lootpath/solve/CityQueue" "head" "I" (.int hd) := F1_3.other W4 (Or.inl ne_o0_wa)
        have Fa9 : Fld Z h4 o0 "com/example/lootpath/lootpath/solve/CityQueue" "size" "I" (.int sc) := F1_4.other W4 (Or.inl ne_o0_wa)
        have Fa10 : PI Z h4 ca .int N fc := F1_5.other W4 ne_ca_wa
        have Fa11 : PI Z h4 o1 .int k lf := F1_7.other W4 ne_o1_wa
        have Fa12 : PI Z h4 wa .boolean N (upd gc (cy).toNatClampNeg (1 : Int32)) := F1_6.set (own_lt hcb.1 hcb.2) W4
        refine go (u' := T4.setTop (mkF m 38 #[.val (.ref o0), .val (.ref o1), .val (.ref o1), .val (.int k.toInt32), .val (.int i), .val (.int cy)] [])) st4 ?_
        refine go (u' := T4.setTop (mkF m 39 #[.val (.ref o0), .val (.ref o1), .val (.ref o1), .val (.int k.toInt32), .val (.int i), .val (.int cy)] [(.ref o0)])) (fun _ ks_ => XS.aloadN X4.here hx rfl (hb hby d3_38) rfl rfl ks_) ?_
        obtain ⟨T13, X13, e13, st13⟩ := getF X4 hx hZ hown (host := "") (Or.inl (ww hw 10 rfl)) Via.refl e4 Fa6 (g := (mkF m 39 #[.val (.ref o0), .val (.ref o1), .val (.ref o1), .val (.int k.toInt32), .val (.int i), .val (.int cy)] [(.ref o0)])) rfl rfl (hb hby d3_39)
        refine go (u' := T13.setTop (mkF m 42 #[.val (.ref o0), .val (.ref o1), .val (.ref o1), .val (.int k.toInt32), .val (.int i), .val (.int cy)] [(.ref ca)])) st13 ?_
        refine go (u' := T13.setTop (mkF m 43 #[.val (.ref o0), .val (.ref o1), .val (.ref o1), .val (.int k.toInt32), .val (.int i), .val (.int cy)] [(.ref o0), (.ref ca)])) (fun _ ks_ => XS.aloadN X13.here hx rfl (hb hby d3_42) rfl rfl ks_) ?_
        obtain ⟨T14, X14, e14, st14⟩ := getF X13 hx hZ hown (host := "") (Or.inl (ww hw 20 rfl)) Via.refl e13 Fa8 (g := (mkF m 43 #[.val (.ref o0), .val (.ref o1), .val (.ref o1), .val (.int k.toInt32), .val (.int i), .val (.int cy)] [(.ref o0), (.ref ca)])) rfl rfl (hb hby d3_43)
        refine go (u' := T14.setTop (mkF m 46 #[.val (.ref o0), .val (.ref o1), .val (.ref o1), .val (.int k.toInt32), .val (.int i), .val (.int cy)] [(.int hd), (.ref ca)])) st14 ?_
        refine go (u' := T14.setTop (mkF m 47 #[.val (.ref o0), .val (.ref o1), .val (.ref o1), .val (.int k.toInt32), .val (.int i), .val (.int cy)] [(.ref o0), (.int hd), (.ref ca)])) (fun _ ks_ => XS.aloadN X14.here hx rfl (hb hby d3_46) rfl rfl ks_) ?_
        obtain ⟨T15, X15, e15, st15⟩ := getF X14 hx hZ hown (host := "") (Or.inl (ww hw 22 rfl)) Via.refl e14 Fa9 (g := (mkF m 47 #[.val (.ref o0), .val (.ref o1), .val (.ref o1), .val (.int k.toInt32), .val (.int i), .val (.int cy)] [(.ref o0), (.int hd), (.ref ca)])) rfl rfl (hb hby d3_47)
        refine go (u' := T15.setTop (mkF m 50 #[.val (.ref o0), .val (.ref o1), .val (.ref o1), .val (.int k.toInt32), .val (.int i), .val (.int cy)] [(.int sc), (.int hd), (.ref ca)])) st15 ?_
        refine go (u' := T15.setTop (mkF m 51 #[.val (.ref o0), .val (.ref o1), .val (.ref o1), .val (.int k.toInt32), .val (.int i), .val (.int cy)] [(.int (hd + sc)), (.ref ca)])) (fun _ ks_ => XS.iadd X15.here hx rfl (hb hby d3_50) rfl ks_) ?_
        refine go (u' := T15.setTop (mkF m 52 #[.val (.ref o0), .val (.ref o1), .val (.ref o1), .val (.int k.toInt32), .val (.int i), .val (.int cy)] [(.ref o0), (.int (hd + sc)), (.ref ca)])) (fun _ ks_ => XS.aloadN X15.here hx rfl (hb hby d3_51) rfl rfl ks_) ?_
        obtain ⟨T16, X16, e16, st16⟩ := getF X15 hx hZ hown (host := "") (Or.inl (ww hw 10 rfl)) Via.refl e15 Fa6 (g := (mkF m 52 #[.val (.ref o0), .val (.ref o1), .val (.ref o1), .val (.int k.toInt32), .val (.int i), .val (.int cy)] [(.ref o0), (.int (hd + sc)), (.ref ca)])) rfl rfl (hb hby d3_52)
        refine go (u' := T16.setTop (mkF m 55 #[.val (.ref o0), .val (.ref o1), .val (.ref o1), .val (.int k.toInt32), .val (.int i), .val (.int cy)] [(.ref ca), (.int (hd + sc)), (.ref ca)])) st16 ?_
        refine go (u' := T16.setTop (mkF m 56 #[.val (.ref o0), .val (.ref o1), .val (.ref o1), .val (.int k.toInt32), .val (.int i), .val (.int cy)] [(.int N.toInt32), (.int (hd + sc)), (.ref ca)])) (own_alen X16 hx hZ e16 Fa10 (z := N.toInt32) rfl (f := (mkF m 55 #[.val (.ref o0), .val (.ref o1), .val (.ref o1), .val (.int k.toInt32), .val (.int i), .val (.int cy)] [(.ref ca), (.int (hd + sc)), (.ref ca)])) rfl rfl (hb hby d3_55)) ?_
        refine go (u' := T16.setTop (mkF m 57 #[.val (.ref o0), .val (.ref o1), .val (.ref o1), .val (.int k.toInt32), .val (.int i), .val (.int cy)] [(.int ((hd + sc) % N.toInt32)), (.ref ca)])) (fun _ ks_ => iremM (g := (mkF m 56 #[.val (.ref o0), .val (.ref o1), .val (.ref o1), .val (.int k.toInt32), .val (.int i), .val (.int cy)] [(.int N.toInt32), (.int (hd + sc)), (.ref ca)])) X16 hx rfl (hb hby d3_56) rfl hRc.ne0 ks_) ?_
        refine go (u' := T16.setTop (mkF m 59 #[.val (.ref o0), .val (.ref o1), .val (.ref o1), .val (.int k.toInt32), .val (.int i), .val (.int cy)] [(.int cy), (.int ((hd + sc) % N.toInt32)), (.ref ca)])) (fun _ ks_ => XS.iload X16.here hx rfl (hb hby d3_57) rfl  ks_) ?_
        obtain ⟨T17, h17, X17, e17, W17, st17⟩ := own_iastore X16 hx hZ e16 Fa10 (j := ((hd + sc) % N.toInt32)) (x := cy)  (own_nn hRc.tail.1) (own_lt hRc.tail.1 hRc.tail.2.1) (f := (mkF m 59 #[.val (.ref o0), .val (.ref o1), .val (.ref o1), .val (.int k.toInt32), .val (.int i), .val (.int cy)] [(.int cy), (.int ((hd + sc) % N.toInt32)), (.ref ca)])) rfl rfl (hb hby d3_59)
        have N17 := Fr.snoc X17 N4 g_ca
        have K17 : Keep h0 h17 [o0, ca, wa] := K4.wr W17 (Or.inl (List.mem_of_getElem? (i := 1) rfl))
        have Z17 : n0 ≤ h17.size := Nat.le_trans Z4 (Keep.of_wr W17).1
        have Fa18 : Exa Z h17 o0 "com/example/lootpath/lootpath/solve/CityQueue" := Fa5.wr W17
        have Fa19 : Fld Z h17 o0 "com/example/lootpath/lootpath/solve/CityQueue" "cities" "[I" (.ref ca) := Fa6.other W17 (Or.inl ne_o0_ca)
        have Fa20 : Fld Z h17 o0 "com/example/lootpath/lootpath/solve/CityQueue" "waiting" "[Z" (.ref wa) := Fa7.other W17 (Or.inl ne_o0_ca)
        have Fa21 : Fld Z h17 o0 "com/example/lootpath/lootpath/solve/CityQueue" "head" "I" (.int hd) := Fa8.other W17 (Or.inl ne_o0_ca)
        have Fa22 : Fld Z h17 o0 "com/example/lootpath/lootpath/solve/CityQueue" "size" "I" (.int sc) := Fa9.other W17 (Or.inl ne_o0_ca)
        have Fa23 : PI Z h17 wa .boolean N (upd gc (cy).toNatClampNeg (1 : Int32)) := Fa12.other W17 (Ne.symm ne_ca_wa)
        have Fa24 : PI Z h17 o1 .int k lf := Fa11.other W17 ne_o1_ca
        have Fa25 : PI Z h17 ca .int N (upd fc (((hd + sc) % N.toInt32)).toNatClampNeg cy) := Fa10.set (own_lt hRc.tail.1 hRc.tail.2.1) W17
        refine go (u' := T17.setTop (mkF m 60 #[.val (.ref o0), .val (.ref o1), .val (.ref o1), .val (.int k.toInt32), .val (.int i), .val (.int cy)] [])) st17 ?_
        refine go (u' := T17.setTop (mkF m 61 #[.val (.ref o0), .val (.ref o1), .val (.ref o1), .val (.int k.toInt32), .val (.int i), .val (.int cy)] [(.ref o0)])) (fun _ ks_ => XS.aloadN X17.here hx rfl (hb hby d3_60) rfl rfl ks_) ?_
        refine go (u' := T17.setTop (mkF m 62 #[.val (.ref o0), .val (.ref o1), .val (.ref o1), .val (.int k.toInt32), .val (.int i), .val (.int cy)] [(.ref o0), (.ref o0)])) (fun _ ks_ => XS.dup X17.here hx rfl (hb hby d3_61) rfl rfl ks_) ?_
        obtain ⟨T26, X26, e26, st26⟩ := getF X17 hx hZ hown (host := "") (Or.inl (ww hw 22 rfl)) Via.refl e17 Fa22 (g := (mkF m 62 #[.val (.ref o0), .val (.ref o1), .val (.ref o1), .val (.int k.toInt32), .val (.int i), .val (.int cy)] [(.ref o0), (.ref o0)])) rfl rfl (hb hby d3_62)
        refine go (u' := T26.setTop (mkF m 65 #[.val (.ref o0), .val (.ref o1), .val (.ref o1), .val (.int k.toInt32), .val (.int i), .val (.int cy)] [(.int sc), (.ref o0)])) st26 ?_
        refine go (u' := T26.setTop (mkF m 66 #[.val (.ref o0), .val (.ref o1), .val (.ref o1), .val (.int k.toInt32), .val (.int i), .val (.int cy)] [(.int (1 : Int32)), (.int sc), (.ref o0)])) (fun _ ks_ => XS.iconst X26.here hx rfl (hb hby d3_65) ks_) ?_
        refine go (u' := T26.setTop (mkF m 67 #[.val (.ref o0), .val (.ref o1), .val (.ref o1), .val (.int k.toInt32), .val (.int i), .val (.int cy)] [(.int (sc + (1 : Int32))), (.ref o0)])) (fun _ ks_ => XS.iadd X26.here hx rfl (hb hby d3_66) rfl ks_) ?_
        obtain ⟨T27, h27, X27, e27, W27, st27⟩ := putF X26 hx hZ hown (host := "") (Or.inl (ww hw 22 rfl)) Via.refl e26 Fa22 Fa18 (Or.inl (ww hw 23 rfl)) (ww hw 2 rfl) (ty := .int) (by decide) rfl rfl (g := (mkF m 67 #[.val (.ref o0), .val (.ref o1), .val (.ref o1), .val (.int k.toInt32), .val (.int i), .val (.int cy)] [(.int (sc + (1 : Int32))), (.ref o0)])) rfl rfl (hb hby d3_67)
        have N27 := Fr.snoc X27 N17 g_o0
        have K27 : Keep h0 h27 [o0, ca, wa] := K17.wr W27 (Or.inl (List.mem_of_getElem? (i := 0) rfl))
        have Z27 : n0 ≤ h27.size := Nat.le_trans Z17 (Keep.of_wr W27).1
        have Fa28 : Exa Z h27 o0 "com/example/lootpath/lootpath/solve/CityQueue" := Fa18.wr W27
        have Fa29 : Fld Z h27 o0 "com/example/lootpath/lootpath/solve/CityQueue" "cities" "[I" (.ref ca) := Fa19.other W27 (Or.inr (slot_ne (Or.inr (ww hw 11 rfl)) (Or.inl (ww hw 23 rfl)) (by decide) (t := (.array .int)) (t' := .int) (by decide) (by decide)))
        have Fa30 : Fld Z h27 o0 "com/example/lootpath/lootpath/solve/CityQueue" "waiting" "[Z" (.ref wa) := Fa20.other W27 (Or.inr (slot_ne (Or.inr (ww hw 14 rfl)) (Or.inl (ww hw 23 rfl)) (by decide) (t := (.array .boolean)) (t' := .int) (by decide) (by decide)))
        have Fa31 : Fld Z h27 o0 "com/example/lootpath/lootpath/solve/CityQueue" "head" "I" (.int hd) := Fa21.other W27 (Or.inr (slot_ne (Or.inl (ww hw 21 rfl)) (Or.inl (ww hw 23 rfl)) (by decide) (t := .int) (t' := .int) (by decide) (by decide)))
        have Fa32 : PI Z h27 ca .int N (upd fc (((hd + sc) % N.toInt32)).toNatClampNeg cy) := Fa25.other W27 (Ne.symm ne_o0_ca)
        have Fa33 : PI Z h27 wa .boolean N (upd gc (cy).toNatClampNeg (1 : Int32)) := Fa23.other W27 (Ne.symm ne_o0_wa)
        have Fa34 : PI Z h27 o1 .int k lf := Fa24.other W27 (Ne.symm ne_o0_o1)
        have Fa35 : Fld Z h27 o0 "com/example/lootpath/lootpath/solve/CityQueue" "size" "I" (.int (sc + (1 : Int32))) := Fa22.same W27
        refine go (u' := T27.setTop (mkF m 70 #[.val (.ref o0), .val (.ref o1), .val (.ref o1), .val (.int k.toInt32), .val (.int i), .val (.int cy)] [])) st27 ?_
        refine go (u' := T27.setTop (mkF m 73 #[.val (.ref o0), .val (.ref o1), .val (.ref o1), .val (.int k.toInt32), .val (.int (i + (1 : Int32))), .val (.int cy)] [])) (fun _ ks_ => XS.iinc X27.here hx rfl (hb hby d3_70) rfl (l' := #[.val (.ref o0), .val (.ref o1), .val (.ref o1), .val (.int k.toInt32), .val (.int (i + (1 : Int32))), .val (.int cy)]) rfl ks_) ?_
        refine go (u' := T27.setTop (mkF m 8 #[.val (.ref o0), .val (.ref o1), .val (.ref o1), .val (.int k.toInt32), .val (.int (i + (1 : Int32))), .val (.int cy)] [])) (fun _ ks_ => XS.goto X27.here hx rfl (pc0 := 73) (pc' := 8) rfl (hb hby d3_73) (by decide) (by decide) ks_) ?_
        exact ih8 ((i + (1 : Int32))) ((upd fc (((hd + sc) % N.toInt32)).toNatClampNeg cy)) ((upd gc (cy).toNatClampNeg (1 : Int32))) ((sc + (1 : Int32))) (.val (.int cy)) _ _ _ X27 e27 N27 Z27 K27 Fa28 Fa29 Fa30 Fa31 Fa35 Fa32 Fa33 Fa34 hiv.2.2.2.1 (by rw [own_next hrk, show lf (k - (r + 1)) = cy from by rw [← hiv.2.2.2.2]; exact hcy.symm]; exact hRc.push hcb c27_1) (One.val rfl)
      ·
        refine go (u' := T2.setTop (mkF m 70 #[.val (.ref o0), .val (.ref o1), .val (.ref o1), .val (.int k.toInt32), .val (.int i), .val (.int cy)] [])) (fun _ ks_ => XS.ifYes X2.here hx rfl (pc0 := 27) (pc' := 70) rfl (hb hby d3_27) rfl ((if0 _ _).trans (feq c27_1).2) (by decide) (by decide) ks_) ?_
        refine go (u' := T2.setTop (mkF m 73 #[.val (.ref o0), .val (.ref o1), .val (.ref o1), .val (.int k.toInt32), .val (.int (i + (1 : Int32))), .val (.int cy)] [])) (fun _ ks_ => XS.iinc X2.here hx rfl (hb hby d3_70) rfl (l' := #[.val (.ref o0), .val (.ref o1), .val (.ref o1), .val (.int k.toInt32), .val (.int (i + (1 : Int32))), .val (.int cy)]) rfl ks_) ?_
        refine go (u' := T2.setTop (mkF m 8 #[.val (.ref o0), .val (.ref o1), .val (.ref o1), .val (.int k.toInt32), .val (.int (i + (1 : Int32))), .val (.int cy)] [])) (fun _ ks_ => XS.goto X2.here hx rfl (pc0 := 73) (pc' := 8) rfl (hb hby d3_73) (by decide) (by decide) ks_) ?_
        exact ih8 ((i + (1 : Int32))) fc gc sc (.val (.int cy)) _ _ _ X2 e2 N1 Z1 K1 F1_0 F1_1 F1_2 F1_3 F1_4 F1_5 F1_6 F1_7 hiv.2.2.2.1 (by rw [own_next hrk, show lf (k - (r + 1)) = cy from by rw [← hiv.2.2.2.2]; exact hcy.symm]; exact hRc.skip hcb c27_1) (One.val rfl)
  exact C8_1 k ((0 : Int32)) f g sz .unset _ _ _ X0 e0 N0 Z0 (Keep.refl h0 [o0, ca, wa]) F0 F1 F2 F3 F4 F5 F6 F7 ⟨by decide, by simp⟩ (by rw [Nat.sub_self]; exact hR) One.u
def MA (g : Nat → Int32) (xs : List Int32) : Prop := (∀ i, i < xs.length → g i = xs.getD i 0) ∧ g 4 = xs.length.toInt32 ∧ xs.Nodup ∧ ∀ x ∈ xs, 0 ≤ x.toInt ∧ x.toInt < (4 : Nat)
theorem MA.len {g : Nat → Int32} {xs : List Int32} (M : MA g xs) : xs.length ≤ 4 := own_pig32 M.2.2.1 M.2.2.2
theorem MA.n {g : Nat → Int32} {xs : List Int32} (M : MA g xs) : (g 4).toInt = xs.length := by rw [M.2.1]; exact own_t32 (by have := M.len; omega)
theorem MA.new : MA (own_l [(0 : Int32), (0 : Int32), (0 : Int32), (0 : Int32), (0 : Int32)]) [] := ⟨by simp, rfl, by simp, by simp⟩
theorem MA.pres {g : Nat → Int32} {xs : List Int32} (M : MA g xs) (c : Int32) : ((((0 : Int32) < g 4) ∧ (g 0 = c)) ∨ ((((1 : Int32) < g 4) ∧ (g 1 = c)) ∨ ((((2 : Int32) < g 4) ∧ (g 2 = c)) ∨ (((3 : Int32) < g 4) ∧ (g 3 = c))))) ↔ c ∈ xs := by
  have h := M.n; have hl := M.len
  obtain ⟨h1, -⟩ := M
  have e0 : (0 : Int32).toInt = 0 := rfl
  have e1 : (1 : Int32).toInt = 1 := rfl
  have e2 : (2 : Int32).toInt = 2 := rfl
  have e3 : (3 : Int32).toInt = 3 := rfl
  simp only [Int32.lt_iff_toInt_lt, h, e0, e1, e2, e3]
  match xs, hl, h1 with
  | [], _, _ => simp
  | [a], _, h1 => have := h1 0 (by simp); simp at this; simp [this, eq_comm]
  | [a, b], _, h1 => have p0 := h1 0 (by simp); have p1 := h1 1 (by simp); simp at p0 p1; simp [p0, p1, eq_comm]
  | [a, b, d], _, h1 => have p0 := h1 0 (by simp); have p1 := h1 1 (by simp); have p2 := h1 2 (by simp); simp at p0 p1 p2; simp [p0, p1, p2, eq_comm]
  | [a, b, d, e], _, h1 => have p0 := h1 0 (by simp); have p1 := h1 1 (by simp); have p2 := h1 2 (by simp); have p3 := h1 3 (by simp); simp at p0 p1 p2 p3; simp [p0, p1, p2, p3, eq_comm]
  | a :: b :: d :: e :: f :: t, hl, _ => simp at hl
theorem MA.room {g : Nat → Int32} {xs : List Int32} (M : MA g xs) {c : Int32} (hc : 0 ≤ c.toInt ∧ c.toInt < (4 : Nat)) (q : c ∉ xs) : xs.length < 4 := by
  have := own_pig32 (N := 4) (l := c :: xs) (List.nodup_cons.mpr ⟨q, M.2.2.1⟩) (fun x hx => (List.mem_cons.mp hx).elim (fun e => e ▸ hc) (M.2.2.2 x))
  simp only [List.length_cons] at this
  omega
theorem MA.idx {g : Nat → Int32} {xs : List Int32} (M : MA g xs) : 0 ≤ (g 4).toInt ∧ (g 4).toInt < (5 : Nat) := by have := M.n; have := M.len; omega
theorem MA.put {g : Nat → Int32} {xs : List Int32} (M : MA g xs) {c : Int32} (hc : 0 ≤ c.toInt ∧ c.toInt < (4 : Nat)) (q : c ∉ xs) : MA (upd (upd g (g 4).toNatClampNeg c) 4 (g 4 + 1)) (add1 xs c) := by
  have hr := M.room hc q; have hn := M.n; have hi := own_cl M.idx.1
  have e : (g 4).toNatClampNeg = xs.length := by omega
  obtain ⟨h1, h2, h3, h4⟩ := M
  rw [add1, if_neg q, e]
  refine ⟨?_, ?_, ?_, ?_⟩
  · intro i hi
    simp only [List.length_append, List.length_singleton] at hi
    have n4 : i ≠ 4 := by omega
    simp only [upd, if_neg n4]
    by_cases e : i = xs.length
    · subst e; simp
    · have hi' : i < xs.length := by omega
      rw [if_neg e, h1 i hi']
      simp [List.getElem?_append_left hi']
  · apply Int32.toInt_inj.mp
    have a1 := c_iadd (g 4) 1
    have a2 := rng32 (g 4 + 1)
    have a3 : (1 : Int32).toInt = 1 := rfl
    rw [a3] at a1
    have a4 := own_t32 (N := (xs ++ [c]).length) (by simp; omega)
    rw [a4]
    simp only [upd, if_true, List.length_append, List.length_singleton]
    omega
  · refine List.nodup_append.mpr ⟨h3, by simp, ?_⟩
    intro a ha b hb e
    simp only [List.mem_singleton] at hb
    subst hb; subst e; exact q ha
  · intro x hx
    rcases List.mem_append.mp hx with hx | hx
    · exact h4 x hx
    · simp only [List.mem_singleton] at hx; subst hx; exact hc
theorem MA.same {g : Nat → Int32} {xs : List Int32} (M : MA g xs) {c : Int32} (q : c ∈ xs) : MA g (add1 xs c) := by rw [add1, if_pos q]; exact M
theorem MA.pop {g g1 : Nat → Int32} {x : Int32} {xs : List Int32} (M : MA g (x :: xs)) (h0 : g1 0 = g 1) (h1 : g1 1 = g 2) (h2 : g1 2 = g 3) (h4 : g1 4 = g 4 - 1) : MA g1 xs := by
  have hn := M.n; have hl := M.len
  obtain ⟨m1, m2, m3, m4⟩ := M
  simp only [List.length_cons] at hn hl
  refine ⟨?_, ?_, (List.nodup_cons.mp m3).2, fun y hy => m4 y (List.mem_cons_of_mem _ hy)⟩
  · intro i hi
    have k := m1 (i + 1) (by simp; omega)
    have hi3 : i = 0 ∨ i = 1 ∨ i = 2 := by omega
    rcases hi3 with rfl | rfl | rfl
    · rw [h0, k]; simp
    · rw [h1, k]; simp
    · rw [h2, k]; simp
  · apply Int32.toInt_inj.mp
    have a1 := c_isub (g 4) 1
    have a2 := rng32 (g 4 - 1)
    have a3 : (1 : Int32).toInt = 1 := rfl
    rw [a3] at a1
    rw [h4, own_t32 (by omega)]
    omega
theorem MA.first {g : Nat → Int32} {x : Int32} {xs : List Int32} (M : MA g (x :: xs)) : g 0 = x := by have := M.1 0 (by simp); simpa using this
theorem MA.cons {g : Nat → Int32} {xs : List Int32} (M : MA g xs) (h : (0 : Int32) < g 4) : ∃ y ys, xs = y :: ys := by
  have := M.n
  rw [Int32.lt_iff_toInt_lt] at h
  have e0 : (0 : Int32).toInt = 0 := rfl
  cases xs with
  | nil => simp at this; omega
  | cons y ys => exact ⟨y, ys, rfl⟩
theorem MA.nil {g : Nat → Int32} {xs : List Int32} (M : MA g xs) (h : ¬ (0 : Int32) < g 4) : xs.length = 0 := by
  have := M.n
  rw [Int32.lt_iff_toInt_lt] at h
  have e0 : (0 : Int32).toInt = 0 := rfl
  omega
theorem own_and3 (p : Int32) : 0 ≤ (p &&& (3 : Int32)).toInt ∧ (p &&& (3 : Int32)).toInt < (4 : Nat) := by
  have := c_mask p 3 2 (by decide) (by decide)
  omega
theorem own_hl2 (a b : Int32) : ∀ i, i < 2 → 0 ≤ ((own_l [(a &&& (3 : Int32)), (b &&& (3 : Int32))]) i).toInt ∧ ((own_l [(a &&& (3 : Int32)), (b &&& (3 : Int32))]) i).toInt < ((4 : Int32).toNatClampNeg : Nat)
  | 0, _ => own_and3 a
  | 1, _ => own_and3 b
  | n + 2, h => absurd h (by omega)
theorem own_hl3 (a b c : Int32) : ∀ i, i < 3 → 0 ≤ ((own_l [(a &&& (3 : Int32)), (b &&& (3 : Int32)), (c &&& (3 : Int32))]) i).toInt ∧ ((own_l [(a &&& (3 : Int32)), (b &&& (3 : Int32)), (c &&& (3 : Int32))]) i).toInt < ((4 : Int32).toNatClampNeg : Nat)
  | 0, _ => own_and3 a
  | 1, _ => own_and3 b
  | 2, _ => own_and3 c
  | n + 3, h => absurd h (by omega)

theorem MA.pres2 {g : Nat → Int32} {xs : List Int32} (M : MA g xs) (c : Int32) : ((((0 : Int32) < (g (4 : Int32).toNatClampNeg)) ∧ (((g (0 : Int32).toNatClampNeg) = c) ∨ ((((1 : Int32) < (g (4 : Int32).toNatClampNeg)) ∧ (((g (1 : Int32).toNatClampNeg) = c) ∨ ((((2 : Int32) < (g (4 : Int32).toNatClampNeg)) ∧ (((g (2 : Int32).toNatClampNeg) = c) ∨ (((3 : Int32) < (g (4 : Int32).toNatClampNeg)) ∧ ((g (3 : Int32).toNatClampNeg) = c)))) ∨ ((¬ ((2 : Int32) < (g (4 : Int32).toNatClampNeg))) ∧ (((3 : Int32) < (g (4 : Int32).toNatClampNeg)) ∧ ((g (3 : Int32).toNatClampNeg) = c)))))) ∨ ((¬ ((1 : Int32) < (g (4 : Int32).toNatClampNeg))) ∧ ((((2 : Int32) < (g (4 : Int32).toNatClampNeg)) ∧ (((g (2 : Int32).toNatClampNeg) = c) ∨ (((3 : Int32) < (g (4 : Int32).toNatClampNeg)) ∧ ((g (3 : Int32).toNatClampNeg) = c)))) ∨ ((¬ ((2 : Int32) < (g (4 : Int32).toNatClampNeg))) ∧ (((3 : Int32) < (g (4 : Int32).toNatClampNeg)) ∧ ((g (3 : Int32).toNatClampNeg) = c)))))))) ∨ ((¬ ((0 : Int32) < (g (4 : Int32).toNatClampNeg))) ∧ ((((1 : Int32) < (g (4 : Int32).toNatClampNeg)) ∧ (((g (1 : Int32).toNatClampNeg) = c) ∨ ((((2 : Int32) < (g (4 : Int32).toNatClampNeg)) ∧ (((g (2 : Int32).toNatClampNeg) = c) ∨ (((3 : Int32) < (g (4 : Int32).toNatClampNeg)) ∧ ((g (3 : Int32).toNatClampNeg) = c)))) ∨ ((¬ ((2 : Int32) < (g (4 : Int32).toNatClampNeg))) ∧ (((3 : Int32) < (g (4 : Int32).toNatClampNeg)) ∧ ((g (3 : Int32).toNatClampNeg) = c)))))) ∨ ((¬ ((1 : Int32) < (g (4 : Int32).toNatClampNeg))) ∧ ((((2 : Int32) < (g (4 : Int32).toNatClampNeg)) ∧ (((g (2 : Int32).toNatClampNeg) = c) ∨ (((3 : Int32) < (g (4 : Int32).toNatClampNeg)) ∧ ((g (3 : Int32).toNatClampNeg) = c)))) ∨ ((¬ ((2 : Int32) < (g (4 : Int32).toNatClampNeg))) ∧ (((3 : Int32) < (g (4 : Int32).toNatClampNeg)) ∧ ((g (3 : Int32).toNatClampNeg) = c)))))))) ↔ c ∈ xs := by
  rw [← M.pres c]
  show ((((0 : Int32) < (g 4)) ∧ (((g 0) = c) ∨ ((((1 : Int32) < (g 4)) ∧ (((g 1) = c) ∨ ((((2 : Int32) < (g 4)) ∧ (((g 2) = c) ∨ (((3 : Int32) < (g 4)) ∧ ((g 3) = c)))) ∨ ((¬ ((2 : Int32) < (g 4))) ∧ (((3 : Int32) < (g 4)) ∧ ((g 3) = c)))))) ∨ ((¬ ((1 : Int32) < (g 4))) ∧ ((((2 : Int32) < (g 4)) ∧ (((g 2) = c) ∨ (((3 : Int32) < (g 4)) ∧ ((g 3) = c)))) ∨ ((¬ ((2 : Int32) < (g 4))) ∧ (((3 : Int32) < (g 4)) ∧ ((g 3) = c)))))))) ∨ ((¬ ((0 : Int32) < (g 4))) ∧ ((((1 : Int32) < (g 4)) ∧ (((g 1) = c) ∨ ((((2 : Int32) < (g 4)) ∧ (((g 2) = c) ∨ (((3 : Int32) < (g 4)) ∧ ((g 3) = c)))) ∨ ((¬ ((2 : Int32) < (g 4))) ∧ (((3 : Int32) < (g 4)) ∧ ((g 3) = c)))))) ∨ ((¬ ((1 : Int32) < (g 4))) ∧ ((((2 : Int32) < (g 4)) ∧ (((g 2) = c) ∨ (((3 : Int32) < (g 4)) ∧ ((g 3) = c)))) ∨ ((¬ ((2 : Int32) < (g 4))) ∧ (((3 : Int32) < (g 4)) ∧ ((g 3) = c)))))))) ↔ _
  by_cases a0 : (0 : Int32) < g 4 <;> by_cases a1 : (1 : Int32) < g 4 <;> by_cases a2 : (2 : Int32) < g 4 <;> by_cases a3 : (3 : Int32) < g 4 <;> simp [a0, a1, a2, a3]
theorem pn_com_example_lootpath_lootpath_solve_CityQueueAddPinLaw_put_4 : plainFor (⟨"com/example/lootpath/lootpath/solve/CityQueueAddPinLaw", "put", "([II)V"⟩ : MethodName) = true := by first | exact plainFor_of_name (by first | (simp [plainName, overriddenIn]; done) | decide +kernel) | decide +kernel
def Q_rm4 (Z : State) (o0 : Addr) (p1 : Int32) (g : Nat → Int32) (xs : List Int32) (h0 : Heap) (n0 : Nat) (v : Option Value) (h : Heap) (L : List Loc) : Prop := ∃ g1 : Nat → Int32, v = none ∧ Fr n0 L ∧ Keep h0 h [o0] ∧ (PI Z h o0 .int 5 g1) ∧ (MA g1 (add1 xs p1))
set_option maxRecDepth 65536 in
set_option maxHeartbeats 4000000 in
theorem ef_rm4 (m : MethodId) (o0 : Addr) (p1 : Int32) : entryFrame m #[(.ref o0), (.int p1)] 4 = mkF m 0 #[.val (.ref o0), .val (.int p1), .unset, .unset] [] := by first | (simp [entryFrame, mkF, argsToLocals, Value.category, maxLocals]; done) | rfl
theorem d4_0 : decode method_2_code 0 = .ok (.aload_n 0, 1) := by decide +kernel
theorem d4_1 : decode method_2_code 1 = .ok (.iconst 4, 1) := by decide +kernel
theorem d4_2 : decode method_2_code 2 = .ok (.iaload, 1) := by decide +kernel
theorem d4_3 : decode method_2_code 3 = .ok (.istore_n 2, 1) := by decide +kernel
theorem d4_4 : decode method_2_code 4 = .ok (.iload_n 2, 1) := by decide +kernel
theorem d4_5 : decode method_2_code 5 = .ok (.ifCond .le 10, 3) := by decide +kernel
theorem d4_8 : decode method_2_code 8 = .ok (.aload_n 0, 1) := by decide +kernel
theorem d4_9 : decode method_2_code 9 = .ok (.iconst 0, 1) := by decide +kernel
theorem d4_10 : decode method_2_code 10 = .ok (.iaload, 1) := by decide +kernel
theorem d4_11 : decode method_2_code 11 = .ok (.iload_n 1, 1) := by decide +kernel
theorem d4_12 : decode method_2_code 12 = .ok (.if_icmp .eq 39, 3) := by decide +kernel
theorem d4_15 : decode method_2_code 15 = .ok (.iload_n 2, 1) := by decide +kernel
theorem d4_16 : decode method_2_code 16 = .ok (.iconst 1, 1) := by decide +kernel
theorem d4_17 : decode method_2_code 17 = .ok (.if_icmp .le 10, 3) := by decide +kernel
theorem d4_20 : decode method_2_code 20 = .ok (.aload_n 0, 1) := by decide +kernel
theorem d4_21 : decode method_2_code 21 = .ok (.iconst 1, 1) := by decide +kernel
theorem d4_22 : decode method_2_code 22 = .ok (.iaload, 1) := by decide +kernel
theorem d4_23 : decode method_2_code 23 = .ok (.iload_n 1, 1) := by decide +kernel
theorem d4_24 : decode method_2_code 24 = .ok (.if_icmp .eq 27, 3) := by decide +kernel
theorem d4_27 : decode method_2_code 27 = .ok (.iload_n 2, 1) := by decide +kernel
theorem d4_28 : decode method_2_code 28 = .ok (.iconst 2, 1) := by decide +kernel
theorem d4_29 : decode method_2_code 29 = .ok (.if_icmp .le 10, 3) := by decide +kernel
theorem d4_32 : decode method_2_code 32 = .ok (.aload_n 0, 1) := by decide +kernel
theorem d4_33 : decode method_2_code 33 = .ok (.iconst 2, 1) := by decide +kernel
theorem d4_34 : decode method_2_code 34 = .ok (.iaload, 1) := by decide +kernel
theorem d4_35 : decode method_2_code 35 = .ok (.iload_n 1, 1) := by decide +kernel
theorem d4_36 : decode method_2_code 36 = .ok (.if_icmp .eq 15, 3) := by decide +kernel
theorem d4_39 : decode method_2_code 39 = .ok (.iload_n 2, 1) := by decide +kernel
theorem d4_40 : decode method_2_code 40 = .ok (.iconst 3, 1) := by decide +kernel
theorem d4_41 : decode method_2_code 41 = .ok (.if_icmp .le 14, 3) := by decide +kernel
theorem d4_44 : decode method_2_code 44 = .ok (.aload_n 0, 1) := by decide +kernel
theorem d4_45 : decode method_2_code 45 = .ok (.iconst 3, 1) := by decide +kernel
theorem d4_46 : decode method_2_code 46 = .ok (.iaload, 1) := by decide +kernel
theorem d4_47 : decode method_2_code 47 = .ok (.iload_n 1, 1) := by decide +kernel
theorem d4_48 : decode method_2_code 48 = .ok (.if_icmp .ne 7, 3) := by decide +kernel
theorem d4_51 : decode method_2_code 51 = .ok (.iconst 1, 1) := by decide +kernel
theorem d4_52 : decode method_2_code 52 = .ok (.goto 4, 3) := by decide +kernel
theorem d4_55 : decode method_2_code 55 = .ok (.iconst 0, 1) := by decide +kernel
theorem d4_56 : decode method_2_code 56 = .ok (.istore_n 3, 1) := by decide +kernel
theorem d4_57 : decode method_2_code 57 = .ok (.iload_n 3, 1) := by decide +kernel
theorem d4_58 : decode method_2_code 58 = .ok (.ifCond .ne 13, 3) := by decide +kernel
theorem d4_61 : decode method_2_code 61 = .ok (.aload_n 0, 1) := by decide +kernel
theorem d4_62 : decode method_2_code 62 = .ok (.iload_n 2, 1) := by decide +kernel
theorem d4_63 : decode method_2_code 63 = .ok (.iload_n 1, 1) := by decide +kernel
theorem d4_64 : decode method_2_code 64 = .ok (.iastore, 1) := by decide +kernel
theorem d4_65 : decode method_2_code 65 = .ok (.aload_n 0, 1) := by decide +kernel
theorem d4_66 : decode method_2_code 66 = .ok (.iconst 4, 1) := by decide +kernel
theorem d4_67 : decode method_2_code 67 = .ok (.iload_n 2, 1) := by decide +kernel
theorem d4_68 : decode method_2_code 68 = .ok (.iconst 1, 1) := by decide +kernel
theorem d4_69 : decode method_2_code 69 = .ok (.iadd, 1) := by decide +kernel
theorem d4_70 : decode method_2_code 70 = .ok (.iastore, 1) := by decide +kernel
theorem d4_71 : decode method_2_code 71 = .ok (.return_, 1) := by decide +kernel
set_option maxRecDepth 65536 in
set_option maxHeartbeats 40000000 in
theorem rm4 (l : Launch) (Z : State) (a0 : Array Value) (hw : ∀ d ∈ tables_1, d.before a0 Z = true) (ws : List Jvm.Cond) (o0 : Addr) (p1 : Int32) (g : Nat → Int32) (xs : List Int32) (h0 : Heap) (n0 : Nat) (Z0 : n0 ≤ h0.size) (g_o0 : n0 ≤ o0) (F0 : PI Z h0 o0 .int 5 g) (hM : MA g xs) (hp : 0 ≤ p1.toInt ∧ p1.toInt < (4 : Nat)) :
    MetFree l (⟨"com/example/lootpath/lootpath/solve/CityQueueAddPinLaw", "put", "([II)V"⟩ : MethodName) (head1 (Jvm.Cond.code (⟨"com/example/lootpath/lootpath/solve/CityQueueAddPinLaw", "put", "([II)V"⟩ : MethodName) method_2_code 4 none :: ws) ({ frames := 0, cells := 0, slots := 0, locals := 0 } : Room)) (fun a U => a = #[(.ref o0), (.int p1)] ∧ Z.Warmed39 U.vm ∧ U.heap = h0) (fun _ _ _ _ _ => True) (fun _ U o U' => ∃ v L, o = .returned v ∧ Q_rm4 Z o0 p1 g xs h0 n0 v U'.heap L ∧ FrameEnd U o U' L ({ frames := 0, cells := 0, slots := 0, locals := 0 } : Room).cells ({ frames := 0, cells := 0, slots := 0, locals := 0 } : Room).slots) := by
  refine body pn_com_example_lootpath_lootpath_solve_CityQueueAddPinLaw_put_4 ?_
  intro p e s m below meth c s₁ hx hby hml hown hnm hret hlk hZ e0 X0
  replace hml : c.maxLocals = 4 := hml
  replace hown : s.vm.findClass "com/example/lootpath/lootpath/solve/CityQueueAddPinLaw" = some m.cls := hown
  replace hnm : meth.name = "put" := hnm
  replace hret : meth.sig.returnType = none := hret
  have N0 := Fr.nil n0
  rw [ef_rm4]
  obtain ⟨G, hG⟩ : ∃ G, G = End (Q_rm4 Z o0 p1 g xs h0 n0) s ({ frames := 0, cells := 0, slots := 0, locals := 0 } : Room).cells ({ frames := 0, cells := 0, slots := 0, locals := 0 } : Room).slots := ⟨_, rfl⟩
  rw [← hG]
  refine go (u' := s₁.setTop (mkF m 1 #[.val (.ref o0), .val (.int p1), .unset, .unset] [(.ref o0)])) (fun _ ks_ => XS.aloadN X0.here hx rfl (hb hby d4_0) rfl rfl ks_) ?_
  refine go (u' := s₁.setTop (mkF m 2 #[.val (.ref o0), .val (.int p1), .unset, .unset] [(.int (4 : Int32)), (.ref o0)])) (fun _ ks_ => XS.iconst X0.here hx rfl (hb hby d4_1) ks_) ?_
  refine go (u' := s₁.setTop (mkF m 3 #[.val (.ref o0), .val (.int p1), .unset, .unset] [(.int (g (4 : Int32).toNatClampNeg))])) (own_iaload X0 hx hZ e0 F0 (j := (4 : Int32)) (v := (g (4 : Int32).toNatClampNeg)) (by decide) (by decide) rfl (f := (mkF m 2 #[.val (.ref o0), .val (.int p1), .unset, .unset] [(.int (4 : Int32)), (.ref o0)])) rfl rfl (hb hby d4_2)) ?_
  refine go (u' := s₁.setTop (mkF m 4 #[.val (.ref o0), .val (.int p1), .val (.int (g (4 : Int32).toNatClampNeg)), .unset] [])) (fun _ ks_ => XS.istoreN X0.here hx rfl (hb hby d4_3) rfl  (l' := #[.val (.ref o0), .val (.int p1), .val (.int (g (4 : Int32).toNatClampNeg)), .unset]) rfl ks_) ?_
  refine go (u' := s₁.setTop (mkF m 5 #[.val (.ref o0), .val (.int p1), .val (.int (g (4 : Int32).toNatClampNeg)), .unset] [(.int (g (4 : Int32).toNatClampNeg))])) (fun _ ks_ => XS.iloadN X0.here hx rfl (hb hby d4_4) rfl  ks_) ?_
  have J56_1 : ∀ v56_1 : Int32, v56_1 = (B ((((0 : Int32) < (g (4 : Int32).toNatClampNeg)) ∧ (((g (0 : Int32).toNatClampNeg) = p1) ∨ ((((1 : Int32) < (g (4 : Int32).toNatClampNeg)) ∧ (((g (1 : Int32).toNatClampNeg) = p1) ∨ ((((2 : Int32) < (g (4 : Int32).toNatClampNeg)) ∧ (((g (2 : Int32).toNatClampNeg) = p1) ∨ (((3 : Int32) < (g (4 : Int32).toNatClampNeg)) ∧ ((g (3 : Int32).toNatClampNeg) = p1)))) ∨ ((¬ ((2 : Int32) < (g (4 : Int32).toNatClampNeg))) ∧ (((3 : Int32) < (g (4 : Int32).toNatClampNeg)) ∧ ((g (3 : Int32).toNatClampNeg) = p1)))))) ∨ ((¬ ((1 : Int32) < (g (4 : Int32).toNatClampNeg))) ∧ ((((2 : Int32) < (g (4 : Int32).toNatClampNeg)) ∧ (((g (2 : Int32).toNatClampNeg) = p1) ∨ (((3 : Int32) < (g (4 : Int32).toNatClampNeg)) ∧ ((g (3 : Int32).toNatClampNeg) = p1)))) ∨ ((¬ ((2 : Int32) < (g (4 : Int32).toNatClampNeg))) ∧ (((3 : Int32) < (g (4 : Int32).toNatClampNeg)) ∧ ((g (3 : Int32).toNatClampNeg) = p1)))))))) ∨ ((¬ ((0 : Int32) < (g (4 : Int32).toNatClampNeg))) ∧ ((((1 : Int32) < (g (4 : Int32).toNatClampNeg)) ∧ (((g (1 : Int32).toNatClampNeg) = p1) ∨ ((((2 : Int32) < (g (4 : Int32).toNatClampNeg)) ∧ (((g (2 : Int32).toNatClampNeg) = p1) ∨ (((3 : Int32) < (g (4 : Int32).toNatClampNeg)) ∧ ((g (3 : Int32).toNatClampNeg) = p1)))) ∨ ((¬ ((2 : Int32) < (g (4 : Int32).toNatClampNeg))) ∧ (((3 : Int32) < (g (4 : Int32).toNatClampNeg)) ∧ ((g (3 : Int32).toNatClampNeg) = p1)))))) ∨ ((¬ ((1 : Int32) < (g (4 : Int32).toNatClampNeg))) ∧ ((((2 : Int32) < (g (4 : Int32).toNatClampNeg)) ∧ (((g (2 : Int32).toNatClampNeg) = p1) ∨ (((3 : Int32) < (g (4 : Int32).toNatClampNeg)) ∧ ((g (3 : Int32).toNatClampNeg) = p1)))) ∨ ((¬ ((2 : Int32) < (g (4 : Int32).toNatClampNeg))) ∧ (((3 : Int32) < (g (4 : Int32).toNatClampNeg)) ∧ ((g (3 : Int32).toNatClampNeg) = p1))))))))) → Go p.tables e below G (s₁.setTop (mkF m 56 #[.val (.ref o0), .val (.int p1), .val (.int (g (4 : Int32).toNatClampNeg)), .unset] [(.int v56_1)])) := by
    intro v56_1 hv56_1
    subst hv56_1
    refine go (u' := s₁.setTop (mkF m 57 #[.val (.ref o0), .val (.int p1), .val (.int (g (4 : Int32).toNatClampNeg)), .val (.int (B ((((0 : Int32) < (g (4 : Int32).toNatClampNeg)) ∧ (((g (0 : Int32).toNatClampNeg) = p1) ∨ ((((1 : Int32) < (g (4 : Int32).toNatClampNeg)) ∧ (((g (1 : Int32).toNatClampNeg) = p1) ∨ ((((2 : Int32) < (g (4 : Int32).toNatClampNeg)) ∧ (((g (2 : Int32).toNatClampNeg) = p1) ∨ (((3 : Int32) < (g (4 : Int32).toNatClampNeg)) ∧ ((g (3 : Int32).toNatClampNeg) = p1)))) ∨ ((¬ ((2 : Int32) < (g (4 : Int32).toNatClampNeg))) ∧ (((3 : Int32) < (g (4 : Int32).toNatClampNeg)) ∧ ((g (3 : Int32).toNatClampNeg) = p1)))))) ∨ ((¬ ((1 : Int32) < (g (4 : Int32).toNatClampNeg))) ∧ ((((2 : Int32) < (g (4 : Int32).toNatClampNeg)) ∧ (((g (2 : Int32).toNatClampNeg) = p1) ∨ (((3 : Int32) < (g (4 : Int32).toNatClampNeg)) ∧ ((g (3 : Int32).toNatClampNeg) = p1)))) ∨ ((¬ ((2 : Int32) < (g (4 : Int32).toNatClampNeg))) ∧ (((3 : Int32) < (g (4 : Int32).toNatClampNeg)) ∧ ((g (3 : Int32).toNatClampNeg) = p1)))))))) ∨ ((¬ ((0 : Int32) < (g (4 : Int32).toNatClampNeg))) ∧ ((((1 : Int32) < (g (4 : Int32).toNatClampNeg)) ∧ (((g (1 : Int32).toNatClampNeg) = p1) ∨ ((((2 : Int32) < (g (4 : Int32).toNatClampNeg)) ∧ (((g (2 : Int32).toNatClampNeg) = p1) ∨ (((3 : Int32) < (g (4 : Int32).toNatClampNeg)) ∧ ((g (3 : Int32).toNatClampNeg) = p1)))) ∨ ((¬ ((2 : Int32) < (g (4 : Int32).toNatClampNeg))) ∧ (((3 : Int32) < (g (4 : Int32).toNatClampNeg)) ∧ ((g (3 : Int32).toNatClampNeg) = p1)))))) ∨ ((¬ ((1 : Int32) < (g (4 : Int32).toNatClampNeg))) ∧ ((((2 : Int32) < (g (4 : Int32).toNatClampNeg)) ∧ (((g (2 : Int32).toNatClampNeg) = p1) ∨ (((3 : Int32) < (g (4 : Int32).toNatClampNeg)) ∧ ((g (3 : Int32).toNatClampNeg) = p1)))) ∨ ((¬ ((2 : Int32) < (g (4 : Int32).toNatClampNeg))) ∧ (((3 : Int32) < (g (4 : Int32).toNatClampNeg)) ∧ ((g (3 : Int32).toNatClampNeg) = p1))))))))))] [])) (fun _ ks_ => XS.istoreN X0.here hx rfl (hb hby d4_56) rfl  (l' := #[.val (.ref o0), .val (.int p1), .val (.int (g (4 : Int32).toNatClampNeg)), .val (.int (B ((((0 : Int32) < (g (4 : Int32).toNatClampNeg)) ∧ (((g (0 : Int32).toNatClampNeg) = p1) ∨ ((((1 : Int32) < (g (4 : Int32).toNatClampNeg)) ∧ (((g (1 : Int32).toNatClampNeg) = p1) ∨ ((((2 : Int32) < (g (4 : Int32).toNatClampNeg)) ∧ (((g (2 : Int32).toNatClampNeg) = p1) ∨ (((3 : Int32) < (g (4 : Int32).toNatClampNeg)) ∧ ((g (3 : Int32).toNatClampNeg) = p1)))) ∨ ((¬ ((2 : Int32) < (g (4 : Int32).toNatClampNeg))) ∧ (((3 : Int32) < (g (4 : Int32).toNatClampNeg)) ∧ ((g (3 : Int32).toNatClampNeg) = p1)))))) ∨ ((¬ ((1 : Int32) < (g (4 : Int32).toNatClampNeg))) ∧ ((((2 : Int32) < (g (4 : Int32).toNatClampNeg)) ∧ (((g (2 : Int32).toNatClampNeg) = p1) ∨ (((3 : Int32) < (g (4 : Int32).toNatClampNeg)) ∧ ((g (3 : Int32).toNatClampNeg) = p1)))) ∨ ((¬ ((2 : Int32) < (g (4 : Int32).toNatClampNeg))) ∧ (((3 : Int32) < (g (4 : Int32).toNatClampNeg)) ∧ ((g (3 : Int32).toNatClampNeg) = p1)))))))) ∨ ((¬ ((0 : Int32) < (g (4 : Int32).toNatClampNeg))) ∧ ((((1 : Int32) < (g (4 : Int32).toNatClampNeg)) ∧ (((g (1 : Int32).toNatClampNeg) = p1) ∨ ((((2 : Int32) < (g (4 : Int32).toNatClampNeg)) ∧ (((g (2 : Int32).toNatClampNeg) = p1) ∨ (((3 : Int32) < (g (4 : Int32).toNatClampNeg)) ∧ ((g (3 : Int32).toNatClampNeg) = p1)))) ∨ ((¬ ((2 : Int32) < (g (4 : Int32).toNatClampNeg))) ∧ (((3 : Int32) < (g (4 : Int32).toNatClampNeg)) ∧ ((g (3 : Int32).toNatClampNeg) = p1)))))) ∨ ((¬ ((1 : Int32) < (g (4 : Int32).toNatClampNeg))) ∧ ((((2 : Int32) < (g (4 : Int32).toNatClampNeg)) ∧ (((g (2 : Int32).toNatClampNeg) = p1) ∨ (((3 : Int32) < (g (4 : Int32).toNatClampNeg)) ∧ ((g (3 : Int32).toNatClampNeg) = p1)))) ∨ ((¬ ((2 : Int32) < (g (4 : Int32).toNatClampNeg))) ∧ (((3 : Int32) < (g (4 : Int32).toNatClampNeg)) ∧ ((g (3 : Int32).toNatClampNeg) = p1))))))))))]) rfl ks_) ?_
    refine go (u' := s₁.setTop (mkF m 58 #[.val (.ref o0), .val (.int p1), .val (.int (g (4 : Int32).toNatClampNeg)), .val (.int (B ((((0 : Int32) < (g (4 : Int32).toNatClampNeg)) ∧ (((g (0 : Int32).toNatClampNeg) = p1) ∨ ((((1 : Int32) < (g (4 : Int32).toNatClampNeg)) ∧ (((g (1 : Int32).toNatClampNeg) = p1) ∨ ((((2 : Int32) < (g (4 : Int32).toNatClampNeg)) ∧ (((g (2 : Int32).toNatClampNeg) = p1) ∨ (((3 : Int32) < (g (4 : Int32).toNatClampNeg)) ∧ ((g (3 : Int32).toNatClampNeg) = p1)))) ∨ ((¬ ((2 : Int32) < (g (4 : Int32).toNatClampNeg))) ∧ (((3 : Int32) < (g (4 : Int32).toNatClampNeg)) ∧ ((g (3 : Int32).toNatClampNeg) = p1)))))) ∨ ((¬ ((1 : Int32) < (g (4 : Int32).toNatClampNeg))) ∧ ((((2 : Int32) < (g (4 : Int32).toNatClampNeg)) ∧ (((g (2 : Int32).toNatClampNeg) = p1) ∨ (((3 : Int32) < (g (4 : Int32).toNatClampNeg)) ∧ ((g (3 : Int32).toNatClampNeg) = p1)))) ∨ ((¬ ((2 : Int32) < (g (4 : Int32).toNatClampNeg))) ∧ (((3 : Int32) < (g (4 : Int32).toNatClampNeg)) ∧ ((g (3 : Int32).toNatClampNeg) = p1)))))))) ∨ ((¬ ((0 : Int32) < (g (4 : Int32).toNatClampNeg))) ∧ ((((1 : Int32) < (g (4 : Int32).toNatClampNeg)) ∧ (((g (1 : Int32).toNatClampNeg) = p1) ∨ ((((2 : Int32) < (g (4 : Int32).toNatClampNeg)) ∧ (((g (2 : Int32).toNatClampNeg) = p1) ∨ (((3 : Int32) < (g (4 : Int32).toNatClampNeg)) ∧ ((g (3 : Int32).toNatClampNeg) = p1)))) ∨ ((¬ ((2 : Int32) < (g (4 : Int32).toNatClampNeg))) ∧ (((3 : Int32) < (g (4 : Int32).toNatClampNeg)) ∧ ((g (3 : Int32).toNatClampNeg) = p1)))))) ∨ ((¬ ((1 : Int32) < (g (4 : Int32).toNatClampNeg))) ∧ ((((2 : Int32) < (g (4 : Int32).toNatClampNeg)) ∧ (((g (2 : Int32).toNatClampNeg) = p1) ∨ (((3 : Int32) < (g (4 : Int32).toNatClampNeg)) ∧ ((g (3 : Int32).toNatClampNeg) = p1)))) ∨ ((¬ ((2 : Int32) < (g (4 : Int32).toNatClampNeg))) ∧ (((3 : Int32) < (g (4 : Int32).toNatClampNeg)) ∧ ((g (3 : Int32).toNatClampNeg) = p1))))))))))] [(.int (B ((((0 : Int32) < (g (4 : Int32).toNatClampNeg)) ∧ (((g (0 : Int32).toNatClampNeg) = p1) ∨ ((((1 : Int32) < (g (4 : Int32).toNatClampNeg)) ∧ (((g (1 : Int32).toNatClampNeg) = p1) ∨ ((((2 : Int32) < (g (4 : Int32).toNatClampNeg)) ∧ (((g (2 : Int32).toNatClampNeg) = p1) ∨ (((3 : Int32) < (g (4 : Int32).toNatClampNeg)) ∧ ((g (3 : Int32).toNatClampNeg) = p1)))) ∨ ((¬ ((2 : Int32) < (g (4 : Int32).toNatClampNeg))) ∧ (((3 : Int32) < (g (4 : Int32).toNatClampNeg)) ∧ ((g (3 : Int32).toNatClampNeg) = p1)))))) ∨ ((¬ ((1 : Int32) < (g (4 : Int32).toNatClampNeg))) ∧ ((((2 : Int32) < (g (4 : Int32).toNatClampNeg)) ∧ (((g (2 : Int32).toNatClampNeg) = p1) ∨ (((3 : Int32) < (g (4 : Int32).toNatClampNeg)) ∧ ((g (3 : Int32).toNatClampNeg) = p1)))) ∨ ((¬ ((2 : Int32) < (g (4 : Int32).toNatClampNeg))) ∧ (((3 : Int32) < (g (4 : Int32).toNatClampNeg)) ∧ ((g (3 : Int32).toNatClampNeg) = p1)))))))) ∨ ((¬ ((0 : Int32) < (g (4 : Int32).toNatClampNeg))) ∧ ((((1 : Int32) < (g (4 : Int32).toNatClampNeg)) ∧ (((g (1 : Int32).toNatClampNeg) = p1) ∨ ((((2 : Int32) < (g (4 : Int32).toNatClampNeg)) ∧ (((g (2 : Int32).toNatClampNeg) = p1) ∨ (((3 : Int32) < (g (4 : Int32).toNatClampNeg)) ∧ ((g (3 : Int32).toNatClampNeg) = p1)))) ∨ ((¬ ((2 : Int32) < (g (4 : Int32).toNatClampNeg))) ∧ (((3 : Int32) < (g (4 : Int32).toNatClampNeg)) ∧ ((g (3 : Int32).toNatClampNeg) = p1)))))) ∨ ((¬ ((1 : Int32) < (g (4 : Int32).toNatClampNeg))) ∧ ((((2 : Int32) < (g (4 : Int32).toNatClampNeg)) ∧ (((g (2 : Int32).toNatClampNeg) = p1) ∨ (((3 : Int32) < (g (4 : Int32).toNatClampNeg)) ∧ ((g (3 : Int32).toNatClampNeg) = p1)))) ∨ ((¬ ((2 : Int32) < (g (4 : Int32).toNatClampNeg))) ∧ (((3 : Int32) < (g (4 : Int32).toNatClampNeg)) ∧ ((g (3 : Int32).toNatClampNeg) = p1))))))))))])) (fun _ ks_ => XS.iloadN X0.here hx rfl (hb hby d4_57) rfl  ks_) ?_
    by_cases c58_1 : ((((0 : Int32) < (g (4 : Int32).toNatClampNeg)) ∧ (((g (0 : Int32).toNatClampNeg) = p1) ∨ ((((1 : Int32) < (g (4 : Int32).toNatClampNeg)) ∧ (((g (1 : Int32).toNatClampNeg) = p1) ∨ ((((2 : Int32) < (g (4 : Int32).toNatClampNeg)) ∧ (((g (2 : Int32).toNatClampNeg) = p1) ∨ (((3 : Int32) < (g (4 : Int32).toNatClampNeg)) ∧ ((g (3 : Int32).toNatClampNeg) = p1)))) ∨ ((¬ ((2 : Int32) < (g (4 : Int32).toNatClampNeg))) ∧ (((3 : Int32) < (g (4 : Int32).toNatClampNeg)) ∧ ((g (3 : Int32).toNatClampNeg) = p1)))))) ∨ ((¬ ((1 : Int32) < (g (4 : Int32).toNatClampNeg))) ∧ ((((2 : Int32) < (g (4 : Int32).toNatClampNeg)) ∧ (((g (2 : Int32).toNatClampNeg) = p1) ∨ (((3 : Int32) < (g (4 : Int32).toNatClampNeg)) ∧ ((g (3 : Int32).toNatClampNeg) = p1)))) ∨ ((¬ ((2 : Int32) < (g (4 : Int32).toNatClampNeg))) ∧ (((3 : Int32) < (g (4 : Int32).toNatClampNeg)) ∧ ((g (3 : Int32).toNatClampNeg) = p1)))))))) ∨ ((¬ ((0 : Int32) < (g (4 : Int32).toNatClampNeg))) ∧ ((((1 : Int32) < (g (4 : Int32).toNatClampNeg)) ∧ (((g (1 : Int32).toNatClampNeg) = p1) ∨ ((((2 : Int32) < (g (4 : Int32).toNatClampNeg)) ∧ (((g (2 : Int32).toNatClampNeg) = p1) ∨ (((3 : Int32) < (g (4 : Int32).toNatClampNeg)) ∧ ((g (3 : Int32).toNatClampNeg) = p1)))) ∨ ((¬ ((2 : Int32) < (g (4 : Int32).toNatClampNeg))) ∧ (((3 : Int32) < (g (4 : Int32).toNatClampNeg)) ∧ ((g (3 : Int32).toNatClampNeg) = p1)))))) ∨ ((¬ ((1 : Int32) < (g (4 : Int32).toNatClampNeg))) ∧ ((((2 : Int32) < (g (4 : Int32).toNatClampNeg)) ∧ (((g (2 : Int32).toNatClampNeg) = p1) ∨ (((3 : Int32) < (g (4 : Int32).toNatClampNeg)) ∧ ((g (3 : Int32).toNatClampNeg) = p1)))) ∨ ((¬ ((2 : Int32) < (g (4 : Int32).toNatClampNeg))) ∧ (((3 : Int32) < (g (4 : Int32).toNatClampNeg)) ∧ ((g (3 : Int32).toNatClampNeg) = p1))))))))
    ·
      refine go (u' := s₁.setTop (mkF m 71 #[.val (.ref o0), .val (.int p1), .val (.int (g (4 : Int32).toNatClampNeg)), .val (.int (B ((((0 : Int32) < (g (4 : Int32).toNatClampNeg)) ∧ (((g (0 : Int32).toNatClampNeg) = p1) ∨ ((((1 : Int32) < (g (4 : Int32).toNatClampNeg)) ∧ (((g (1 : Int32).toNatClampNeg) = p1) ∨ ((((2 : Int32) < (g (4 : Int32).toNatClampNeg)) ∧ (((g (2 : Int32).toNatClampNeg) = p1) ∨ (((3 : Int32) < (g (4 : Int32).toNatClampNeg)) ∧ ((g (3 : Int32).toNatClampNeg) = p1)))) ∨ ((¬ ((2 : Int32) < (g (4 : Int32).toNatClampNeg))) ∧ (((3 : Int32) < (g (4 : Int32).toNatClampNeg)) ∧ ((g (3 : Int32).toNatClampNeg) = p1)))))) ∨ ((¬ ((1 : Int32) < (g (4 : Int32).toNatClampNeg))) ∧ ((((2 : Int32) < (g (4 : Int32).toNatClampNeg)) ∧ (((g (2 : Int32).toNatClampNeg) = p1) ∨ (((3 : Int32) < (g (4 : Int32).toNatClampNeg)) ∧ ((g (3 : Int32).toNatClampNeg) = p1)))) ∨ ((¬ ((2 : Int32) < (g (4 : Int32).toNatClampNeg))) ∧ (((3 : Int32) < (g (4 : Int32).toNatClampNeg)) ∧ ((g (3 : Int32).toNatClampNeg) = p1)))))))) ∨ ((¬ ((0 : Int32) < (g (4 : Int32).toNatClampNeg))) ∧ ((((1 : Int32) < (g (4 : Int32).toNatClampNeg)) ∧ (((g (1 : Int32).toNatClampNeg) = p1) ∨ ((((2 : Int32) < (g (4 : Int32).toNatClampNeg)) ∧ (((g (2 : Int32).toNatClampNeg) = p1) ∨ (((3 : Int32) < (g (4 : Int32).toNatClampNeg)) ∧ ((g (3 : Int32).toNatClampNeg) = p1)))) ∨ ((¬ ((2 : Int32) < (g (4 : Int32).toNatClampNeg))) ∧ (((3 : Int32) < (g (4 : Int32).toNatClampNeg)) ∧ ((g (3 : Int32).toNatClampNeg) = p1)))))) ∨ ((¬ ((1 : Int32) < (g (4 : Int32).toNatClampNeg))) ∧ ((((2 : Int32) < (g (4 : Int32).toNatClampNeg)) ∧ (((g (2 : Int32).toNatClampNeg) = p1) ∨ (((3 : Int32) < (g (4 : Int32).toNatClampNeg)) ∧ ((g (3 : Int32).toNatClampNeg) = p1)))) ∨ ((¬ ((2 : Int32) < (g (4 : Int32).toNatClampNeg))) ∧ (((3 : Int32) < (g (4 : Int32).toNatClampNeg)) ∧ ((g (3 : Int32).toNatClampNeg) = p1))))))))))] [])) (fun _ ks_ => XS.ifYes X0.here hx rfl (pc0 := 58) (pc' := 71) rfl (hb hby d4_58) rfl (bT c58_1).1 (by decide) (by decide) ks_) ?_
      rw [hG]
      refine g0 X0 hx hlk hret (hb hby d4_71) ?_ (Nat.le_of_ble_eq_true rfl) (Nat.le_of_ble_eq_true rfl)
      show Q_rm4 Z o0 p1 g xs h0 n0 (none) s₁.heap _
      rw [e0]
      exact ⟨g, rfl, N0, (Keep.refl h0 _), F0, (hM.same ((hM.pres2 p1).mp c58_1))⟩
    ·
      refine go (u' := s₁.setTop (mkF m 61 #[.val (.ref o0), .val (.int p1), .val (.int (g (4 : Int32).toNatClampNeg)), .val (.int (B ((((0 : Int32) < (g (4 : Int32).toNatClampNeg)) ∧ (((g (0 : Int32).toNatClampNeg) = p1) ∨ ((((1 : Int32) < (g (4 : Int32).toNatClampNeg)) ∧ (((g (1 : Int32).toNatClampNeg) = p1) ∨ ((((2 : Int32) < (g (4 : Int32).toNatClampNeg)) ∧ (((g (2 : Int32).toNatClampNeg) = p1) ∨ (((3 : Int32) < (g (4 : Int32).toNatClampNeg)) ∧ ((g (3 : Int32).toNatClampNeg) = p1)))) ∨ ((¬ ((2 : Int32) < (g (4 : Int32).toNatClampNeg))) ∧ (((3 : Int32) < (g (4 : Int32).toNatClampNeg)) ∧ ((g (3 : Int32).toNatClampNeg) = p1)))))) ∨ ((¬ ((1 : Int32) < (g (4 : Int32).toNatClampNeg))) ∧ ((((2 : Int32) < (g (4 : Int32).toNatClampNeg)) ∧ (((g (2 : Int32).toNatClampNeg) = p1) ∨ (((3 : Int32) < (g (4 : Int32).toNatClampNeg)) ∧ ((g (3 : Int32).toNatClampNeg) = p1)))) ∨ ((¬ ((2 : Int32) < (g (4 : Int32).toNatClampNeg))) ∧ (((3 : Int32) < (g (4 : Int32).toNatClampNeg)) ∧ ((g (3 : Int32).toNatClampNeg) = p1)))))))) ∨ ((¬ ((0 : Int32) < (g (4 : Int32).toNatClampNeg))) ∧ ((((1 : Int32) < (g (4 : Int32).toNatClampNeg)) ∧ (((g (1 : Int32).toNatClampNeg) = p1) ∨ ((((2 : Int32) < (g (4 : Int32).toNatClampNeg)) ∧ (((g (2 : Int32).toNatClampNeg) = p1) ∨ (((3 : Int32) < (g (4 : Int32).toNatClampNeg)) ∧ ((g (3 : Int32).toNatClampNeg) = p1)))) ∨ ((¬ ((2 : Int32) < (g (4 : Int32).toNatClampNeg))) ∧ (((3 : Int32) < (g (4 : Int32).toNatClampNeg)) ∧ ((g (3 : Int32).toNatClampNeg) = p1)))))) ∨ ((¬ ((1 : Int32) < (g (4 : Int32).toNatClampNeg))) ∧ ((((2 : Int32) < (g (4 : Int32).toNatClampNeg)) ∧ (((g (2 : Int32).toNatClampNeg) = p1) ∨ (((3 : Int32) < (g (4 : Int32).toNatClampNeg)) ∧ ((g (3 : Int32).toNatClampNeg) = p1)))) ∨ ((¬ ((2 : Int32) < (g (4 : Int32).toNatClampNeg))) ∧ (((3 : Int32) < (g (4 : Int32).toNatClampNeg)) ∧ ((g (3 : Int32).toNatClampNeg) = p1))))))))))] [])) (fun _ ks_ => XS.ifNo X0.here hx rfl (hb hby d4_58) rfl (bF c58_1).1 ks_) ?_
      refine go (u' := s₁.setTop (mkF m 62 #[.val (.ref o0), .val (.int p1), .val (.int (g (4 : Int32).toNatClampNeg)), .val (.int (B ((((0 : Int32) < (g (4 : Int32).toNatClampNeg)) ∧ (((g (0 : Int32).toNatClampNeg) = p1) ∨ ((((1 : Int32) < (g (4 : Int32).toNatClampNeg)) ∧ (((g (1 : Int32).toNatClampNeg) = p1) ∨ ((((2 : Int32) < (g (4 : Int32).toNatClampNeg)) ∧ (((g (2 : Int32).toNatClampNeg) = p1) ∨ (((3 : Int32) < (g (4 : Int32).toNatClampNeg)) ∧ ((g (3 : Int32).toNatClampNeg) = p1)))) ∨ ((¬ ((2 : Int32) < (g (4 : Int32).toNatClampNeg))) ∧ (((3 : Int32) < (g (4 : Int32).toNatClampNeg)) ∧ ((g (3 : Int32).toNatClampNeg) = p1)))))) ∨ ((¬ ((1 : Int32) < (g (4 : Int32).toNatClampNeg))) ∧ ((((2 : Int32) < (g (4 : Int32).toNatClampNeg)) ∧ (((g (2 : Int32).toNatClampNeg) = p1) ∨ (((3 : Int32) < (g (4 : Int32).toNatClampNeg)) ∧ ((g (3 : Int32).toNatClampNeg) = p1)))) ∨ ((¬ ((2 : Int32) < (g (4 : Int32).toNatClampNeg))) ∧ (((3 : Int32) < (g (4 : Int32).toNatClampNeg)) ∧ ((g (3 : Int32).toNatClampNeg) = p1)))))))) ∨ ((¬ ((0 : Int32) < (g (4 : Int32).toNatClampNeg))) ∧ ((((1 : Int32) < (g (4 : Int32).toNatClampNeg)) ∧ (((g (1 : Int32).toNatClampNeg) = p1) ∨ ((((2 : Int32) < (g (4 : Int32).toNatClampNeg)) ∧ (((g (2 : Int32).toNatClampNeg) = p1) ∨ (((3 : Int32) < (g (4 : Int32).toNatClampNeg)) ∧ ((g (3 : Int32).toNatClampNeg) = p1)))) ∨ ((¬ ((2 : Int32) < (g (4 : Int32).toNatClampNeg))) ∧ (((3 : Int32) < (g (4 : Int32).toNatClampNeg)) ∧ ((g (3 : Int32).toNatClampNeg) = p1)))))) ∨ ((¬ ((1 : Int32) < (g (4 : Int32).toNatClampNeg))) ∧ ((((2 : Int32) < (g (4 : Int32).toNatClampNeg)) ∧ (((g (2 : Int32).toNatClampNeg) = p1) ∨ (((3 : Int32) < (g (4 : Int32).toNatClampNeg)) ∧ ((g (3 : Int32).toNatClampNeg) = p1)))) ∨ ((¬ ((2 : Int32) < (g (4 : Int32).toNatClampNeg))) ∧ (((3 : Int32) < (g (4 : Int32).toNatClampNeg)) ∧ ((g (3 : Int32).toNatClampNeg) = p1))))))))))] [(.ref o0)])) (fun _ ks_ => XS.aloadN X0.here hx rfl (hb hby d4_61) rfl rfl ks_) ?_
      refine go (u' := s₁.setTop (mkF m 63 #[.val (.ref o0), .val (.int p1), .val (.int (g (4 : Int32).toNatClampNeg)), .val (.int (B ((((0 : Int32) < (g (4 : Int32).toNatClampNeg)) ∧ (((g (0 : Int32).toNatClampNeg) = p1) ∨ ((((1 : Int32) < (g (4 : Int32).toNatClampNeg)) ∧ (((g (1 : Int32).toNatClampNeg) = p1) ∨ ((((2 : Int32) < (g (4 : Int32).toNatClampNeg)) ∧ (((g (2 : Int32).toNatClampNeg) = p1) ∨ (((3 : Int32) < (g (4 : Int32).toNatClampNeg)) ∧ ((g (3 : Int32).toNatClampNeg) = p1)))) ∨ ((¬ ((2 : Int32) < (g (4 : Int32).toNatClampNeg))) ∧ (((3 : Int32) < (g (4 : Int32).toNatClampNeg)) ∧ ((g (3 : Int32).toNatClampNeg) = p1)))))) ∨ ((¬ ((1 : Int32) < (g (4 : Int32).toNatClampNeg))) ∧ ((((2 : Int32) < (g (4 : Int32).toNatClampNeg)) ∧ (((g (2 : Int32).toNatClampNeg) = p1) ∨ (((3 : Int32) < (g (4 : Int32).toNatClampNeg)) ∧ ((g (3 : Int32).toNatClampNeg) = p1)))) ∨ ((¬ ((2 : Int32) < (g (4 : Int32).toNatClampNeg))) ∧ (((3 : Int32) < (g (4 : Int32).toNatClampNeg)) ∧ ((g (3 : Int32).toNatClampNeg) = p1)))))))) ∨ ((¬ ((0 : Int32) < (g (4 : Int32).toNatClampNeg))) ∧ ((((1 : Int32) < (g (4 : Int32).toNatClampNeg)) ∧ (((g (1 : Int32).toNatClampNeg) = p1) ∨ ((((2 : Int32) < (g (4 : Int32).toNatClampNeg)) ∧ (((g (2 : Int32).toNatClampNeg) = p1) ∨ (((3 : Int32) < (g (4 : Int32).toNatClampNeg)) ∧ ((g (3 : Int32).toNatClampNeg) = p1)))) ∨ ((¬ ((2 : Int32) < (g (4 : Int32).toNatClampNeg))) ∧ (((3 : Int32) < (g (4 : Int32).toNatClampNeg)) ∧ ((g (3 : Int32).toNatClampNeg) = p1)))))) ∨ ((¬ ((1 : Int32) < (g (4 : Int32).toNatClampNeg))) ∧ ((((2 : Int32) < (g (4 : Int32).toNatClampNeg)) ∧ (((g (2 : Int32).toNatClampNeg) = p1) ∨ (((3 : Int32) < (g (4 : Int32).toNatClampNeg)) ∧ ((g (3 : Int32).toNatClampNeg) = p1)))) ∨ ((¬ ((2 : Int32) < (g (4 : Int32).toNatClampNeg))) ∧ (((3 : Int32) < (g (4 : Int32).toNatClampNeg)) ∧ ((g (3 : Int32).toNatClampNeg) = p1))))))))))] [(.int (g (4 : Int32).toNatClampNeg)), (.ref o0)])) (fun _ ks_ => XS.iloadN X0.here hx rfl (hb hby d4_62) rfl  ks_) ?_
      refine go (u' := s₁.setTop (mkF m 64 #[.val (.ref o0), .val (.int p1), .val (.int (g (4 : Int32).toNatClampNeg)), .val (.int (B ((((0 : Int32) < (g (4 : Int32).toNatClampNeg)) ∧ (((g (0 : Int32).toNatClampNeg) = p1) ∨ ((((1 : Int32) < (g (4 : Int32).toNatClampNeg)) ∧ (((g (1 : Int32).toNatClampNeg) = p1) ∨ ((((2 : Int32) < (g (4 : Int32).toNatClampNeg)) ∧ (((g (2 : Int32).toNatClampNeg) = p1) ∨ (((3 : Int32) < (g (4 : Int32).toNatClampNeg)) ∧ ((g (3 : Int32).toNatClampNeg) = p1)))) ∨ ((¬ ((2 : Int32) < (g (4 : Int32).toNatClampNeg))) ∧ (((3 : Int32) < (g (4 : Int32).toNatClampNeg)) ∧ ((g (3 : Int32).toNatClampNeg) = p1)))))) ∨ ((¬ ((1 : Int32) < (g (4 : Int32).toNatClampNeg))) ∧ ((((2 : Int32) < (g (4 : Int32).toNatClampNeg)) ∧ (((g (2 : Int32).toNatClampNeg) = p1) ∨ (((3 : Int32) < (g (4 : Int32).toNatClampNeg)) ∧ ((g (3 : Int32).toNatClampNeg) = p1)))) ∨ ((¬ ((2 : Int32) < (g (4 : Int32).toNatClampNeg))) ∧ (((3 : Int32) < (g (4 : Int32).toNatClampNeg)) ∧ ((g (3 : Int32).toNatClampNeg) = p1)))))))) ∨ ((¬ ((0 : Int32) < (g (4 : Int32).toNatClampNeg))) ∧ ((((1 : Int32) < (g (4 : Int32).toNatClampNeg)) ∧ (((g (1 : Int32).toNatClampNeg) = p1) ∨ ((((2 : Int32) < (g (4 : Int32).toNatClampNeg)) ∧ (((g (2 : Int32).toNatClampNeg) = p1) ∨ (((3 : Int32) < (g (4 : Int32).toNatClampNeg)) ∧ ((g (3 : Int32).toNatClampNeg) = p1)))) ∨ ((¬ ((2 : Int32) < (g (4 : Int32).toNatClampNeg))) ∧ (((3 : Int32) < (g (4 : Int32).toNatClampNeg)) ∧ ((g (3 : Int32).toNatClampNeg) = p1)))))) ∨ ((¬ ((1 : Int32) < (g (4 : Int32).toNatClampNeg))) ∧ ((((2 : Int32) < (g (4 : Int32).toNatClampNeg)) ∧ (((g (2 : Int32).toNatClampNeg) = p1) ∨ (((3 : Int32) < (g (4 : Int32).toNatClampNeg)) ∧ ((g (3 : Int32).toNatClampNeg) = p1)))) ∨ ((¬ ((2 : Int32) < (g (4 : Int32).toNatClampNeg))) ∧ (((3 : Int32) < (g (4 : Int32).toNatClampNeg)) ∧ ((g (3 : Int32).toNatClampNeg) = p1))))))))))] [(.int p1), (.int (g (4 : Int32).toNatClampNeg)), (.ref o0)])) (fun _ ks_ => XS.iloadN X0.here hx rfl (hb hby d4_63) rfl  ks_) ?_
      obtain ⟨T1, h1, X1, e1, W1, st1⟩ := own_iastore X0 hx hZ e0 F0 (j := (g (4 : Int32).toNatClampNeg)) (x := p1)  (own_nn hM.idx.1) (own_lt hM.idx.1 hM.idx.2) (f := (mkF m 64 #[.val (.ref o0), .val (.int p1), .val (.int (g (4 : Int32).toNatClampNeg)), .val (.int (B ((((0 : Int32) < (g (4 : Int32).toNatClampNeg)) ∧ (((g (0 : Int32).toNatClampNeg) = p1) ∨ ((((1 : Int32) < (g (4 : Int32).toNatClampNeg)) ∧ (((g (1 : Int32).toNatClampNeg) = p1) ∨ ((((2 : Int32) < (g (4 : Int32).toNatClampNeg)) ∧ (((g (2 : Int32).toNatClampNeg) = p1) ∨ (((3 : Int32) < (g (4 : Int32).toNatClampNeg)) ∧ ((g (3 : Int32).toNatClampNeg) = p1)))) ∨ ((¬ ((2 : Int32) < (g (4 : Int32).toNatClampNeg))) ∧ (((3 : Int32) < (g (4 : Int32).toNatClampNeg)) ∧ ((g (3 : Int32).toNatClampNeg) = p1)))))) ∨ ((¬ ((1 : Int32) < (g (4 : Int32).toNatClampNeg))) ∧ ((((2 : Int32) < (g (4 : Int32).toNatClampNeg)) ∧ (((g (2 : Int32).toNatClampNeg) = p1) ∨ (((3 : Int32) < (g (4 : Int32).toNatClampNeg)) ∧ ((g (3 : Int32).toNatClampNeg) = p1)))) ∨ ((¬ ((2 : Int32) < (g (4 : Int32).toNatClampNeg))) ∧ (((3 : Int32) < (g (4 : Int32).toNatClampNeg)) ∧ ((g (3 : Int32).toNatClampNeg) = p1)))))))) ∨ ((¬ ((0 : Int32) < (g (4 : Int32).toNatClampNeg))) ∧ ((((1 : Int32) < (g (4 : Int32).toNatClampNeg)) ∧ (((g (1 : Int32).toNatClampNeg) = p1) ∨ ((((2 : Int32) < (g (4 : Int32).toNatClampNeg)) ∧ (((g (2 : Int32).toNatClampNeg) = p1) ∨ (((3 : Int32) < (g (4 : Int32).toNatClampNeg)) ∧ ((g (3 : Int32).toNatClampNeg) = p1)))) ∨ ((¬ ((2 : Int32) < (g (4 : Int32).toNatClampNeg))) ∧ (((3 : Int32) < (g (4 : Int32).toNatClampNeg)) ∧ ((g (3 : Int32).toNatClampNeg) = p1)))))) ∨ ((¬ ((1 : Int32) < (g (4 : Int32).toNatClampNeg))) ∧ ((((2 : Int32) < (g (4 : Int32).toNatClampNeg)) ∧ (((g (2 : Int32).toNatClampNeg) = p1) ∨ (((3 : Int32) < (g (4 : Int32).toNatClampNeg)) ∧ ((g (3 : Int32).toNatClampNeg) = p1)))) ∨ ((¬ ((2 : Int32) < (g (4 : Int32).toNatClampNeg))) ∧ (((3 : Int32) < (g (4 : Int32).toNatClampNeg)) ∧ ((g (3 : Int32).toNatClampNeg) = p1))))))))))] [(.int p1), (.int (g (4 : Int32).toNatClampNeg)), (.ref o0)])) rfl rfl (hb hby d4_64)
      have N1 := Fr.snoc X1 N0 g_o0
      have K1 : Keep h0 h1 [o0] := (Keep.refl h0 [o0]).wr W1 (Or.inl (List.mem_of_getElem? (i := 0) rfl))
      have Z1 : n0 ≤ h1.size := Nat.le_trans Z0 (Keep.of_wr W1).1
      have Fa2 : PI Z h1 o0 .int 5 (upd g ((g (4 : Int32).toNatClampNeg)).toNatClampNeg p1) := F0.set (own_lt hM.idx.1 hM.idx.2) W1
      refine go (u' := T1.setTop (mkF m 65 #[.val (.ref o0), .val (.int p1), .val (.int (g (4 : Int32).toNatClampNeg)), .val (.int (B ((((0 : Int32) < (g (4 : Int32).toNatClampNeg)) ∧ (((g (0 : Int32).toNatClampNeg) = p1) ∨ ((((1 : Int32) < (g (4 : Int32).toNatClampNeg)) ∧ (((g (1 : Int32).toNatClampNeg) = p1) ∨ ((((2 : Int32) < (g (4 : Int32).toNatClampNeg)) ∧ (((g (2 : Int32).toNatClampNeg) = p1) ∨ (((3 : Int32) < (g (4 : Int32).toNatClampNeg)) ∧ ((g (3 : Int32).toNatClampNeg) = p1)))) ∨ ((¬ ((2 : Int32) < (g (4 : Int32).toNatClampNeg))) ∧ (((3 : Int32) < (g (4 : Int32).toNatClampNeg)) ∧ ((g (3 : Int32).toNatClampNeg) = p1)))))) ∨ ((¬ ((1 : Int32) < (g (4 : Int32).toNatClampNeg))) ∧ ((((2 : Int32) < (g (4 : Int32).toNatClampNeg)) ∧ (((g (2 : Int32).toNatClampNeg) = p1) ∨ (((3 : Int32) < (g (4 : Int32).toNatClampNeg)) ∧ ((g (3 : Int32).toNatClampNeg) = p1)))) ∨ ((¬ ((2 : Int32) < (g (4 : Int32).toNatClampNeg))) ∧ (((3 : Int32) < (g (4 : Int32).toNatClampNeg)) ∧ ((g (3 : Int32).toNatClampNeg) = p1)))))))) ∨ ((¬ ((0 : Int32) < (g (4 : Int32).toNatClampNeg))) ∧ ((((1 : Int32) < (g (4 : Int32).toNatClampNeg)) ∧ (((g (1 : Int32).toNatClampNeg) = p1) ∨ ((((2 : Int32) < (g (4 : Int32).toNatClampNeg)) ∧ (((g (2 : Int32).toNatClampNeg) = p1) ∨ (((3 : Int32) < (g (4 : Int32).toNatClampNeg)) ∧ ((g (3 : Int32).toNatClampNeg) = p1)))) ∨ ((¬ ((2 : Int32) < (g (4 : Int32).toNatClampNeg))) ∧ (((3 : Int32) < (g (4 : Int32).toNatClampNeg)) ∧ ((g (3 : Int32).toNatClampNeg) = p1)))))) ∨ ((¬ ((1 : Int32) < (g (4 : Int32).toNatClampNeg))) ∧ ((((2 : Int32) < (g (4 : Int32).toNatClampNeg)) ∧ (((g (2 : Int32).toNatClampNeg) = p1) ∨ (((3 : Int32) < (g (4 : Int32).toNatClampNeg)) ∧ ((g (3 : Int32).toNatClampNeg) = p1)))) ∨ ((¬ ((2 : Int32) < (g (4 : Int32).toNatClampNeg))) ∧ (((3 : Int32) < (g (4 : Int32).toNatClampNeg)) ∧ ((g (3 : Int32).toNatClampNeg) = p1))))))))))] [])) st1 ?_
      refine go (u' := T1.setTop (mkF m 66 #[.val (.ref o0), .val (.int p1), .val (.int (g (4 : Int32).toNatClampNeg)), .val (.int (B ((((0 : Int32) < (g (4 : Int32).toNatClampNeg)) ∧ (((g (0 : Int32).toNatClampNeg) = p1) ∨ ((((1 : Int32) < (g (4 : Int32).toNatClampNeg)) ∧ (((g (1 : Int32).toNatClampNeg) = p1) ∨ ((((2 : Int32) < (g (4 : Int32).toNatClampNeg)) ∧ (((g (2 : Int32).toNatClampNeg) = p1) ∨ (((3 : Int32) < (g (4 : Int32).toNatClampNeg)) ∧ ((g (3 : Int32).toNatClampNeg) = p1)))) ∨ ((¬ ((2 : Int32) < (g (4 : Int32).toNatClampNeg))) ∧ (((3 : Int32) < (g (4 : Int32).toNatClampNeg)) ∧ ((g (3 : Int32).toNatClampNeg) = p1)))))) ∨ ((¬ ((1 : Int32) < (g (4 : Int32).toNatClampNeg))) ∧ ((((2 : Int32) < (g (4 : Int32).toNatClampNeg)) ∧ (((g (2 : Int32).toNatClampNeg) = p1) ∨ (((3 : Int32) < (g (4 : Int32).toNatClampNeg)) ∧ ((g (3 : Int32).toNatClampNeg) = p1)))) ∨ ((¬ ((2 : Int32) < (g (4 : Int32).toNatClampNeg))) ∧ (((3 : Int32) < (g (4 : Int32).toNatClampNeg)) ∧ ((g (3 : Int32).toNatClampNeg) = p1)))))))) ∨ ((¬ ((0 : Int32) < (g (4 : Int32).toNatClampNeg))) ∧ ((((1 : Int32) < (g (4 : Int32).toNatClampNeg)) ∧ (((g (1 : Int32).toNatClampNeg) = p1) ∨ ((((2 : Int32) < (g (4 : Int32).toNatClampNeg)) ∧ (((g (2 : Int32).toNatClampNeg) = p1) ∨ (((3 : Int32) < (g (4 : Int32).toNatClampNeg)) ∧ ((g (3 : Int32).toNatClampNeg) = p1)))) ∨ ((¬ ((2 : Int32) < (g (4 : Int32).toNatClampNeg))) ∧ (((3 : Int32) < (g (4 : Int32).toNatClampNeg)) ∧ ((g (3 : Int32).toNatClampNeg) = p1)))))) ∨ ((¬ ((1 : Int32) < (g (4 : Int32).toNatClampNeg))) ∧ ((((2 : Int32) < (g (4 : Int32).toNatClampNeg)) ∧ (((g (2 : Int32).toNatClampNeg) = p1) ∨ (((3 : Int32) < (g (4 : Int32).toNatClampNeg)) ∧ ((g (3 : Int32).toNatClampNeg) = p1)))) ∨ ((¬ ((2 : Int32) < (g (4 : Int32).toNatClampNeg))) ∧ (((3 : Int32) < (g (4 : Int32).toNatClampNeg)) ∧ ((g (3 : Int32).toNatClampNeg) = p1))))))))))] [(.ref o0)])) (fun _ ks_ => XS.aloadN X1.here hx rfl (hb hby d4_65) rfl rfl ks_) ?_
      refine go (u' := T1.setTop (mkF m 67 #[.val (.ref o0), .val (.int p1), .val (.int (g (4 : Int32).toNatClampNeg)), .val (.int (B ((((0 : Int32) < (g (4 : Int32).toNatClampNeg)) ∧ (((g (0 : Int32).toNatClampNeg) = p1) ∨ ((((1 : Int32) < (g (4 : Int32).toNatClampNeg)) ∧ (((g (1 : Int32).toNatClampNeg) = p1) ∨ ((((2 : Int32) < (g (4 : Int32).toNatClampNeg)) ∧ (((g (2 : Int32).toNatClampNeg) = p1) ∨ (((3 : Int32) < (g (4 : Int32).toNatClampNeg)) ∧ ((g (3 : Int32).toNatClampNeg) = p1)))) ∨ ((¬ ((2 : Int32) < (g (4 : Int32).toNatClampNeg))) ∧ (((3 : Int32) < (g (4 : Int32).toNatClampNeg)) ∧ ((g (3 : Int32).toNatClampNeg) = p1)))))) ∨ ((¬ ((1 : Int32) < (g (4 : Int32).toNatClampNeg))) ∧ ((((2 : Int32) < (g (4 : Int32).toNatClampNeg)) ∧ (((g (2 : Int32).toNatClampNeg) = p1) ∨ (((3 : Int32) < (g (4 : Int32).toNatClampNeg)) ∧ ((g (3 : Int32).toNatClampNeg) = p1)))) ∨ ((¬ ((2 : Int32) < (g (4 : Int32).toNatClampNeg))) ∧ (((3 : Int32) < (g (4 : Int32).toNatClampNeg)) ∧ ((g (3 : Int32).toNatClampNeg) = p1)))))))) ∨ ((¬ ((0 : Int32) < (g (4 : Int32).toNatClampNeg))) ∧ ((((1 : Int32) < (g (4 : Int32).toNatClampNeg)) ∧ (((g (1 : Int32).toNatClampNeg) = p1) ∨ ((((2 : Int32) < (g (4 : Int32).toNatClampNeg)) ∧ (((g (2 : Int32).toNatClampNeg) = p1) ∨ (((3 : Int32) < (g (4 : Int32).toNatClampNeg)) ∧ ((g (3 : Int32).toNatClampNeg) = p1)))) ∨ ((¬ ((2 : Int32) < (g (4 : Int32).toNatClampNeg))) ∧ (((3 : Int32) < (g (4 : Int32).toNatClampNeg)) ∧ ((g (3 : Int32).toNatClampNeg) = p1)))))) ∨ ((¬ ((1 : Int32) < (g (4 : Int32).toNatClampNeg))) ∧ ((((2 : Int32) < (g (4 : Int32).toNatClampNeg)) ∧ (((g (2 : Int32).toNatClampNeg) = p1) ∨ (((3 : Int32) < (g (4 : Int32).toNatClampNeg)) ∧ ((g (3 : Int32).toNatClampNeg) = p1)))) ∨ ((¬ ((2 : Int32) < (g (4 : Int32).toNatClampNeg))) ∧ (((3 : Int32) < (g (4 : Int32).toNatClampNeg)) ∧ ((g (3 : Int32).toNatClampNeg) = p1))))))))))] [(.int (4 : Int32)), (.ref o0)])) (fun _ ks_ => XS.iconst X1.here hx rfl (hb hby d4_66) ks_) ?_
      refine go (u' := T1.setTop (mkF m 68 #[.val (.ref o0), .val (.int p1), .val (.int (g (4 : Int32).toNatClampNeg)), .val (.int (B ((((0 : Int32) < (g (4 : Int32).toNatClampNeg)) ∧ (((g (0 : Int32).toNatClampNeg) = p1) ∨ ((((1 : Int32) < (g (4 : Int32).toNatClampNeg)) ∧ (((g (1 : Int32).toNatClampNeg) = p1) ∨ ((((2 : Int32) < (g (4 : Int32).toNatClampNeg)) ∧ (((g (2 : Int32).toNatClampNeg) = p1) ∨ (((3 : Int32) < (g (4 : Int32).toNatClampNeg)) ∧ ((g (3 : Int32).toNatClampNeg) = p1)))) ∨ ((¬ ((2 : Int32) < (g (4 : Int32).toNatClampNeg))) ∧ (((3 : Int32) < (g (4 : Int32).toNatClampNeg)) ∧ ((g (3 : Int32).toNatClampNeg) = p1)))))) ∨ ((¬ ((1 : Int32) < (g (4 : Int32).toNatClampNeg))) ∧ ((((2 : Int32) < (g (4 : Int32).toNatClampNeg)) ∧ (((g (2 : Int32).toNatClampNeg) = p1) ∨ (((3 : Int32) < (g (4 : Int32).toNatClampNeg)) ∧ ((g (3 : Int32).toNatClampNeg) = p1)))) ∨ ((¬ ((2 : Int32) < (g (4 : Int32).toNatClampNeg))) ∧ (((3 : Int32) < (g (4 : Int32).toNatClampNeg)) ∧ ((g (3 : Int32).toNatClampNeg) = p1)))))))) ∨ ((¬ ((0 : Int32) < (g (4 : Int32).toNatClampNeg))) ∧ ((((1 : Int32) < (g (4 : Int32).toNatClampNeg)) ∧ (((g (1 : Int32).toNatClampNeg) = p1) ∨ ((((2 : Int32) < (g (4 : Int32).toNatClampNeg)) ∧ (((g (2 : Int32).toNatClampNeg) = p1) ∨ (((3 : Int32) < (g (4 : Int32).toNatClampNeg)) ∧ ((g (3 : Int32).toNatClampNeg) = p1)))) ∨ ((¬ ((2 : Int32) < (g (4 : Int32).toNatClampNeg))) ∧ (((3 : Int32) < (g (4 : Int32).toNatClampNeg)) ∧ ((g (3 : Int32).toNatClampNeg) = p1)))))) ∨ ((¬ ((1 : Int32) < (g (4 : Int32).toNatClampNeg))) ∧ ((((2 : Int32) < (g (4 : Int32).toNatClampNeg)) ∧ (((g (2 : Int32).toNatClampNeg) = p1) ∨ (((3 : Int32) < (g (4 : Int32).toNatClampNeg)) ∧ ((g (3 : Int32).toNatClampNeg) = p1)))) ∨ ((¬ ((2 : Int32) < (g (4 : Int32).toNatClampNeg))) ∧ (((3 : Int32) < (g (4 : Int32).toNatClampNeg)) ∧ ((g (3 : Int32).toNatClampNeg) = p1))))))))))] [(.int (g (4 : Int32).toNatClampNeg)), (.int (4 : Int32)), (.ref o0)])) (fun _ ks_ => XS.iloadN X1.here hx rfl (hb hby d4_67) rfl  ks_) ?_
      refine go (u' := T1.setTop (mkF m 69 #[.val (.ref o0), .val (.int p1), .val (.int (g (4 : Int32).toNatClampNeg)), .val (.int (B ((((0 : Int32) < (g (4 : Int32).toNatClampNeg)) ∧ (((g (0 : Int32).toNatClampNeg) = p1) ∨ ((((1 : Int32) < (g (4 : Int32).toNatClampNeg)) ∧ (((g (1 : Int32).toNatClampNeg) = p1) ∨ ((((2 : Int32) < (g (4 : Int32).toNatClampNeg)) ∧ (((g (2 : Int32).toNatClampNeg) = p1) ∨ (((3 : Int32) < (g (4 : Int32).toNatClampNeg)) ∧ ((g (3 : Int32).toNatClampNeg) = p1)))) ∨ ((¬ ((2 : Int32) < (g (4 : Int32).toNatClampNeg))) ∧ (((3 : Int32) < (g (4 : Int32).toNatClampNeg)) ∧ ((g (3 : Int32).toNatClampNeg) = p1)))))) ∨ ((¬ ((1 : Int32) < (g (4 : Int32).toNatClampNeg))) ∧ ((((2 : Int32) < (g (4 : Int32).toNatClampNeg)) ∧ (((g (2 : Int32).toNatClampNeg) = p1) ∨ (((3 : Int32) < (g (4 : Int32).toNatClampNeg)) ∧ ((g (3 : Int32).toNatClampNeg) = p1)))) ∨ ((¬ ((2 : Int32) < (g (4 : Int32).toNatClampNeg))) ∧ (((3 : Int32) < (g (4 : Int32).toNatClampNeg)) ∧ ((g (3 : Int32).toNatClampNeg) = p1)))))))) ∨ ((¬ ((0 : Int32) < (g (4 : Int32).toNatClampNeg))) ∧ ((((1 : Int32) < (g (4 : Int32).toNatClampNeg)) ∧ (((g (1 : Int32).toNatClampNeg) = p1) ∨ ((((2 : Int32) < (g (4 : Int32).toNatClampNeg)) ∧ (((g (2 : Int32).toNatClampNeg) = p1) ∨ (((3 : Int32) < (g (4 : Int32).toNatClampNeg)) ∧ ((g (3 : Int32).toNatClampNeg) = p1)))) ∨ ((¬ ((2 : Int32) < (g (4 : Int32).toNatClampNeg))) ∧ (((3 : Int32) < (g (4 : Int32).toNatClampNeg)) ∧ ((g (3 : Int32).toNatClampNeg) = p1)))))) ∨ ((¬ ((1 : Int32) < (g (4 : Int32).toNatClampNeg))) ∧ ((((2 : Int32) < (g (4 : Int32).toNatClampNeg)) ∧ (((g (2 : Int32).toNatClampNeg) = p1) ∨ (((3 : Int32) < (g (4 : Int32).toNatClampNeg)) ∧ ((g (3 : Int32).toNatClampNeg) = p1)))) ∨ ((¬ ((2 : Int32) < (g (4 : Int32).toNatClampNeg))) ∧ (((3 : Int32) < (g (4 : Int32).toNatClampNeg)) ∧ ((g (3 : Int32).toNatClampNeg) = p1))))))))))] [(.int (1 : Int32)), (.int (g (4 : Int32).toNatClampNeg)), (.int (4 : Int32)), (.ref o0)])) (fun _ ks_ => XS.iconst X1.here hx rfl (hb hby d4_68) ks_) ?_
      refine go (u' := T1.setTop (mkF m 70 #[.val (.ref o0), .val (.int p1), .val (.int (g (4 : Int32).toNatClampNeg)), .val (.int (B ((((0 : Int32) < (g (4 : Int32).toNatClampNeg)) ∧ (((g (0 : Int32).toNatClampNeg) = p1) ∨ ((((1 : Int32) < (g (4 : Int32).toNatClampNeg)) ∧ (((g (1 : Int32).toNatClampNeg) = p1) ∨ ((((2 : Int32) < (g (4 : Int32).toNatClampNeg)) ∧ (((g (2 : Int32).toNatClampNeg) = p1) ∨ (((3 : Int32) < (g (4 : Int32).toNatClampNeg)) ∧ ((g (3 : Int32).toNatClampNeg) = p1)))) ∨ ((¬ ((2 : Int32) < (g (4 : Int32).toNatClampNeg))) ∧ (((3 : Int32) < (g (4 : Int32).toNatClampNeg)) ∧ ((g (3 : Int32).toNatClampNeg) = p1)))))) ∨ ((¬ ((1 : Int32) < (g (4 : Int32).toNatClampNeg))) ∧ ((((2 : Int32) < (g (4 : Int32).toNatClampNeg)) ∧ (((g (2 : Int32).toNatClampNeg) = p1) ∨ (((3 : Int32) < (g (4 : Int32).toNatClampNeg)) ∧ ((g (3 : Int32).toNatClampNeg) = p1)))) ∨ ((¬ ((2 : Int32) < (g (4 : Int32).toNatClampNeg))) ∧ (((3 : Int32) < (g (4 : Int32).toNatClampNeg)) ∧ ((g (3 : Int32).toNatClampNeg) = p1)))))))) ∨ ((¬ ((0 : Int32) < (g (4 : Int32).toNatClampNeg))) ∧ ((((1 : Int32) < (g (4 : Int32).toNatClampNeg)) ∧ (((g (1 : Int32).toNatClampNeg) = p1) ∨ ((((2 : Int32) < (g (4 : Int32).toNatClampNeg)) ∧ (((g (2 : Int32).toNatClampNeg) = p1) ∨ (((3 : Int32) < (g (4 : Int32).toNatClampNeg)) ∧ ((g (3 : Int32).toNatClampNeg) = p1)))) ∨ ((¬ ((2 : Int32) < (g (4 : Int32).toNatClampNeg))) ∧ (((3 : Int32) < (g (4 : Int32).toNatClampNeg)) ∧ ((g (3 : Int32).toNatClampNeg) = p1)))))) ∨ ((¬ ((1 : Int32) < (g (4 : Int32).toNatClampNeg))) ∧ ((((2 : Int32) < (g (4 : Int32).toNatClampNeg)) ∧ (((g (2 : Int32).toNatClampNeg) = p1) ∨ (((3 : Int32) < (g (4 : Int32).toNatClampNeg)) ∧ ((g (3 : Int32).toNatClampNeg) = p1)))) ∨ ((¬ ((2 : Int32) < (g (4 : Int32).toNatClampNeg))) ∧ (((3 : Int32) < (g (4 : Int32).toNatClampNeg)) ∧ ((g (3 : Int32).toNatClampNeg) = p1))))))))))] [(.int ((g (4 : Int32).toNatClampNeg) + (1 : Int32))), (.int (4 : Int32)), (.ref o0)])) (fun _ ks_ => XS.iadd X1.here hx rfl (hb hby d4_69) rfl ks_) ?_
      obtain ⟨T3, h3, X3, e3, W3, st3⟩ := own_iastore X1 hx hZ e1 Fa2 (j := (4 : Int32)) (x := ((g (4 : Int32).toNatClampNeg) + (1 : Int32)))  (by decide) (by decide) (f := (mkF m 70 #[.val (.ref o0), .val (.int p1), .val (.int (g (4 : Int32).toNatClampNeg)), .val (.int (B ((((0 : Int32) < (g (4 : Int32).toNatClampNeg)) ∧ (((g (0 : Int32).toNatClampNeg) = p1) ∨ ((((1 : Int32) < (g (4 : Int32).toNatClampNeg)) ∧ (((g (1 : Int32).toNatClampNeg) = p1) ∨ ((((2 : Int32) < (g (4 : Int32).toNatClampNeg)) ∧ (((g (2 : Int32).toNatClampNeg) = p1) ∨ (((3 : Int32) < (g (4 : Int32).toNatClampNeg)) ∧ ((g (3 : Int32).toNatClampNeg) = p1)))) ∨ ((¬ ((2 : Int32) < (g (4 : Int32).toNatClampNeg))) ∧ (((3 : Int32) < (g (4 : Int32).toNatClampNeg)) ∧ ((g (3 : Int32).toNatClampNeg) = p1)))))) ∨ ((¬ ((1 : Int32) < (g (4 : Int32).toNatClampNeg))) ∧ ((((2 : Int32) < (g (4 : Int32).toNatClampNeg)) ∧ (((g (2 : Int32).toNatClampNeg) = p1) ∨ (((3 : Int32) < (g (4 : Int32).toNatClampNeg)) ∧ ((g (3 : Int32).toNatClampNeg) = p1)))) ∨ ((¬ ((2 : Int32) < (g (4 : Int32).toNatClampNeg))) ∧ (((3 : Int32) < (g (4 : Int32).toNatClampNeg)) ∧ ((g (3 : Int32).toNatClampNeg) = p1)))))))) ∨ ((¬ ((0 : Int32) < (g (4 : Int32).toNatClampNeg))) ∧ ((((1 : Int32) < (g (4 : Int32).toNatClampNeg)) ∧ (((g (1 : Int32).toNatClampNeg) = p1) ∨ ((((2 : Int32) < (g (4 : Int32).toNatClampNeg)) ∧ (((g (2 : Int32).toNatClampNeg) = p1) ∨ (((3 : Int32) < (g (4 : Int32).toNatClampNeg)) ∧ ((g (3 : Int32).toNatClampNeg) = p1)))) ∨ ((¬ ((2 : Int32) < (g (4 : Int32).toNatClampNeg))) ∧ (((3 : Int32) < (g (4 : Int32).toNatClampNeg)) ∧ ((g (3 : Int32).toNatClampNeg) = p1)))))) ∨ ((¬ ((1 : Int32) < (g (4 : Int32).toNatClampNeg))) ∧ ((((2 : Int32) < (g (4 : Int32).toNatClampNeg)) ∧ (((g (2 : Int32).toNatClampNeg) = p1) ∨ (((3 : Int32) < (g (4 : Int32).toNatClampNeg)) ∧ ((g (3 : Int32).toNatClampNeg) = p1)))) ∨ ((¬ ((2 : Int32) < (g (4 : Int32).toNatClampNeg))) ∧ (((3 : Int32) < (g (4 : Int32).toNatClampNeg)) ∧ ((g (3 : Int32).toNatClampNeg) = p1))))))))))] [(.int ((g (4 : Int32).toNatClampNeg) + (1 : Int32))), (.int (4 : Int32)), (.ref o0)])) rfl rfl (hb hby d4_70)
      have N3 := Fr.snoc X3 N1 g_o0
      have K3 : Keep h0 h3 [o0] := K1.wr W3 (Or.inl (List.mem_of_getElem? (i := 0) rfl))
      have Z3 : n0 ≤ h3.size := Nat.le_trans Z1 (Keep.of_wr W3).1
      have Fa4 : PI Z h3 o0 .int 5 (upd (upd g ((g (4 : Int32).toNatClampNeg)).toNatClampNeg p1) ((4 : Int32)).toNatClampNeg ((g (4 : Int32).toNatClampNeg) + (1 : Int32))) := Fa2.set (by decide) W3
      refine go (u' := T3.setTop (mkF m 71 #[.val (.ref o0), .val (.int p1), .val (.int (g (4 : Int32).toNatClampNeg)), .val (.int (B ((((0 : Int32) < (g (4 : Int32).toNatClampNeg)) ∧ (((g (0 : Int32).toNatClampNeg) = p1) ∨ ((((1 : Int32) < (g (4 : Int32).toNatClampNeg)) ∧ (((g (1 : Int32).toNatClampNeg) = p1) ∨ ((((2 : Int32) < (g (4 : Int32).toNatClampNeg)) ∧ (((g (2 : Int32).toNatClampNeg) = p1) ∨ (((3 : Int32) < (g (4 : Int32).toNatClampNeg)) ∧ ((g (3 : Int32).toNatClampNeg) = p1)))) ∨ ((¬ ((2 : Int32) < (g (4 : Int32).toNatClampNeg))) ∧ (((3 : Int32) < (g (4 : Int32).toNatClampNeg)) ∧ ((g (3 : Int32).toNatClampNeg) = p1)))))) ∨ ((¬ ((1 : Int32) < (g (4 : Int32).toNatClampNeg))) ∧ ((((2 : Int32) < (g (4 : Int32).toNatClampNeg)) ∧ (((g (2 : Int32).toNatClampNeg) = p1) ∨ (((3 : Int32) < (g (4 : Int32).toNatClampNeg)) ∧ ((g (3 : Int32).toNatClampNeg) = p1)))) ∨ ((¬ ((2 : Int32) < (g (4 : Int32).toNatClampNeg))) ∧ (((3 : Int32) < (g (4 : Int32).toNatClampNeg)) ∧ ((g (3 : Int32).toNatClampNeg) = p1)))))))) ∨ ((¬ ((0 : Int32) < (g (4 : Int32).toNatClampNeg))) ∧ ((((1 : Int32) < (g (4 : Int32).toNatClampNeg)) ∧ (((g (1 : Int32).toNatClampNeg) = p1) ∨ ((((2 : Int32) < (g (4 : Int32).toNatClampNeg)) ∧ (((g (2 : Int32).toNatClampNeg) = p1) ∨ (((3 : Int32) < (g (4 : Int32).toNatClampNeg)) ∧ ((g (3 : Int32).toNatClampNeg) = p1)))) ∨ ((¬ ((2 : Int32) < (g (4 : Int32).toNatClampNeg))) ∧ (((3 : Int32) < (g (4 : Int32).toNatClampNeg)) ∧ ((g (3 : Int32).toNatClampNeg) = p1)))))) ∨ ((¬ ((1 : Int32) < (g (4 : Int32).toNatClampNeg))) ∧ ((((2 : Int32) < (g (4 : Int32).toNatClampNeg)) ∧ (((g (2 : Int32).toNatClampNeg) = p1) ∨ (((3 : Int32) < (g (4 : Int32).toNatClampNeg)) ∧ ((g (3 : Int32).toNatClampNeg) = p1)))) ∨ ((¬ ((2 : Int32) < (g (4 : Int32).toNatClampNeg))) ∧ (((3 : Int32) < (g (4 : Int32).toNatClampNeg)) ∧ ((g (3 : Int32).toNatClampNeg) = p1))))))))))] [])) st3 ?_
      rw [hG]
      refine g0 X3 hx hlk hret (hb hby d4_71) ?_ (Nat.le_of_ble_eq_true rfl) (Nat.le_of_ble_eq_true rfl)
      show Q_rm4 Z o0 p1 g xs h0 n0 (none) T3.heap _
      rw [e3]
      exact ⟨(upd (upd g ((g (4 : Int32).toNatClampNeg)).toNatClampNeg p1) ((4 : Int32)).toNatClampNeg ((g (4 : Int32).toNatClampNeg) + (1 : Int32))), rfl, N3, K3, Fa4, (hM.put hp fun q => c58_1 ((hM.pres2 p1).mpr q))⟩
  by_cases c5_2 : (0 : Int32) < (g (4 : Int32).toNatClampNeg)
  ·
    refine go (u' := s₁.setTop (mkF m 8 #[.val (.ref o0), .val (.int p1), .val (.int (g (4 : Int32).toNatClampNeg)), .unset] [])) (fun _ ks_ => XS.ifNo X0.here hx rfl (hb hby d4_5) rfl ((if0 _ _).trans (tlt c5_2).2.2.2) ks_) ?_
    refine go (u' := s₁.setTop (mkF m 9 #[.val (.ref o0), .val (.int p1), .val (.int (g (4 : Int32).toNatClampNeg)), .unset] [(.ref o0)])) (fun _ ks_ => XS.aloadN X0.here hx rfl (hb hby d4_8) rfl rfl ks_) ?_
    refine go (u' := s₁.setTop (mkF m 10 #[.val (.ref o0), .val (.int p1), .val (.int (g (4 : Int32).toNatClampNeg)), .unset] [(.int (0 : Int32)), (.ref o0)])) (fun _ ks_ => XS.iconst X0.here hx rfl (hb hby d4_9) ks_) ?_
    refine go (u' := s₁.setTop (mkF m 11 #[.val (.ref o0), .val (.int p1), .val (.int (g (4 : Int32).toNatClampNeg)), .unset] [(.int (g (0 : Int32).toNatClampNeg))])) (own_iaload X0 hx hZ e0 F0 (j := (0 : Int32)) (v := (g (0 : Int32).toNatClampNeg)) (by decide) (by decide) rfl (f := (mkF m 10 #[.val (.ref o0), .val (.int p1), .val (.int (g (4 : Int32).toNatClampNeg)), .unset] [(.int (0 : Int32)), (.ref o0)])) rfl rfl (hb hby d4_10)) ?_
    refine go (u' := s₁.setTop (mkF m 12 #[.val (.ref o0), .val (.int p1), .val (.int (g (4 : Int32).toNatClampNeg)), .unset] [(.int p1), (.int (g (0 : Int32).toNatClampNeg))])) (fun _ ks_ => XS.iloadN X0.here hx rfl (hb hby d4_11) rfl  ks_) ?_
    by_cases c12_3 : (g (0 : Int32).toNatClampNeg) = p1
    ·
      refine go (u' := s₁.setTop (mkF m 51 #[.val (.ref o0), .val (.int p1), .val (.int (g (4 : Int32).toNatClampNeg)), .unset] [])) (fun _ ks_ => XS.icmpYes X0.here hx rfl (pc0 := 12) (pc' := 51) rfl (hb hby d4_12) rfl (teq c12_3).1 (by decide) (by decide) ks_) ?_
      refine go (u' := s₁.setTop (mkF m 52 #[.val (.ref o0), .val (.int p1), .val (.int (g (4 : Int32).toNatClampNeg)), .unset] [(.int (1 : Int32))])) (fun _ ks_ => XS.iconst X0.here hx rfl (hb hby d4_51) ks_) ?_
      refine go (u' := s₁.setTop (mkF m 56 #[.val (.ref o0), .val (.int p1), .val (.int (g (4 : Int32).toNatClampNeg)), .unset] [(.int (1 : Int32))])) (fun _ ks_ => XS.goto X0.here hx rfl (pc0 := 52) (pc' := 56) rfl (hb hby d4_52) (by decide) (by decide) ks_) ?_
      exact J56_1 _ (B1 (Or.inl ⟨c5_2, (Or.inl c12_3)⟩))
    ·
      refine go (u' := s₁.setTop (mkF m 15 #[.val (.ref o0), .val (.int p1), .val (.int (g (4 : Int32).toNatClampNeg)), .unset] [])) (fun _ ks_ => XS.icmpNo X0.here hx rfl (hb hby d4_12) rfl (feq c12_3).1 ks_) ?_
      refine go (u' := s₁.setTop (mkF m 16 #[.val (.ref o0), .val (.int p1), .val (.int (g (4 : Int32).toNatClampNeg)), .unset] [(.int (g (4 : Int32).toNatClampNeg))])) (fun _ ks_ => XS.iloadN X0.here hx rfl (hb hby d4_15) rfl  ks_) ?_
      refine go (u' := s₁.setTop (mkF m 17 #[.val (.ref o0), .val (.int p1), .val (.int (g (4 : Int32).toNatClampNeg)), .unset] [(.int (1 : Int32)), (.int (g (4 : Int32).toNatClampNeg))])) (fun _ ks_ => XS.iconst X0.here hx rfl (hb hby d4_16) ks_) ?_
      by_cases c17_4 : (1 : Int32) < (g (4 : Int32).toNatClampNeg)
      ·
        refine go (u' := s₁.setTop (mkF m 20 #[.val (.ref o0), .val (.int p1), .val (.int (g (4 : Int32).toNatClampNeg)), .unset] [])) (fun _ ks_ => XS.icmpNo X0.here hx rfl (hb hby d4_17) rfl (tlt c17_4).2.2.2 ks_) ?_
        refine go (u' := s₁.setTop (mkF m 21 #[.val (.ref o0), .val (.int p1), .val (.int (g (4 : Int32).toNatClampNeg)), .unset] [(.ref o0)])) (fun _ ks_ => XS.aloadN X0.here hx rfl (hb hby d4_20) rfl rfl ks_) ?_
        refine go (u' := s₁.setTop (mkF m 22 #[.val (.ref o0), .val (.int p1), .val (.int (g (4 : Int32).toNatClampNeg)), .unset] [(.int (1 : Int32)), (.ref o0)])) (fun _ ks_ => XS.iconst X0.here hx rfl (hb hby d4_21) ks_) ?_
        refine go (u' := s₁.setTop (mkF m 23 #[.val (.ref o0), .val (.int p1), .val (.int (g (4 : Int32).toNatClampNeg)), .unset] [(.int (g (1 : Int32).toNatClampNeg))])) (own_iaload X0 hx hZ e0 F0 (j := (1 : Int32)) (v := (g (1 : Int32).toNatClampNeg)) (by decide) (by decide) rfl (f := (mkF m 22 #[.val (.ref o0), .val (.int p1), .val (.int (g (4 : Int32).toNatClampNeg)), .unset] [(.int (1 : Int32)), (.ref o0)])) rfl rfl (hb hby d4_22)) ?_
        refine go (u' := s₁.setTop (mkF m 24 #[.val (.ref o0), .val (.int p1), .val (.int (g (4 : Int32).toNatClampNeg)), .unset] [(.int p1), (.int (g (1 : Int32).toNatClampNeg))])) (fun _ ks_ => XS.iloadN X0.here hx rfl (hb hby d4_23) rfl  ks_) ?_
        by_cases c24_5 : (g (1 : Int32).toNatClampNeg) = p1
        ·
          refine go (u' := s₁.setTop (mkF m 51 #[.val (.ref o0), .val (.int p1), .val (.int (g (4 : Int32).toNatClampNeg)), .unset] [])) (fun _ ks_ => XS.icmpYes X0.here hx rfl (pc0 := 24) (pc' := 51) rfl (hb hby d4_24) rfl (teq c24_5).1 (by decide) (by decide) ks_) ?_
          refine go (u' := s₁.setTop (mkF m 52 #[.val (.ref o0), .val (.int p1), .val (.int (g (4 : Int32).toNatClampNeg)), .unset] [(.int (1 : Int32))])) (fun _ ks_ => XS.iconst X0.here hx rfl (hb hby d4_51) ks_) ?_
          refine go (u' := s₁.setTop (mkF m 56 #[.val (.ref o0), .val (.int p1), .val (.int (g (4 : Int32).toNatClampNeg)), .unset] [(.int (1 : Int32))])) (fun _ ks_ => XS.goto X0.here hx rfl (pc0 := 52) (pc' := 56) rfl (hb hby d4_52) (by decide) (by decide) ks_) ?_
          exact J56_1 _ (B1 (Or.inl ⟨c5_2, (Or.inr (Or.inl ⟨c17_4, (Or.inl c24_5)⟩))⟩))
        ·
          refine go (u' := s₁.setTop (mkF m 27 #[.val (.ref o0), .val (.int p1), .val (.int (g (4 : Int32).toNatClampNeg)), .unset] [])) (fun _ ks_ => XS.icmpNo X0.here hx rfl (hb hby d4_24) rfl (feq c24_5).1 ks_) ?_
          refine go (u' := s₁.setTop (mkF m 28 #[.val (.ref o0), .val (.int p1), .val (.int (g (4 : Int32).toNatClampNeg)), .unset] [(.int (g (4 : Int32).toNatClampNeg))])) (fun _ ks_ => XS.iloadN X0.here hx rfl (hb hby d4_27) rfl  ks_) ?_
          refine go (u' := s₁.setTop (mkF m 29 #[.val (.ref o0), .val (.int p1), .val (.int (g (4 : Int32).toNatClampNeg)), .unset] [(.int (2 : Int32)), (.int (g (4 : Int32).toNatClampNeg))])) (fun _ ks_ => XS.iconst X0.here hx rfl (hb hby d4_28) ks_) ?_
          by_cases c29_6 : (2 : Int32) < (g (4 : Int32).toNatClampNeg)
          ·
            refine go (u' := s₁.setTop (mkF m 32 #[.val (.ref o0), .val (.int p1), .val (.int (g (4 : Int32).toNatClampNeg)), .unset] [])) (fun _ ks_ => XS.icmpNo X0.here hx rfl (hb hby d4_29) rfl (tlt c29_6).2.2.2 ks_) ?_
            refine go (u' := s₁.setTop (mkF m 33 #[.val (.ref o0), .val (.int p1), .val (.int (g (4 : Int32).toNatClampNeg)), .unset] [(.ref o0)])) (fun _ ks_ => XS.aloadN X0.here hx rfl (hb hby d4_32) rfl rfl ks_) ?_
            refine go (u' := s₁.setTop (mkF m 34 #[.val (.ref o0), .val (.int p1), .val (.int (g (4 : Int32).toNatClampNeg)), .unset] [(.int (2 : Int32)), (.ref o0)])) (fun _ ks_ => XS.iconst X0.here hx rfl (hb hby d4_33) ks_) ?_
            refine go (u' := s₁.setTop (mkF m 35 #[.val (.ref o0), .val (.int p1), .val (.int (g (4 : Int32).toNatClampNeg)), .unset] [(.int (g (2 : Int32).toNatClampNeg))])) (own_iaload X0 hx hZ e0 F0 (j := (2 : Int32)) (v := (g (2 : Int32).toNatClampNeg)) (by decide) (by decide) rfl (f := (mkF m 34 #[.val (.ref o0), .val (.int p1), .val (.int (g (4 : Int32).toNatClampNeg)), .unset] [(.int (2 : Int32)), (.ref o0)])) rfl rfl (hb hby d4_34)) ?_
            refine go (u' := s₁.setTop (mkF m 36 #[.val (.ref o0), .val (.int p1), .val (.int (g (4 : Int32).toNatClampNeg)), .unset] [(.int p1), (.int (g (2 : Int32).toNatClampNeg))])) (fun _ ks_ => XS.iloadN X0.here hx rfl (hb hby d4_35) rfl  ks_) ?_
            by_cases c36_7 : (g (2 : Int32).toNatClampNeg) = p1
            ·
              refine go (u' := s₁.setTop (mkF m 51 #[.val (.ref o0), .val (.int p1), .val (.int (g (4 : Int32).toNatClampNeg)), .unset] [])) (fun _ ks_ => XS.icmpYes X0.here hx rfl (pc0 := 36) (pc' := 51) rfl (hb hby d4_36) rfl (teq c36_7).1 (by decide) (by decide) ks_) ?_
              refine go (u' := s₁.setTop (mkF m 52 #[.val (.ref o0), .val (.int p1), .val (.int (g (4 : Int32).toNatClampNeg)), .unset] [(.int (1 : Int32))])) (fun _ ks_ => XS.iconst X0.here hx rfl (hb hby d4_51) ks_) ?_
              refine go (u' := s₁.setTop (mkF m 56 #[.val (.ref o0), .val (.int p1), .val (.int (g (4 : Int32).toNatClampNeg)), .unset] [(.int (1 : Int32))])) (fun _ ks_ => XS.goto X0.here hx rfl (pc0 := 52) (pc' := 56) rfl (hb hby d4_52) (by decide) (by decide) ks_) ?_
              exact J56_1 _ (B1 (Or.inl ⟨c5_2, (Or.inr (Or.inl ⟨c17_4, (Or.inr (Or.inl ⟨c29_6, (Or.inl c36_7)⟩))⟩))⟩))
            ·
              refine go (u' := s₁.setTop (mkF m 39 #[.val (.ref o0), .val (.int p1), .val (.int (g (4 : Int32).toNatClampNeg)), .unset] [])) (fun _ ks_ => XS.icmpNo X0.here hx rfl (hb hby d4_36) rfl (feq c36_7).1 ks_) ?_
              refine go (u' := s₁.setTop (mkF m 40 #[.val (.ref o0), .val (.int p1), .val (.int (g (4 : Int32).toNatClampNeg)), .unset] [(.int (g (4 : Int32).toNatClampNeg))])) (fun _ ks_ => XS.iloadN X0.here hx rfl (hb hby d4_39) rfl  ks_) ?_
              refine go (u' := s₁.setTop (mkF m 41 #[.val (.ref o0), .val (.int p1), .val (.int (g (4 : Int32).toNatClampNeg)), .unset] [(.int (3 : Int32)), (.int (g (4 : Int32).toNatClampNeg))])) (fun _ ks_ => XS.iconst X0.here hx rfl (hb hby d4_40) ks_) ?_
              by_cases c41_8 : (3 : Int32) < (g (4 : Int32).toNatClampNeg)
              ·
                refine go (u' := s₁.setTop (mkF m 44 #[.val (.ref o0), .val (.int p1), .val (.int (g (4 : Int32).toNatClampNeg)), .unset] [])) (fun _ ks_ => XS.icmpNo X0.here hx rfl (hb hby d4_41) rfl (tlt c41_8).2.2.2 ks_) ?_
                refine go (u' := s₁.setTop (mkF m 45 #[.val (.ref o0), .val (.int p1), .val (.int (g (4 : Int32).toNatClampNeg)), .unset] [(.ref o0)])) (fun _ ks_ => XS.aloadN X0.here hx rfl (hb hby d4_44) rfl rfl ks_) ?_
                refine go (u' := s₁.setTop (mkF m 46 #[.val (.ref o0), .val (.int p1), .val (.int (g (4 : Int32).toNatClampNeg)), .unset] [(.int (3 : Int32)), (.ref o0)])) (fun _ ks_ => XS.iconst X0.here hx rfl (hb hby d4_45) ks_) ?_
                refine go (u' := s₁.setTop (mkF m 47 #[.val (.ref o0), .val (.int p1), .val (.int (g (4 : Int32).toNatClampNeg)), .unset] [(.int (g (3 : Int32).toNatClampNeg))])) (own_iaload X0 hx hZ e0 F0 (j := (3 : Int32)) (v := (g (3 : Int32).toNatClampNeg)) (by decide) (by decide) rfl (f := (mkF m 46 #[.val (.ref o0), .val (.int p1), .val (.int (g (4 : Int32).toNatClampNeg)), .unset] [(.int (3 : Int32)), (.ref o0)])) rfl rfl (hb hby d4_46)) ?_
                refine go (u' := s₁.setTop (mkF m 48 #[.val (.ref o0), .val (.int p1), .val (.int (g (4 : Int32).toNatClampNeg)), .unset] [(.int p1), (.int (g (3 : Int32).toNatClampNeg))])) (fun _ ks_ => XS.iloadN X0.here hx rfl (hb hby d4_47) rfl  ks_) ?_
                by_cases c48_9 : (g (3 : Int32).toNatClampNeg) = p1
                ·
                  refine go (u' := s₁.setTop (mkF m 51 #[.val (.ref o0), .val (.int p1), .val (.int (g (4 : Int32).toNatClampNeg)), .unset] [])) (fun _ ks_ => XS.icmpNo X0.here hx rfl (hb hby d4_48) rfl (teq c48_9).2 ks_) ?_
                  refine go (u' := s₁.setTop (mkF m 52 #[.val (.ref o0), .val (.int p1), .val (.int (g (4 : Int32).toNatClampNeg)), .unset] [(.int (1 : Int32))])) (fun _ ks_ => XS.iconst X0.here hx rfl (hb hby d4_51) ks_) ?_
                  refine go (u' := s₁.setTop (mkF m 56 #[.val (.ref o0), .val (.int p1), .val (.int (g (4 : Int32).toNatClampNeg)), .unset] [(.int (1 : Int32))])) (fun _ ks_ => XS.goto X0.here hx rfl (pc0 := 52) (pc' := 56) rfl (hb hby d4_52) (by decide) (by decide) ks_) ?_
                  exact J56_1 _ (B1 (Or.inl ⟨c5_2, (Or.inr (Or.inl ⟨c17_4, (Or.inr (Or.inl ⟨c29_6, (Or.inr ⟨c41_8, c48_9⟩)⟩))⟩))⟩))
                ·
                  refine go (u' := s₁.setTop (mkF m 55 #[.val (.ref o0), .val (.int p1), .val (.int (g (4 : Int32).toNatClampNeg)), .unset] [])) (fun _ ks_ => XS.icmpYes X0.here hx rfl (pc0 := 48) (pc' := 55) rfl (hb hby d4_48) rfl (feq c48_9).2 (by decide) (by decide) ks_) ?_
                  refine go (u' := s₁.setTop (mkF m 56 #[.val (.ref o0), .val (.int p1), .val (.int (g (4 : Int32).toNatClampNeg)), .unset] [(.int (0 : Int32))])) (fun _ ks_ => XS.iconst X0.here hx rfl (hb hby d4_55) ks_) ?_
                  exact J56_1 _ (B0 (fun q => q.elim (fun q => (fun q => q.elim c12_3 (fun q => q.elim (fun q => (fun q => q.elim c24_5 (fun q => q.elim (fun q => (fun q => q.elim c36_7 (fun q => c48_9 q.2)) q.2) (fun q => (fun q => q c29_6) q.1))) q.2) (fun q => (fun q => q c17_4) q.1))) q.2) (fun q => (fun q => q c5_2) q.1)))
              ·
                refine go (u' := s₁.setTop (mkF m 55 #[.val (.ref o0), .val (.int p1), .val (.int (g (4 : Int32).toNatClampNeg)), .unset] [])) (fun _ ks_ => XS.icmpYes X0.here hx rfl (pc0 := 41) (pc' := 55) rfl (hb hby d4_41) rfl (flt c41_8).2.2.2 (by decide) (by decide) ks_) ?_
                refine go (u' := s₁.setTop (mkF m 56 #[.val (.ref o0), .val (.int p1), .val (.int (g (4 : Int32).toNatClampNeg)), .unset] [(.int (0 : Int32))])) (fun _ ks_ => XS.iconst X0.here hx rfl (hb hby d4_55) ks_) ?_
                exact J56_1 _ (B0 (fun q => q.elim (fun q => (fun q => q.elim c12_3 (fun q => q.elim (fun q => (fun q => q.elim c24_5 (fun q => q.elim (fun q => (fun q => q.elim c36_7 (fun q => c41_8 q.1)) q.2) (fun q => (fun q => q c29_6) q.1))) q.2) (fun q => (fun q => q c17_4) q.1))) q.2) (fun q => (fun q => q c5_2) q.1)))
          ·
            refine go (u' := s₁.setTop (mkF m 39 #[.val (.ref o0), .val (.int p1), .val (.int (g (4 : Int32).toNatClampNeg)), .unset] [])) (fun _ ks_ => XS.icmpYes X0.here hx rfl (pc0 := 29) (pc' := 39) rfl (hb hby d4_29) rfl (flt c29_6).2.2.2 (by decide) (by decide) ks_) ?_
            refine go (u' := s₁.setTop (mkF m 40 #[.val (.ref o0), .val (.int p1), .val (.int (g (4 : Int32).toNatClampNeg)), .unset] [(.int (g (4 : Int32).toNatClampNeg))])) (fun _ ks_ => XS.iloadN X0.here hx rfl (hb hby d4_39) rfl  ks_) ?_
            refine go (u' := s₁.setTop (mkF m 41 #[.val (.ref o0), .val (.int p1), .val (.int (g (4 : Int32).toNatClampNeg)), .unset] [(.int (3 : Int32)), (.int (g (4 : Int32).toNatClampNeg))])) (fun _ ks_ => XS.iconst X0.here hx rfl (hb hby d4_40) ks_) ?_
            by_cases c41_10 : (3 : Int32) < (g (4 : Int32).toNatClampNeg)
            ·
              refine go (u' := s₁.setTop (mkF m 44 #[.val (.ref o0), .val (.int p1), .val (.int (g (4 : Int32).toNatClampNeg)), .unset] [])) (fun _ ks_ => XS.icmpNo X0.here hx rfl (hb hby d4_41) rfl (tlt c41_10).2.2.2 ks_) ?_
              refine go (u' := s₁.setTop (mkF m 45 #[.val (.ref o0), .val (.int p1), .val (.int (g (4 : Int32).toNatClampNeg)), .unset] [(.ref o0)])) (fun _ ks_ => XS.aloadN X0.here hx rfl (hb hby d4_44) rfl rfl ks_) ?_
              refine go (u' := s₁.setTop (mkF m 46 #[.val (.ref o0), .val (.int p1), .val (.int (g (4 : Int32).toNatClampNeg)), .unset] [(.int (3 : Int32)), (.ref o0)])) (fun _ ks_ => XS.iconst X0.here hx rfl (hb hby d4_45) ks_) ?_
              refine go (u' := s₁.setTop (mkF m 47 #[.val (.ref o0), .val (.int p1), .val (.int (g (4 : Int32).toNatClampNeg)), .unset] [(.int (g (3 : Int32).toNatClampNeg))])) (own_iaload X0 hx hZ e0 F0 (j := (3 : Int32)) (v := (g (3 : Int32).toNatClampNeg)) (by decide) (by decide) rfl (f := (mkF m 46 #[.val (.ref o0), .val (.int p1), .val (.int (g (4 : Int32).toNatClampNeg)), .unset] [(.int (3 : Int32)), (.ref o0)])) rfl rfl (hb hby d4_46)) ?_
              refine go (u' := s₁.setTop (mkF m 48 #[.val (.ref o0), .val (.int p1), .val (.int (g (4 : Int32).toNatClampNeg)), .unset] [(.int p1), (.int (g (3 : Int32).toNatClampNeg))])) (fun _ ks_ => XS.iloadN X0.here hx rfl (hb hby d4_47) rfl  ks_) ?_
              by_cases c48_11 : (g (3 : Int32).toNatClampNeg) = p1
              ·
                refine go (u' := s₁.setTop (mkF m 51 #[.val (.ref o0), .val (.int p1), .val (.int (g (4 : Int32).toNatClampNeg)), .unset] [])) (fun _ ks_ => XS.icmpNo X0.here hx rfl (hb hby d4_48) rfl (teq c48_11).2 ks_) ?_
                refine go (u' := s₁.setTop (mkF m 52 #[.val (.ref o0), .val (.int p1), .val (.int (g (4 : Int32).toNatClampNeg)), .unset] [(.int (1 : Int32))])) (fun _ ks_ => XS.iconst X0.here hx rfl (hb hby d4_51) ks_) ?_
                refine go (u' := s₁.setTop (mkF m 56 #[.val (.ref o0), .val (.int p1), .val (.int (g (4 : Int32).toNatClampNeg)), .unset] [(.int (1 : Int32))])) (fun _ ks_ => XS.goto X0.here hx rfl (pc0 := 52) (pc' := 56) rfl (hb hby d4_52) (by decide) (by decide) ks_) ?_
                exact J56_1 _ (B1 (Or.inl ⟨c5_2, (Or.inr (Or.inl ⟨c17_4, (Or.inr (Or.inr ⟨c29_6, ⟨c41_10, c48_11⟩⟩))⟩))⟩))
              ·
                refine go (u' := s₁.setTop (mkF m 55 #[.val (.ref o0), .val (.int p1), .val (.int (g (4 : Int32).toNatClampNeg)), .unset] [])) (fun _ ks_ => XS.icmpYes X0.here hx rfl (pc0 := 48) (pc' := 55) rfl (hb hby d4_48) rfl (feq c48_11).2 (by decide) (by decide) ks_) ?_
                refine go (u' := s₁.setTop (mkF m 56 #[.val (.ref o0), .val (.int p1), .val (.int (g (4 : Int32).toNatClampNeg)), .unset] [(.int (0 : Int32))])) (fun _ ks_ => XS.iconst X0.here hx rfl (hb hby d4_55) ks_) ?_
                exact J56_1 _ (B0 (fun q => q.elim (fun q => (fun q => q.elim c12_3 (fun q => q.elim (fun q => (fun q => q.elim c24_5 (fun q => q.elim (fun q => c29_6 q.1) (fun q => (fun q => c48_11 q.2) q.2))) q.2) (fun q => (fun q => q c17_4) q.1))) q.2) (fun q => (fun q => q c5_2) q.1)))
            ·
              refine go (u' := s₁.setTop (mkF m 55 #[.val (.ref o0), .val (.int p1), .val (.int (g (4 : Int32).toNatClampNeg)), .unset] [])) (fun _ ks_ => XS.icmpYes X0.here hx rfl (pc0 := 41) (pc' := 55) rfl (hb hby d4_41) rfl (flt c41_10).2.2.2 (by decide) (by decide) ks_) ?_
              refine go (u' := s₁.setTop (mkF m 56 #[.val (.ref o0), .val (.int p1), .val (.int (g (4 : Int32).toNatClampNeg)), .unset] [(.int (0 : Int32))])) (fun _ ks_ => XS.iconst X0.here hx rfl (hb hby d4_55) ks_) ?_
              exact J56_1 _ (B0 (fun q => q.elim (fun q => (fun q => q.elim c12_3 (fun q => q.elim (fun q => (fun q => q.elim c24_5 (fun q => q.elim (fun q => c29_6 q.1) (fun q => (fun q => c41_10 q.1) q.2))) q.2) (fun q => (fun q => q c17_4) q.1))) q.2) (fun q => (fun q => q c5_2) q.1)))
      ·
        refine go (u' := s₁.setTop (mkF m 27 #[.val (.ref o0), .val (.int p1), .val (.int (g (4 : Int32).toNatClampNeg)), .unset] [])) (fun _ ks_ => XS.icmpYes X0.here hx rfl (pc0 := 17) (pc' := 27) rfl (hb hby d4_17) rfl (flt c17_4).2.2.2 (by decide) (by decide) ks_) ?_
        refine go (u' := s₁.setTop (mkF m 28 #[.val (.ref o0), .val (.int p1), .val (.int (g (4 : Int32).toNatClampNeg)), .unset] [(.int (g (4 : Int32).toNatClampNeg))])) (fun _ ks_ => XS.iloadN X0.here hx rfl (hb hby d4_27) rfl  ks_) ?_
        refine go (u' := s₁.setTop (mkF m 29 #[.val (.ref o0), .val (.int p1), .val (.int (g (4 : Int32).toNatClampNeg)), .unset] [(.int (2 : Int32)), (.int (g (4 : Int32).toNatClampNeg))])) (fun _ ks_ => XS.iconst X0.here hx rfl (hb hby d4_28) ks_) ?_
        by_cases c29_12 : (2 : Int32) < (g (4 : Int32).toNatClampNeg)
        ·
          refine go (u' := s₁.setTop (mkF m 32 #[.val (.ref o0), .val (.int p1), .val (.int (g (4 : Int32).toNatClampNeg)), .unset] [])) (fun _ ks_ => XS.icmpNo X0.here hx rfl (hb hby d4_29) rfl (tlt c29_12).2.2.2 ks_) ?_
          refine go (u' := s₁.setTop (mkF m 33 #[.val (.ref o0), .val (.int p1), .val (.int (g (4 : Int32).toNatClampNeg)), .unset] [(.ref o0)])) (fun _ ks_ => XS.aloadN X0.here hx rfl (hb hby d4_32) rfl rfl ks_) ?_
          refine go (u' := s₁.setTop (mkF m 34 #[.val (.ref o0), .val (.int p1), .val (.int (g (4 : Int32).toNatClampNeg)), .unset] [(.int (2 : Int32)), (.ref o0)])) (fun _ ks_ => XS.iconst X0.here hx rfl (hb hby d4_33) ks_) ?_
          refine go (u' := s₁.setTop (mkF m 35 #[.val (.ref o0), .val (.int p1), .val (.int (g (4 : Int32).toNatClampNeg)), .unset] [(.int (g (2 : Int32).toNatClampNeg))])) (own_iaload X0 hx hZ e0 F0 (j := (2 : Int32)) (v := (g (2 : Int32).toNatClampNeg)) (by decide) (by decide) rfl (f := (mkF m 34 #[.val (.ref o0), .val (.int p1), .val (.int (g (4 : Int32).toNatClampNeg)), .unset] [(.int (2 : Int32)), (.ref o0)])) rfl rfl (hb hby d4_34)) ?_
          refine go (u' := s₁.setTop (mkF m 36 #[.val (.ref o0), .val (.int p1), .val (.int (g (4 : Int32).toNatClampNeg)), .unset] [(.int p1), (.int (g (2 : Int32).toNatClampNeg))])) (fun _ ks_ => XS.iloadN X0.here hx rfl (hb hby d4_35) rfl  ks_) ?_
          by_cases c36_13 : (g (2 : Int32).toNatClampNeg) = p1
          ·
            refine go (u' := s₁.setTop (mkF m 51 #[.val (.ref o0), .val (.int p1), .val (.int (g (4 : Int32).toNatClampNeg)), .unset] [])) (fun _ ks_ => XS.icmpYes X0.here hx rfl (pc0 := 36) (pc' := 51) rfl (hb hby d4_36) rfl (teq c36_13).1 (by decide) (by decide) ks_) ?_
            refine go (u' := s₁.setTop (mkF m 52 #[.val (.ref o0), .val (.int p1), .val (.int (g (4 : Int32).toNatClampNeg)), .unset] [(.int (1 : Int32))])) (fun _ ks_ => XS.iconst X0.here hx rfl (hb hby d4_51) ks_) ?_
            refine go (u' := s₁.setTop (mkF m 56 #[.val (.ref o0), .val (.int p1), .val (.int (g (4 : Int32).toNatClampNeg)), .unset] [(.int (1 : Int32))])) (fun _ ks_ => XS.goto X0.here hx rfl (pc0 := 52) (pc' := 56) rfl (hb hby d4_52) (by decide) (by decide) ks_) ?_
            exact J56_1 _ (B1 (Or.inl ⟨c5_2, (Or.inr (Or.inr ⟨c17_4, (Or.inl ⟨c29_12, (Or.inl c36_13)⟩)⟩))⟩))
          ·
            refine go (u' := s₁.setTop (mkF m 39 #[.val (.ref o0), .val (.int p1), .val (.int (g (4 : Int32).toNatClampNeg)), .unset] [])) (fun _ ks_ => XS.icmpNo X0.here hx rfl (hb hby d4_36) rfl (feq c36_13).1 ks_) ?_
            refine go (u' := s₁.setTop (mkF m 40 #[.val (.ref o0), .val (.int p1), .val (.int (g (4 : Int32).toNatClampNeg)), .unset] [(.int (g (4 : Int32).toNatClampNeg))])) (fun _ ks_ => XS.iloadN X0.here hx rfl (hb hby d4_39) rfl  ks_) ?_
            refine go (u' := s₁.setTop (mkF m 41 #[.val (.ref o0), .val (.int p1), .val (.int (g (4 : Int32).toNatClampNeg)), .unset] [(.int (3 : Int32)), (.int (g (4 : Int32).toNatClampNeg))])) (fun _ ks_ => XS.iconst X0.here hx rfl (hb hby d4_40) ks_) ?_
            by_cases c41_14 : (3 : Int32) < (g (4 : Int32).toNatClampNeg)
            ·
              refine go (u' := s₁.setTop (mkF m 44 #[.val (.ref o0), .val (.int p1), .val (.int (g (4 : Int32).toNatClampNeg)), .unset] [])) (fun _ ks_ => XS.icmpNo X0.here hx rfl (hb hby d4_41) rfl (tlt c41_14).2.2.2 ks_) ?_
              refine go (u' := s₁.setTop (mkF m 45 #[.val (.ref o0), .val (.int p1), .val (.int (g (4 : Int32).toNatClampNeg)), .unset] [(.ref o0)])) (fun _ ks_ => XS.aloadN X0.here hx rfl (hb hby d4_44) rfl rfl ks_) ?_
              refine go (u' := s₁.setTop (mkF m 46 #[.val (.ref o0), .val (.int p1), .val (.int (g (4 : Int32).toNatClampNeg)), .unset] [(.int (3 : Int32)), (.ref o0)])) (fun _ ks_ => XS.iconst X0.here hx rfl (hb hby d4_45) ks_) ?_
              refine go (u' := s₁.setTop (mkF m 47 #[.val (.ref o0), .val (.int p1), .val (.int (g (4 : Int32).toNatClampNeg)), .unset] [(.int (g (3 : Int32).toNatClampNeg))])) (own_iaload X0 hx hZ e0 F0 (j := (3 : Int32)) (v := (g (3 : Int32).toNatClampNeg)) (by decide) (by decide) rfl (f := (mkF m 46 #[.val (.ref o0), .val (.int p1), .val (.int (g (4 : Int32).toNatClampNeg)), .unset] [(.int (3 : Int32)), (.ref o0)])) rfl rfl (hb hby d4_46)) ?_
              refine go (u' := s₁.setTop (mkF m 48 #[.val (.ref o0), .val (.int p1), .val (.int (g (4 : Int32).toNatClampNeg)), .unset] [(.int p1), (.int (g (3 : Int32).toNatClampNeg))])) (fun _ ks_ => XS.iloadN X0.here hx rfl (hb hby d4_47) rfl  ks_) ?_
              by_cases c48_15 : (g (3 : Int32).toNatClampNeg) = p1
              ·
                refine go (u' := s₁.setTop (mkF m 51 #[.val (.ref o0), .val (.int p1), .val (.int (g (4 : Int32).toNatClampNeg)), .unset] [])) (fun _ ks_ => XS.icmpNo X0.here hx rfl (hb hby d4_48) rfl (teq c48_15).2 ks_) ?_
                refine go (u' := s₁.setTop (mkF m 52 #[.val (.ref o0), .val (.int p1), .val (.int (g (4 : Int32).toNatClampNeg)), .unset] [(.int (1 : Int32))])) (fun _ ks_ => XS.iconst X0.here hx rfl (hb hby d4_51) ks_) ?_
                refine go (u' := s₁.setTop (mkF m 56 #[.val (.ref o0), .val (.int p1), .val (.int (g (4 : Int32).toNatClampNeg)), .unset] [(.int (1 : Int32))])) (fun _ ks_ => XS.goto X0.here hx rfl (pc0 := 52) (pc' := 56) rfl (hb hby d4_52) (by decide) (by decide) ks_) ?_
                exact J56_1 _ (B1 (Or.inl ⟨c5_2, (Or.inr (Or.inr ⟨c17_4, (Or.inl ⟨c29_12, (Or.inr ⟨c41_14, c48_15⟩)⟩)⟩))⟩))
              ·
                refine go (u' := s₁.setTop (mkF m 55 #[.val (.ref o0), .val (.int p1), .val (.int (g (4 : Int32).toNatClampNeg)), .unset] [])) (fun _ ks_ => XS.icmpYes X0.here hx rfl (pc0 := 48) (pc' := 55) rfl (hb hby d4_48) rfl (feq c48_15).2 (by decide) (by decide) ks_) ?_
                refine go (u' := s₁.setTop (mkF m 56 #[.val (.ref o0), .val (.int p1), .val (.int (g (4 : Int32).toNatClampNeg)), .unset] [(.int (0 : Int32))])) (fun _ ks_ => XS.iconst X0.here hx rfl (hb hby d4_55) ks_) ?_
                exact J56_1 _ (B0 (fun q => q.elim (fun q => (fun q => q.elim c12_3 (fun q => q.elim (fun q => c17_4 q.1) (fun q => (fun q => q.elim (fun q => (fun q => q.elim c36_13 (fun q => c48_15 q.2)) q.2) (fun q => (fun q => q c29_12) q.1)) q.2))) q.2) (fun q => (fun q => q c5_2) q.1)))
            ·
              refine go (u' := s₁.setTop (mkF m 55 #[.val (.ref o0), .val (.int p1), .val (.int (g (4 : Int32).toNatClampNeg)), .unset] [])) (fun _ ks_ => XS.icmpYes X0.here hx rfl (pc0 := 41) (pc' := 55) rfl (hb hby d4_41) rfl (flt c41_14).2.2.2 (by decide) (by decide) ks_) ?_
              refine go (u' := s₁.setTop (mkF m 56 #[.val (.ref o0), .val (.int p1), .val (.int (g (4 : Int32).toNatClampNeg)), .unset] [(.int (0 : Int32))])) (fun _ ks_ => XS.iconst X0.here hx rfl (hb hby d4_55) ks_) ?_
              exact J56_1 _ (B0 (fun q => q.elim (fun q => (fun q => q.elim c12_3 (fun q => q.elim (fun q => c17_4 q.1) (fun q => (fun q => q.elim (fun q => (fun q => q.elim c36_13 (fun q => c41_14 q.1)) q.2) (fun q => (fun q => q c29_12) q.1)) q.2))) q.2) (fun q => (fun q => q c5_2) q.1)))
        ·
          refine go (u' := s₁.setTop (mkF m 39 #[.val (.ref o0), .val (.int p1), .val (.int (g (4 : Int32).toNatClampNeg)), .unset] [])) (fun _ ks_ => XS.icmpYes X0.here hx rfl (pc0 := 29) (pc' := 39) rfl (hb hby d4_29) rfl (flt c29_12).2.2.2 (by decide) (by decide) ks_) ?_
          refine go (u' := s₁.setTop (mkF m 40 #[.val (.ref o0), .val (.int p1), .val (.int (g (4 : Int32).toNatClampNeg)), .unset] [(.int (g (4 : Int32).toNatClampNeg))])) (fun _ ks_ => XS.iloadN X0.here hx rfl (hb hby d4_39) rfl  ks_) ?_
          refine go (u' := s₁.setTop (mkF m 41 #[.val (.ref o0), .val (.int p1), .val (.int (g (4 : Int32).toNatClampNeg)), .unset] [(.int (3 : Int32)), (.int (g (4 : Int32).toNatClampNeg))])) (fun _ ks_ => XS.iconst X0.here hx rfl (hb hby d4_40) ks_) ?_
          by_cases c41_16 : (3 : Int32) < (g (4 : Int32).toNatClampNeg)
          ·
            refine go (u' := s₁.setTop (mkF m 44 #[.val (.ref o0), .val (.int p1), .val (.int (g (4 : Int32).toNatClampNeg)), .unset] [])) (fun _ ks_ => XS.icmpNo X0.here hx rfl (hb hby d4_41) rfl (tlt c41_16).2.2.2 ks_) ?_
            refine go (u' := s₁.setTop (mkF m 45 #[.val (.ref o0), .val (.int p1), .val (.int (g (4 : Int32).toNatClampNeg)), .unset] [(.ref o0)])) (fun _ ks_ => XS.aloadN X0.here hx rfl (hb hby d4_44) rfl rfl ks_) ?_
            refine go (u' := s₁.setTop (mkF m 46 #[.val (.ref o0), .val (.int p1), .val (.int (g (4 : Int32).toNatClampNeg)), .unset] [(.int (3 : Int32)), (.ref o0)])) (fun _ ks_ => XS.iconst X0.here hx rfl (hb hby d4_45) ks_) ?_
            refine go (u' := s₁.setTop (mkF m 47 #[.val (.ref o0), .val (.int p1), .val (.int (g (4 : Int32).toNatClampNeg)), .unset] [(.int (g (3 : Int32).toNatClampNeg))])) (own_iaload X0 hx hZ e0 F0 (j := (3 : Int32)) (v := (g (3 : Int32).toNatClampNeg)) (by decide) (by decide) rfl (f := (mkF m 46 #[.val (.ref o0), .val (.int p1), .val (.int (g (4 : Int32).toNatClampNeg)), .unset] [(.int (3 : Int32)), (.ref o0)])) rfl rfl (hb hby d4_46)) ?_
            refine go (u' := s₁.setTop (mkF m 48 #[.val (.ref o0), .val (.int p1), .val (.int (g (4 : Int32).toNatClampNeg)), .unset] [(.int p1), (.int (g (3 : Int32).toNatClampNeg))])) (fun _ ks_ => XS.iloadN X0.here hx rfl (hb hby d4_47) rfl  ks_) ?_
            by_cases c48_17 : (g (3 : Int32).toNatClampNeg) = p1
            ·
              refine go (u' := s₁.setTop (mkF m 51 #[.val (.ref o0), .val (.int p1), .val (.int (g (4 : Int32).toNatClampNeg)), .unset] [])) (fun _ ks_ => XS.icmpNo X0.here hx rfl (hb hby d4_48) rfl (teq c48_17).2 ks_) ?_
              refine go (u' := s₁.setTop (mkF m 52 #[.val (.ref o0), .val (.int p1), .val (.int (g (4 : Int32).toNatClampNeg)), .unset] [(.int (1 : Int32))])) (fun _ ks_ => XS.iconst X0.here hx rfl (hb hby d4_51) ks_) ?_
              refine go (u' := s₁.setTop (mkF m 56 #[.val (.ref o0), .val (.int p1), .val (.int (g (4 : Int32).toNatClampNeg)), .unset] [(.int (1 : Int32))])) (fun _ ks_ => XS.goto X0.here hx rfl (pc0 := 52) (pc' := 56) rfl (hb hby d4_52) (by decide) (by decide) ks_) ?_
              exact J56_1 _ (B1 (Or.inl ⟨c5_2, (Or.inr (Or.inr ⟨c17_4, (Or.inr ⟨c29_12, ⟨c41_16, c48_17⟩⟩)⟩))⟩))
            ·
              refine go (u' := s₁.setTop (mkF m 55 #[.val (.ref o0), .val (.int p1), .val (.int (g (4 : Int32).toNatClampNeg)), .unset] [])) (fun _ ks_ => XS.icmpYes X0.here hx rfl (pc0 := 48) (pc' := 55) rfl (hb hby d4_48) rfl (feq c48_17).2 (by decide) (by decide) ks_) ?_
              refine go (u' := s₁.setTop (mkF m 56 #[.val (.ref o0), .val (.int p1), .val (.int (g (4 : Int32).toNatClampNeg)), .unset] [(.int (0 : Int32))])) (fun _ ks_ => XS.iconst X0.here hx rfl (hb hby d4_55) ks_) ?_
              exact J56_1 _ (B0 (fun q => q.elim (fun q => (fun q => q.elim c12_3 (fun q => q.elim (fun q => c17_4 q.1) (fun q => (fun q => q.elim (fun q => c29_12 q.1) (fun q => (fun q => c48_17 q.2) q.2)) q.2))) q.2) (fun q => (fun q => q c5_2) q.1)))
          ·
            refine go (u' := s₁.setTop (mkF m 55 #[.val (.ref o0), .val (.int p1), .val (.int (g (4 : Int32).toNatClampNeg)), .unset] [])) (fun _ ks_ => XS.icmpYes X0.here hx rfl (pc0 := 41) (pc' := 55) rfl (hb hby d4_41) rfl (flt c41_16).2.2.2 (by decide) (by decide) ks_) ?_
            refine go (u' := s₁.setTop (mkF m 56 #[.val (.ref o0), .val (.int p1), .val (.int (g (4 : Int32).toNatClampNeg)), .unset] [(.int (0 : Int32))])) (fun _ ks_ => XS.iconst X0.here hx rfl (hb hby d4_55) ks_) ?_
            exact J56_1 _ (B0 (fun q => q.elim (fun q => (fun q => q.elim c12_3 (fun q => q.elim (fun q => c17_4 q.1) (fun q => (fun q => q.elim (fun q => c29_12 q.1) (fun q => (fun q => c41_16 q.1) q.2)) q.2))) q.2) (fun q => (fun q => q c5_2) q.1)))
  ·
    refine go (u' := s₁.setTop (mkF m 15 #[.val (.ref o0), .val (.int p1), .val (.int (g (4 : Int32).toNatClampNeg)), .unset] [])) (fun _ ks_ => XS.ifYes X0.here hx rfl (pc0 := 5) (pc' := 15) rfl (hb hby d4_5) rfl ((if0 _ _).trans (flt c5_2).2.2.2) (by decide) (by decide) ks_) ?_
    refine go (u' := s₁.setTop (mkF m 16 #[.val (.ref o0), .val (.int p1), .val (.int (g (4 : Int32).toNatClampNeg)), .unset] [(.int (g (4 : Int32).toNatClampNeg))])) (fun _ ks_ => XS.iloadN X0.here hx rfl (hb hby d4_15) rfl  ks_) ?_
    refine go (u' := s₁.setTop (mkF m 17 #[.val (.ref o0), .val (.int p1), .val (.int (g (4 : Int32).toNatClampNeg)), .unset] [(.int (1 : Int32)), (.int (g (4 : Int32).toNatClampNeg))])) (fun _ ks_ => XS.iconst X0.here hx rfl (hb hby d4_16) ks_) ?_
    by_cases c17_18 : (1 : Int32) < (g (4 : Int32).toNatClampNeg)
    ·
      refine go (u' := s₁.setTop (mkF m 20 #[.val (.ref o0), .val (.int p1), .val (.int (g (4 : Int32).toNatClampNeg)), .unset] [])) (fun _ ks_ => XS.icmpNo X0.here hx rfl (hb hby d4_17) rfl (tlt c17_18).2.2.2 ks_) ?_
      refine go (u' := s₁.setTop (mkF m 21 #[.val (.ref o0), .val (.int p1), .val (.int (g (4 : Int32).toNatClampNeg)), .unset] [(.ref o0)])) (fun _ ks_ => XS.aloadN X0.here hx rfl (hb hby d4_20) rfl rfl ks_) ?_
      refine go (u' := s₁.setTop (mkF m 22 #[.val (.ref o0), .val (.int p1), .val (.int (g (4 : Int32).toNatClampNeg)), .unset] [(.int (1 : Int32)), (.ref o0)])) (fun _ ks_ => XS.iconst X0.here hx rfl (hb hby d4_21) ks_) ?_
      refine go (u' := s₁.setTop (mkF m 23 #[.val (.ref o0), .val (.int p1), .val (.int (g (4 : Int32).toNatClampNeg)), .unset] [(.int (g (1 : Int32).toNatClampNeg))])) (own_iaload X0 hx hZ e0 F0 (j := (1 : Int32)) (v := (g (1 : Int32).toNatClampNeg)) (by decide) (by decide) rfl (f := (mkF m 22 #[.val (.ref o0), .val (.int p1), .val (.int (g (4 : Int32).toNatClampNeg)), .unset] [(.int (1 : Int32)), (.ref o0)])) rfl rfl (hb hby d4_22)) ?_
      refine go (u' := s₁.setTop (mkF m 24 #[.val (.ref o0), .val (.int p1), .val (.int (g (4 : Int32).toNatClampNeg)), .unset] [(.int p1), (.int (g (1 : Int32).toNatClampNeg))])) (fun _ ks_ => XS.iloadN X0.here hx rfl (hb hby d4_23) rfl  ks_) ?_
      by_cases c24_19 : (g (1 : Int32).toNatClampNeg) = p1
      ·
        refine go (u' := s₁.setTop (mkF m 51 #[.val (.ref o0), .val (.int p1), .val (.int (g (4 : Int32).toNatClampNeg)), .unset] [])) (fun _ ks_ => XS.icmpYes X0.here hx rfl (pc0 := 24) (pc' := 51) rfl (hb hby d4_24) rfl (teq c24_19).1 (by decide) (by decide) ks_) ?_
        refine go (u' := s₁.setTop (mkF m 52 #[.val (.ref o0), .val (.int p1), .val (.int (g (4 : Int32).toNatClampNeg)), .unset] [(.int (1 : Int32))])) (fun _ ks_ => XS.iconst X0.here hx rfl (hb hby d4_51) ks_) ?_
        refine go (u' := s₁.setTop (mkF m 56 #[.val (.ref o0), .val (.int p1), .val (.int (g (4 : Int32).toNatClampNeg)), .unset] [(.int (1 : Int32))])) (fun _ ks_ => XS.goto X0.here hx rfl (pc0 := 52) (pc' := 56) rfl (hb hby d4_52) (by decide) (by decide) ks_) ?_
        exact J56_1 _ (B1 (Or.inr ⟨c5_2, (Or.inl ⟨c17_18, (Or.inl c24_19)⟩)⟩))
      ·
        refine go (u' := s₁.setTop (mkF m 27 #[.val (.ref o0), .val (.int p1), .val (.int (g (4 : Int32).toNatClampNeg)), .unset] [])) (fun _ ks_ => XS.icmpNo X0.here hx rfl (hb hby d4_24) rfl (feq c24_19).1 ks_) ?_
        refine go (u' := s₁.setTop (mkF m 28 #[.val (.ref o0), .val (.int p1), .val (.int (g (4 : Int32).toNatClampNeg)), .unset] [(.int (g (4 : Int32).toNatClampNeg))])) (fun _ ks_ => XS.iloadN X0.here hx rfl (hb hby d4_27) rfl  ks_) ?_
        refine go (u' := s₁.setTop (mkF m 29 #[.val (.ref o0), .val (.int p1), .val (.int (g (4 : Int32).toNatClampNeg)), .unset] [(.int (2 : Int32)), (.int (g (4 : Int32).toNatClampNeg))])) (fun _ ks_ => XS.iconst X0.here hx rfl (hb hby d4_28) ks_) ?_
        by_cases c29_20 : (2 : Int32) < (g (4 : Int32).toNatClampNeg)
        ·
          refine go (u' := s₁.setTop (mkF m 32 #[.val (.ref o0), .val (.int p1), .val (.int (g (4 : Int32).toNatClampNeg)), .unset] [])) (fun _ ks_ => XS.icmpNo X0.here hx rfl (hb hby d4_29) rfl (tlt c29_20).2.2.2 ks_) ?_
          refine go (u' := s₁.setTop (mkF m 33 #[.val (.ref o0), .val (.int p1), .val (.int (g (4 : Int32).toNatClampNeg)), .unset] [(.ref o0)])) (fun _ ks_ => XS.aloadN X0.here hx rfl (hb hby d4_32) rfl rfl ks_) ?_
          refine go (u' := s₁.setTop (mkF m 34 #[.val (.ref o0), .val (.int p1), .val (.int (g (4 : Int32).toNatClampNeg)), .unset] [(.int (2 : Int32)), (.ref o0)])) (fun _ ks_ => XS.iconst X0.here hx rfl (hb hby d4_33) ks_) ?_
          refine go (u' := s₁.setTop (mkF m 35 #[.val (.ref o0), .val (.int p1), .val (.int (g (4 : Int32).toNatClampNeg)), .unset] [(.int (g (2 : Int32).toNatClampNeg))])) (own_iaload X0 hx hZ e0 F0 (j := (2 : Int32)) (v := (g (2 : Int32).toNatClampNeg)) (by decide) (by decide) rfl (f := (mkF m 34 #[.val (.ref o0), .val (.int p1), .val (.int (g (4 : Int32).toNatClampNeg)), .unset] [(.int (2 : Int32)), (.ref o0)])) rfl rfl (hb hby d4_34)) ?_
          refine go (u' := s₁.setTop (mkF m 36 #[.val (.ref o0), .val (.int p1), .val (.int (g (4 : Int32).toNatClampNeg)), .unset] [(.int p1), (.int (g (2 : Int32).toNatClampNeg))])) (fun _ ks_ => XS.iloadN X0.here hx rfl (hb hby d4_35) rfl  ks_) ?_
          by_cases c36_21 : (g (2 : Int32).toNatClampNeg) = p1
          ·
            refine go (u' := s₁.setTop (mkF m 51 #[.val (.ref o0), .val (.int p1), .val (.int (g (4 : Int32).toNatClampNeg)), .unset] [])) (fun _ ks_ => XS.icmpYes X0.here hx rfl (pc0 := 36) (pc' := 51) rfl (hb hby d4_36) rfl (teq c36_21).1 (by decide) (by decide) ks_) ?_
            refine go (u' := s₁.setTop (mkF m 52 #[.val (.ref o0), .val (.int p1), .val (.int (g (4 : Int32).toNatClampNeg)), .unset] [(.int (1 : Int32))])) (fun _ ks_ => XS.iconst X0.here hx rfl (hb hby d4_51) ks_) ?_
            refine go (u' := s₁.setTop (mkF m 56 #[.val (.ref o0), .val (.int p1), .val (.int (g (4 : Int32).toNatClampNeg)), .unset] [(.int (1 : Int32))])) (fun _ ks_ => XS.goto X0.here hx rfl (pc0 := 52) (pc' := 56) rfl (hb hby d4_52) (by decide) (by decide) ks_) ?_
            exact J56_1 _ (B1 (Or.inr ⟨c5_2, (Or.inl ⟨c17_18, (Or.inr (Or.inl ⟨c29_20, (Or.inl c36_21)⟩))⟩)⟩))
          ·
            refine go (u' := s₁.setTop (mkF m 39 #[.val (.ref o0), .val (.int p1), .val (.int (g (4 : Int32).toNatClampNeg)), .unset] [])) (fun _ ks_ => XS.icmpNo X0.here hx rfl (hb hby d4_36) rfl (feq c36_21).1 ks_) ?_
            refine go (u' := s₁.setTop (mkF m 40 #[.val (.ref o0), .val (.int p1), .val (.int (g (4 : Int32).toNatClampNeg)), .unset] [(.int (g (4 : Int32).toNatClampNeg))])) (fun _ ks_ => XS.iloadN X0.here hx rfl (hb hby d4_39) rfl  ks_) ?_
            refine go (u' := s₁.setTop (mkF m 41 #[.val (.ref o0), .val (.int p1), .val (.int (g (4 : Int32).toNatClampNeg)), .unset] [(.int (3 : Int32)), (.int (g (4 : Int32).toNatClampNeg))])) (fun _ ks_ => XS.iconst X0.here hx rfl (hb hby d4_40) ks_) ?_
            by_cases c41_22 : (3 : Int32) < (g (4 : Int32).toNatClampNeg)
            ·
              refine go (u' := s₁.setTop (mkF m 44 #[.val (.ref o0), .val (.int p1), .val (.int (g (4 : Int32).toNatClampNeg)), .unset] [])) (fun _ ks_ => XS.icmpNo X0.here hx rfl (hb hby d4_41) rfl (tlt c41_22).2.2.2 ks_) ?_
              refine go (u' := s₁.setTop (mkF m 45 #[.val (.ref o0), .val (.int p1), .val (.int (g (4 : Int32).toNatClampNeg)), .unset] [(.ref o0)])) (fun _ ks_ => XS.aloadN X0.here hx rfl (hb hby d4_44) rfl rfl ks_) ?_
              refine go (u' := s₁.setTop (mkF m 46 #[.val (.ref o0), .val (.int p1), .val (.int (g (4 : Int32).toNatClampNeg)), .unset] [(.int (3 : Int32)), (.ref o0)])) (fun _ ks_ => XS.iconst X0.here hx rfl (hb hby d4_45) ks_) ?_
              refine go (u' := s₁.setTop (mkF m 47 #[.val (.ref o0), .val (.int p1), .val (.int (g (4 : Int32).toNatClampNeg)), .unset] [(.int (g (3 : Int32).toNatClampNeg))])) (own_iaload X0 hx hZ e0 F0 (j := (3 : Int32)) (v := (g (3 : Int32).toNatClampNeg)) (by decide) (by decide) rfl (f := (mkF m 46 #[.val (.ref o0), .val (.int p1), .val (.int (g (4 : Int32).toNatClampNeg)), .unset] [(.int (3 : Int32)), (.ref o0)])) rfl rfl (hb hby d4_46)) ?_
              refine go (u' := s₁.setTop (mkF m 48 #[.val (.ref o0), .val (.int p1), .val (.int (g (4 : Int32).toNatClampNeg)), .unset] [(.int p1), (.int (g (3 : Int32).toNatClampNeg))])) (fun _ ks_ => XS.iloadN X0.here hx rfl (hb hby d4_47) rfl  ks_) ?_
              by_cases c48_23 : (g (3 : Int32).toNatClampNeg) = p1
              ·
                refine go (u' := s₁.setTop (mkF m 51 #[.val (.ref o0), .val (.int p1), .val (.int (g (4 : Int32).toNatClampNeg)), .unset] [])) (fun _ ks_ => XS.icmpNo X0.here hx rfl (hb hby d4_48) rfl (teq c48_23).2 ks_) ?_
                refine go (u' := s₁.setTop (mkF m 52 #[.val (.ref o0), .val (.int p1), .val (.int (g (4 : Int32).toNatClampNeg)), .unset] [(.int (1 : Int32))])) (fun _ ks_ => XS.iconst X0.here hx rfl (hb hby d4_51) ks_) ?_
                refine go (u' := s₁.setTop (mkF m 56 #[.val (.ref o0), .val (.int p1), .val (.int (g (4 : Int32).toNatClampNeg)), .unset] [(.int (1 : Int32))])) (fun _ ks_ => XS.goto X0.here hx rfl (pc0 := 52) (pc' := 56) rfl (hb hby d4_52) (by decide) (by decide) ks_) ?_
                exact J56_1 _ (B1 (Or.inr ⟨c5_2, (Or.inl ⟨c17_18, (Or.inr (Or.inl ⟨c29_20, (Or.inr ⟨c41_22, c48_23⟩)⟩))⟩)⟩))
              ·
                refine go (u' := s₁.setTop (mkF m 55 #[.val (.ref o0), .val (.int p1), .val (.int (g (4 : Int32).toNatClampNeg)), .unset] [])) (fun _ ks_ => XS.icmpYes X0.here hx rfl (pc0 := 48) (pc' := 55) rfl (hb hby d4_48) rfl (feq c48_23).2 (by decide) (by decide) ks_) ?_
                refine go (u' := s₁.setTop (mkF m 56 #[.val (.ref o0), .val (.int p1), .val (.int (g (4 : Int32).toNatClampNeg)), .unset] [(.int (0 : Int32))])) (fun _ ks_ => XS.iconst X0.here hx rfl (hb hby d4_55) ks_) ?_
                exact J56_1 _ (B0 (fun q => q.elim (fun q => c5_2 q.1) (fun q => (fun q => q.elim (fun q => (fun q => q.elim c24_19 (fun q => q.elim (fun q => (fun q => q.elim c36_21 (fun q => c48_23 q.2)) q.2) (fun q => (fun q => q c29_20) q.1))) q.2) (fun q => (fun q => q c17_18) q.1)) q.2)))
            ·
              refine go (u' := s₁.setTop (mkF m 55 #[.val (.ref o0), .val (.int p1), .val (.int (g (4 : Int32).toNatClampNeg)), .unset] [])) (fun _ ks_ => XS.icmpYes X0.here hx rfl (pc0 := 41) (pc' := 55) rfl (hb hby d4_41) rfl (flt c41_22).2.2.2 (by decide) (by decide) ks_) ?_
              refine go (u' := s₁.setTop (mkF m 56 #[.val (.ref o0), .val (.int p1), .val (.int (g (4 : Int32).toNatClampNeg)), .unset] [(.int (0 : Int32))])) (fun _ ks_ => XS.iconst X0.here hx rfl (hb hby d4_55) ks_) ?_
              exact J56_1 _ (B0 (fun q => q.elim (fun q => c5_2 q.1) (fun q => (fun q => q.elim (fun q => (fun q => q.elim c24_19 (fun q => q.elim (fun q => (fun q => q.elim c36_21 (fun q => c41_22 q.1)) q.2) (fun q => (fun q => q c29_20) q.1))) q.2) (fun q => (fun q => q c17_18) q.1)) q.2)))
        ·
          refine go (u' := s₁.setTop (mkF m 39 #[.val (.ref o0), .val (.int p1), .val (.int (g (4 : Int32).toNatClampNeg)), .unset] [])) (fun _ ks_ => XS.icmpYes X0.here hx rfl (pc0 := 29) (pc' := 39) rfl (hb hby d4_29) rfl (flt c29_20).2.2.2 (by decide) (by decide) ks_) ?_
          refine go (u' := s₁.setTop (mkF m 40 #[.val (.ref o0), .val (.int p1), .val (.int (g (4 : Int32).toNatClampNeg)), .unset] [(.int (g (4 : Int32).toNatClampNeg))])) (fun _ ks_ => XS.iloadN X0.here hx rfl (hb hby d4_39) rfl  ks_) ?_
          refine go (u' := s₁.setTop (mkF m 41 #[.val (.ref o0), .val (.int p1), .val (.int (g (4 : Int32).toNatClampNeg)), .unset] [(.int (3 : Int32)), (.int (g (4 : Int32).toNatClampNeg))])) (fun _ ks_ => XS.iconst X0.here hx rfl (hb hby d4_40) ks_) ?_
          by_cases c41_24 : (3 : Int32) < (g (4 : Int32).toNatClampNeg)
          ·
            refine go (u' := s₁.setTop (mkF m 44 #[.val (.ref o0), .val (.int p1), .val (.int (g (4 : Int32).toNatClampNeg)), .unset] [])) (fun _ ks_ => XS.icmpNo X0.here hx rfl (hb hby d4_41) rfl (tlt c41_24).2.2.2 ks_) ?_
            refine go (u' := s₁.setTop (mkF m 45 #[.val (.ref o0), .val (.int p1), .val (.int (g (4 : Int32).toNatClampNeg)), .unset] [(.ref o0)])) (fun _ ks_ => XS.aloadN X0.here hx rfl (hb hby d4_44) rfl rfl ks_) ?_
            refine go (u' := s₁.setTop (mkF m 46 #[.val (.ref o0), .val (.int p1), .val (.int (g (4 : Int32).toNatClampNeg)), .unset] [(.int (3 : Int32)), (.ref o0)])) (fun _ ks_ => XS.iconst X0.here hx rfl (hb hby d4_45) ks_) ?_
            refine go (u' := s₁.setTop (mkF m 47 #[.val (.ref o0), .val (.int p1), .val (.int (g (4 : Int32).toNatClampNeg)), .unset] [(.int (g (3 : Int32).toNatClampNeg))])) (own_iaload X0 hx hZ e0 F0 (j := (3 : Int32)) (v := (g (3 : Int32).toNatClampNeg)) (by decide) (by decide) rfl (f := (mkF m 46 #[.val (.ref o0), .val (.int p1), .val (.int (g (4 : Int32).toNatClampNeg)), .unset] [(.int (3 : Int32)), (.ref o0)])) rfl rfl (hb hby d4_46)) ?_
            refine go (u' := s₁.setTop (mkF m 48 #[.val (.ref o0), .val (.int p1), .val (.int (g (4 : Int32).toNatClampNeg)), .unset] [(.int p1), (.int (g (3 : Int32).toNatClampNeg))])) (fun _ ks_ => XS.iloadN X0.here hx rfl (hb hby d4_47) rfl  ks_) ?_
            by_cases c48_25 : (g (3 : Int32).toNatClampNeg) = p1
            ·
              refine go (u' := s₁.setTop (mkF m 51 #[.val (.ref o0), .val (.int p1), .val (.int (g (4 : Int32).toNatClampNeg)), .unset] [])) (fun _ ks_ => XS.icmpNo X0.here hx rfl (hb hby d4_48) rfl (teq c48_25).2 ks_) ?_
              refine go (u' := s₁.setTop (mkF m 52 #[.val (.ref o0), .val (.int p1), .val (.int (g (4 : Int32).toNatClampNeg)), .unset] [(.int (1 : Int32))])) (fun _ ks_ => XS.iconst X0.here hx rfl (hb hby d4_51) ks_) ?_
              refine go (u' := s₁.setTop (mkF m 56 #[.val (.ref o0), .val (.int p1), .val (.int (g (4 : Int32).toNatClampNeg)), .unset] [(.int (1 : Int32))])) (fun _ ks_ => XS.goto X0.here hx rfl (pc0 := 52) (pc' := 56) rfl (hb hby d4_52) (by decide) (by decide) ks_) ?_
              exact J56_1 _ (B1 (Or.inr ⟨c5_2, (Or.inl ⟨c17_18, (Or.inr (Or.inr ⟨c29_20, ⟨c41_24, c48_25⟩⟩))⟩)⟩))
            ·
              refine go (u' := s₁.setTop (mkF m 55 #[.val (.ref o0), .val (.int p1), .val (.int (g (4 : Int32).toNatClampNeg)), .unset] [])) (fun _ ks_ => XS.icmpYes X0.here hx rfl (pc0 := 48) (pc' := 55) rfl (hb hby d4_48) rfl (feq c48_25).2 (by decide) (by decide) ks_) ?_
              refine go (u' := s₁.setTop (mkF m 56 #[.val (.ref o0), .val (.int p1), .val (.int (g (4 : Int32).toNatClampNeg)), .unset] [(.int (0 : Int32))])) (fun _ ks_ => XS.iconst X0.here hx rfl (hb hby d4_55) ks_) ?_
              exact J56_1 _ (B0 (fun q => q.elim (fun q => c5_2 q.1) (fun q => (fun q => q.elim (fun q => (fun q => q.elim c24_19 (fun q => q.elim (fun q => c29_20 q.1) (fun q => (fun q => c48_25 q.2) q.2))) q.2) (fun q => (fun q => q c17_18) q.1)) q.2)))
          ·
            refine go (u' := s₁.setTop (mkF m 55 #[.val (.ref o0), .val (.int p1), .val (.int (g (4 : Int32).toNatClampNeg)), .unset] [])) (fun _ ks_ => XS.icmpYes X0.here hx rfl (pc0 := 41) (pc' := 55) rfl (hb hby d4_41) rfl (flt c41_24).2.2.2 (by decide) (by decide) ks_) ?_
            refine go (u' := s₁.setTop (mkF m 56 #[.val (.ref o0), .val (.int p1), .val (.int (g (4 : Int32).toNatClampNeg)), .unset] [(.int (0 : Int32))])) (fun _ ks_ => XS.iconst X0.here hx rfl (hb hby d4_55) ks_) ?_
            exact J56_1 _ (B0 (fun q => q.elim (fun q => c5_2 q.1) (fun q => (fun q => q.elim (fun q => (fun q => q.elim c24_19 (fun q => q.elim (fun q => c29_20 q.1) (fun q => (fun q => c41_24 q.1) q.2))) q.2) (fun q => (fun q => q c17_18) q.1)) q.2)))
    ·
      refine go (u' := s₁.setTop (mkF m 27 #[.val (.ref o0), .val (.int p1), .val (.int (g (4 : Int32).toNatClampNeg)), .unset] [])) (fun _ ks_ => XS.icmpYes X0.here hx rfl (pc0 := 17) (pc' := 27) rfl (hb hby d4_17) rfl (flt c17_18).2.2.2 (by decide) (by decide) ks_) ?_
      refine go (u' := s₁.setTop (mkF m 28 #[.val (.ref o0), .val (.int p1), .val (.int (g (4 : Int32).toNatClampNeg)), .unset] [(.int (g (4 : Int32).toNatClampNeg))])) (fun _ ks_ => XS.iloadN X0.here hx rfl (hb hby d4_27) rfl  ks_) ?_
      refine go (u' := s₁.setTop (mkF m 29 #[.val (.ref o0), .val (.int p1), .val (.int (g (4 : Int32).toNatClampNeg)), .unset] [(.int (2 : Int32)), (.int (g (4 : Int32).toNatClampNeg))])) (fun _ ks_ => XS.iconst X0.here hx rfl (hb hby d4_28) ks_) ?_
      by_cases c29_26 : (2 : Int32) < (g (4 : Int32).toNatClampNeg)
      ·
        refine go (u' := s₁.setTop (mkF m 32 #[.val (.ref o0), .val (.int p1), .val (.int (g (4 : Int32).toNatClampNeg)), .unset] [])) (fun _ ks_ => XS.icmpNo X0.here hx rfl (hb hby d4_29) rfl (tlt c29_26).2.2.2 ks_) ?_
        refine go (u' := s₁.setTop (mkF m 33 #[.val (.ref o0), .val (.int p1), .val (.int (g (4 : Int32).toNatClampNeg)), .unset] [(.ref o0)])) (fun _ ks_ => XS.aloadN X0.here hx rfl (hb hby d4_32) rfl rfl ks_) ?_
        refine go (u' := s₁.setTop (mkF m 34 #[.val (.ref o0), .val (.int p1), .val (.int (g (4 : Int32).toNatClampNeg)), .unset] [(.int (2 : Int32)), (.ref o0)])) (fun _ ks_ => XS.iconst X0.here hx rfl (hb hby d4_33) ks_) ?_
        refine go (u' := s₁.setTop (mkF m 35 #[.val (.ref o0), .val (.int p1), .val (.int (g (4 : Int32).toNatClampNeg)), .unset] [(.int (g (2 : Int32).toNatClampNeg))])) (own_iaload X0 hx hZ e0 F0 (j := (2 : Int32)) (v := (g (2 : Int32).toNatClampNeg)) (by decide) (by decide) rfl (f := (mkF m 34 #[.val (.ref o0), .val (.int p1), .val (.int (g (4 : Int32).toNatClampNeg)), .unset] [(.int (2 : Int32)), (.ref o0)])) rfl rfl (hb hby d4_34)) ?_
        refine go (u' := s₁.setTop (mkF m 36 #[.val (.ref o0), .val (.int p1), .val (.int (g (4 : Int32).toNatClampNeg)), .unset] [(.int p1), (.int (g (2 : Int32).toNatClampNeg))])) (fun _ ks_ => XS.iloadN X0.here hx rfl (hb hby d4_35) rfl  ks_) ?_
        by_cases c36_27 : (g (2 : Int32).toNatClampNeg) = p1
        ·
          refine go (u' := s₁.setTop (mkF m 51 #[.val (.ref o0), .val (.int p1), .val (.int (g (4 : Int32).toNatClampNeg)), .unset] [])) (fun _ ks_ => XS.icmpYes X0.here hx rfl (pc0 := 36) (pc' := 51) rfl (hb hby d4_36) rfl (teq c36_27).1 (by decide) (by decide) ks_) ?_
          refine go (u' := s₁.setTop (mkF m 52 #[.val (.ref o0), .val (.int p1), .val (.int (g (4 : Int32).toNatClampNeg)), .unset] [(.int (1 : Int32))])) (fun _ ks_ => XS.iconst X0.here hx rfl (hb hby d4_51) ks_) ?_
          refine go (u' := s₁.setTop (mkF m 56 #[.val (.ref o0), .val (.int p1), .val (.int (g (4 : Int32).toNatClampNeg)), .unset] [(.int (1 : Int32))])) (fun _ ks_ => XS.goto X0.here hx rfl (pc0 := 52) (pc' := 56) rfl (hb hby d4_52) (by decide) (by decide) ks_) ?_
          exact J56_1 _ (B1 (Or.inr ⟨c5_2, (Or.inr ⟨c17_18, (Or.inl ⟨c29_26, (Or.inl c36_27)⟩)⟩)⟩))
        ·
          refine go (u' := s₁.setTop (mkF m 39 #[.val (.ref o0), .val (.int p1), .val (.int (g (4 : Int32).toNatClampNeg)), .unset] [])) (fun _ ks_ => XS.icmpNo X0.here hx rfl (hb hby d4_36) rfl (feq c36_27).1 ks_) ?_
          refine go (u' := s₁.setTop (mkF m 40 #[.val (.ref o0), .val (.int p1), .val (.int (g (4 : Int32).toNatClampNeg)), .unset] [(.int (g (4 : Int32).toNatClampNeg))])) (fun _ ks_ => XS.iloadN X0.here hx rfl (hb hby d4_39) rfl  ks_) ?_
          refine go (u' := s₁.setTop (mkF m 41 #[.val (.ref o0), .val (.int p1), .val (.int (g (4 : Int32).toNatClampNeg)), .unset] [(.int (3 : Int32)), (.int (g (4 : Int32).toNatClampNeg))])) (fun _ ks_ => XS.iconst X0.here hx rfl (hb hby d4_40) ks_) ?_
          by_cases c41_28 : (3 : Int32) < (g (4 : Int32).toNatClampNeg)
          ·
            refine go (u' := s₁.setTop (mkF m 44 #[.val (.ref o0), .val (.int p1), .val (.int (g (4 : Int32).toNatClampNeg)), .unset] [])) (fun _ ks_ => XS.icmpNo X0.here hx rfl (hb hby d4_41) rfl (tlt c41_28).2.2.2 ks_) ?_
            refine go (u' := s₁.setTop (mkF m 45 #[.val (.ref o0), .val (.int p1), .val (.int (g (4 : Int32).toNatClampNeg)), .unset] [(.ref o0)])) (fun _ ks_ => XS.aloadN X0.here hx rfl (hb hby d4_44) rfl rfl ks_) ?_
            refine go (u' := s₁.setTop (mkF m 46 #[.val (.ref o0), .val (.int p1), .val (.int (g (4 : Int32).toNatClampNeg)), .unset] [(.int (3 : Int32)), (.ref o0)])) (fun _ ks_ => XS.iconst X0.here hx rfl (hb hby d4_45) ks_) ?_
            refine go (u' := s₁.setTop (mkF m 47 #[.val (.ref o0), .val (.int p1), .val (.int (g (4 : Int32).toNatClampNeg)), .unset] [(.int (g (3 : Int32).toNatClampNeg))])) (own_iaload X0 hx hZ e0 F0 (j := (3 : Int32)) (v := (g (3 : Int32).toNatClampNeg)) (by decide) (by decide) rfl (f := (mkF m 46 #[.val (.ref o0), .val (.int p1), .val (.int (g (4 : Int32).toNatClampNeg)), .unset] [(.int (3 : Int32)), (.ref o0)])) rfl rfl (hb hby d4_46)) ?_
            refine go (u' := s₁.setTop (mkF m 48 #[.val (.ref o0), .val (.int p1), .val (.int (g (4 : Int32).toNatClampNeg)), .unset] [(.int p1), (.int (g (3 : Int32).toNatClampNeg))])) (fun _ ks_ => XS.iloadN X0.here hx rfl (hb hby d4_47) rfl  ks_) ?_
            by_cases c48_29 : (g (3 : Int32).toNatClampNeg) = p1
            ·
              refine go (u' := s₁.setTop (mkF m 51 #[.val (.ref o0), .val (.int p1), .val (.int (g (4 : Int32).toNatClampNeg)), .unset] [])) (fun _ ks_ => XS.icmpNo X0.here hx rfl (hb hby d4_48) rfl (teq c48_29).2 ks_) ?_
              refine go (u' := s₁.setTop (mkF m 52 #[.val (.ref o0), .val (.int p1), .val (.int (g (4 : Int32).toNatClampNeg)), .unset] [(.int (1 : Int32))])) (fun _ ks_ => XS.iconst X0.here hx rfl (hb hby d4_51) ks_) ?_
              refine go (u' := s₁.setTop (mkF m 56 #[.val (.ref o0), .val (.int p1), .val (.int (g (4 : Int32).toNatClampNeg)), .unset] [(.int (1 : Int32))])) (fun _ ks_ => XS.goto X0.here hx rfl (pc0 := 52) (pc' := 56) rfl (hb hby d4_52) (by decide) (by decide) ks_) ?_
              exact J56_1 _ (B1 (Or.inr ⟨c5_2, (Or.inr ⟨c17_18, (Or.inl ⟨c29_26, (Or.inr ⟨c41_28, c48_29⟩)⟩)⟩)⟩))
            ·
              refine go (u' := s₁.setTop (mkF m 55 #[.val (.ref o0), .val (.int p1), .val (.int (g (4 : Int32).toNatClampNeg)), .unset] [])) (fun _ ks_ => XS.icmpYes X0.here hx rfl (pc0 := 48) (pc' := 55) rfl (hb hby d4_48) rfl (feq c48_29).2 (by decide) (by decide) ks_) ?_
              refine go (u' := s₁.setTop (mkF m 56 #[.val (.ref o0), .val (.int p1), .val (.int (g (4 : Int32).toNatClampNeg)), .unset] [(.int (0 : Int32))])) (fun _ ks_ => XS.iconst X0.here hx rfl (hb hby d4_55) ks_) ?_
              exact J56_1 _ (B0 (fun q => q.elim (fun q => c5_2 q.1) (fun q => (fun q => q.elim (fun q => c17_18 q.1) (fun q => (fun q => q.elim (fun q => (fun q => q.elim c36_27 (fun q => c48_29 q.2)) q.2) (fun q => (fun q => q c29_26) q.1)) q.2)) q.2)))
          ·
            refine go (u' := s₁.setTop (mkF m 55 #[.val (.ref o0), .val (.int p1), .val (.int (g (4 : Int32).toNatClampNeg)), .unset] [])) (fun _ ks_ => XS.icmpYes X0.here hx rfl (pc0 := 41) (pc' := 55) rfl (hb hby d4_41) rfl (flt c41_28).2.2.2 (by decide) (by decide) ks_) ?_
            refine go (u' := s₁.setTop (mkF m 56 #[.val (.ref o0), .val (.int p1), .val (.int (g (4 : Int32).toNatClampNeg)), .unset] [(.int (0 : Int32))])) (fun _ ks_ => XS.iconst X0.here hx rfl (hb hby d4_55) ks_) ?_
            exact J56_1 _ (B0 (fun q => q.elim (fun q => c5_2 q.1) (fun q => (fun q => q.elim (fun q => c17_18 q.1) (fun q => (fun q => q.elim (fun q => (fun q => q.elim c36_27 (fun q => c41_28 q.1)) q.2) (fun q => (fun q => q c29_26) q.1)) q.2)) q.2)))
      ·
        refine go (u' := s₁.setTop (mkF m 39 #[.val (.ref o0), .val (.int p1), .val (.int (g (4 : Int32).toNatClampNeg)), .unset] [])) (fun _ ks_ => XS.icmpYes X0.here hx rfl (pc0 := 29) (pc' := 39) rfl (hb hby d4_29) rfl (flt c29_26).2.2.2 (by decide) (by decide) ks_) ?_
        refine go (u' := s₁.setTop (mkF m 40 #[.val (.ref o0), .val (.int p1), .val (.int (g (4 : Int32).toNatClampNeg)), .unset] [(.int (g (4 : Int32).toNatClampNeg))])) (fun _ ks_ => XS.iloadN X0.here hx rfl (hb hby d4_39) rfl  ks_) ?_
        refine go (u' := s₁.setTop (mkF m 41 #[.val (.ref o0), .val (.int p1), .val (.int (g (4 : Int32).toNatClampNeg)), .unset] [(.int (3 : Int32)), (.int (g (4 : Int32).toNatClampNeg))])) (fun _ ks_ => XS.iconst X0.here hx rfl (hb hby d4_40) ks_) ?_
        by_cases c41_30 : (3 : Int32) < (g (4 : Int32).toNatClampNeg)
        ·
          refine go (u' := s₁.setTop (mkF m 44 #[.val (.ref o0), .val (.int p1), .val (.int (g (4 : Int32).toNatClampNeg)), .unset] [])) (fun _ ks_ => XS.icmpNo X0.here hx rfl (hb hby d4_41) rfl (tlt c41_30).2.2.2 ks_) ?_
          refine go (u' := s₁.setTop (mkF m 45 #[.val (.ref o0), .val (.int p1), .val (.int (g (4 : Int32).toNatClampNeg)), .unset] [(.ref o0)])) (fun _ ks_ => XS.aloadN X0.here hx rfl (hb hby d4_44) rfl rfl ks_) ?_
          refine go (u' := s₁.setTop (mkF m 46 #[.val (.ref o0), .val (.int p1), .val (.int (g (4 : Int32).toNatClampNeg)), .unset] [(.int (3 : Int32)), (.ref o0)])) (fun _ ks_ => XS.iconst X0.here hx rfl (hb hby d4_45) ks_) ?_
          refine go (u' := s₁.setTop (mkF m 47 #[.val (.ref o0), .val (.int p1), .val (.int (g (4 : Int32).toNatClampNeg)), .unset] [(.int (g (3 : Int32).toNatClampNeg))])) (own_iaload X0 hx hZ e0 F0 (j := (3 : Int32)) (v := (g (3 : Int32).toNatClampNeg)) (by decide) (by decide) rfl (f := (mkF m 46 #[.val (.ref o0), .val (.int p1), .val (.int (g (4 : Int32).toNatClampNeg)), .unset] [(.int (3 : Int32)), (.ref o0)])) rfl rfl (hb hby d4_46)) ?_
          refine go (u' := s₁.setTop (mkF m 48 #[.val (.ref o0), .val (.int p1), .val (.int (g (4 : Int32).toNatClampNeg)), .unset] [(.int p1), (.int (g (3 : Int32).toNatClampNeg))])) (fun _ ks_ => XS.iloadN X0.here hx rfl (hb hby d4_47) rfl  ks_) ?_
          by_cases c48_31 : (g (3 : Int32).toNatClampNeg) = p1
          ·
            refine go (u' := s₁.setTop (mkF m 51 #[.val (.ref o0), .val (.int p1), .val (.int (g (4 : Int32).toNatClampNeg)), .unset] [])) (fun _ ks_ => XS.icmpNo X0.here hx rfl (hb hby d4_48) rfl (teq c48_31).2 ks_) ?_
            refine go (u' := s₁.setTop (mkF m 52 #[.val (.ref o0), .val (.int p1), .val (.int (g (4 : Int32).toNatClampNeg)), .unset] [(.int (1 : Int32))])) (fun _ ks_ => XS.iconst X0.here hx rfl (hb hby d4_51) ks_) ?_
            refine go (u' := s₁.setTop (mkF m 56 #[.val (.ref o0), .val (.int p1), .val (.int (g (4 : Int32).toNatClampNeg)), .unset] [(.int (1 : Int32))])) (fun _ ks_ => XS.goto X0.here hx rfl (pc0 := 52) (pc' := 56) rfl (hb hby d4_52) (by decide) (by decide) ks_) ?_
            exact J56_1 _ (B1 (Or.inr ⟨c5_2, (Or.inr ⟨c17_18, (Or.inr ⟨c29_26, ⟨c41_30, c48_31⟩⟩)⟩)⟩))
          ·
            refine go (u' := s₁.setTop (mkF m 55 #[.val (.ref o0), .val (.int p1), .val (.int (g (4 : Int32).toNatClampNeg)), .unset] [])) (fun _ ks_ => XS.icmpYes X0.here hx rfl (pc0 := 48) (pc' := 55) rfl (hb hby d4_48) rfl (feq c48_31).2 (by decide) (by decide) ks_) ?_
            refine go (u' := s₁.setTop (mkF m 56 #[.val (.ref o0), .val (.int p1), .val (.int (g (4 : Int32).toNatClampNeg)), .unset] [(.int (0 : Int32))])) (fun _ ks_ => XS.iconst X0.here hx rfl (hb hby d4_55) ks_) ?_
            exact J56_1 _ (B0 (fun q => q.elim (fun q => c5_2 q.1) (fun q => (fun q => q.elim (fun q => c17_18 q.1) (fun q => (fun q => q.elim (fun q => c29_26 q.1) (fun q => (fun q => c48_31 q.2) q.2)) q.2)) q.2)))
        ·
          refine go (u' := s₁.setTop (mkF m 55 #[.val (.ref o0), .val (.int p1), .val (.int (g (4 : Int32).toNatClampNeg)), .unset] [])) (fun _ ks_ => XS.icmpYes X0.here hx rfl (pc0 := 41) (pc' := 55) rfl (hb hby d4_41) rfl (flt c41_30).2.2.2 (by decide) (by decide) ks_) ?_
          refine go (u' := s₁.setTop (mkF m 56 #[.val (.ref o0), .val (.int p1), .val (.int (g (4 : Int32).toNatClampNeg)), .unset] [(.int (0 : Int32))])) (fun _ ks_ => XS.iconst X0.here hx rfl (hb hby d4_55) ks_) ?_
          exact J56_1 _ (B0 (fun q => q.elim (fun q => c5_2 q.1) (fun q => (fun q => q.elim (fun q => c17_18 q.1) (fun q => (fun q => q.elim (fun q => c29_26 q.1) (fun q => (fun q => c41_30 q.1) q.2)) q.2)) q.2)))
theorem pn_com_example_lootpath_lootpath_solve_CityQueueAddPinLaw_pop_6 : plainFor (⟨"com/example/lootpath/lootpath/solve/CityQueueAddPinLaw", "pop", "([I)I"⟩ : MethodName) = true := by first | exact plainFor_of_name (by first | (simp [plainName, overriddenIn]; done) | decide +kernel) | decide +kernel
def Q_rm6 (Z : State) (o0 : Addr) (g : Nat → Int32) (x : Int32) (xs : List Int32) (h0 : Heap) (n0 : Nat) (v : Option Value) (h : Heap) (L : List Loc) : Prop := ∃ g1 : Nat → Int32, v = some (.int x) ∧ Fr n0 L ∧ Keep h0 h [o0] ∧ (PI Z h o0 .int 5 g1) ∧ (MA g1 xs)
set_option maxRecDepth 65536 in
set_option maxHeartbeats 4000000 in
theorem ef_rm6 (m : MethodId) (o0 : Addr) : entryFrame m #[(.ref o0)] 2 = mkF m 0 #[.val (.ref o0), .unset] [] := by first | (simp [entryFrame, mkF, argsToLocals, Value.category, maxLocals]; done) | rfl
theorem d6_0 : decode method_3_code 0 = .ok (.aload_n 0, 1) := by decide +kernel
theorem d6_1 : decode method_3_code 1 = .ok (.iconst 0, 1) := by decide +kernel
theorem d6_2 : decode method_3_code 2 = .ok (.iaload, 1) := by decide +kernel
theorem d6_3 : decode method_3_code 3 = .ok (.istore_n 1, 1) := by decide +kernel
theorem d6_4 : decode method_3_code 4 = .ok (.aload_n 0, 1) := by decide +kernel
theorem d6_5 : decode method_3_code 5 = .ok (.iconst 0, 1) := by decide +kernel
theorem d6_6 : decode method_3_code 6 = .ok (.aload_n 0, 1) := by decide +kernel
theorem d6_7 : decode method_3_code 7 = .ok (.iconst 1, 1) := by decide +kernel
theorem d6_8 : decode method_3_code 8 = .ok (.iaload, 1) := by decide +kernel
theorem d6_9 : decode method_3_code 9 = .ok (.iastore, 1) := by decide +kernel
theorem d6_10 : decode method_3_code 10 = .ok (.aload_n 0, 1) := by decide +kernel
theorem d6_11 : decode method_3_code 11 = .ok (.iconst 1, 1) := by decide +kernel
theorem d6_12 : decode method_3_code 12 = .ok (.aload_n 0, 1) := by decide +kernel
theorem d6_13 : decode method_3_code 13 = .ok (.iconst 2, 1) := by decide +kernel
theorem d6_14 : decode method_3_code 14 = .ok (.iaload, 1) := by decide +kernel
theorem d6_15 : decode method_3_code 15 = .ok (.iastore, 1) := by decide +kernel
theorem d6_16 : decode method_3_code 16 = .ok (.aload_n 0, 1) := by decide +kernel
theorem d6_17 : decode method_3_code 17 = .ok (.iconst 2, 1) := by decide +kernel
theorem d6_18 : decode method_3_code 18 = .ok (.aload_n 0, 1) := by decide +kernel
theorem d6_19 : decode method_3_code 19 = .ok (.iconst 3, 1) := by decide +kernel
theorem d6_20 : decode method_3_code 20 = .ok (.iaload, 1) := by decide +kernel
theorem d6_21 : decode method_3_code 21 = .ok (.iastore, 1) := by decide +kernel
theorem d6_22 : decode method_3_code 22 = .ok (.aload_n 0, 1) := by decide +kernel
theorem d6_23 : decode method_3_code 23 = .ok (.iconst 4, 1) := by decide +kernel
theorem d6_24 : decode method_3_code 24 = .ok (.aload_n 0, 1) := by decide +kernel
theorem d6_25 : decode method_3_code 25 = .ok (.iconst 4, 1) := by decide +kernel
theorem d6_26 : decode method_3_code 26 = .ok (.iaload, 1) := by decide +kernel
theorem d6_27 : decode method_3_code 27 = .ok (.iconst 1, 1) := by decide +kernel
theorem d6_28 : decode method_3_code 28 = .ok (.isub, 1) := by decide +kernel
theorem d6_29 : decode method_3_code 29 = .ok (.iastore, 1) := by decide +kernel
theorem d6_30 : decode method_3_code 30 = .ok (.iload_n 1, 1) := by decide +kernel
theorem d6_31 : decode method_3_code 31 = .ok (.ireturn, 1) := by decide +kernel
set_option maxRecDepth 65536 in
set_option maxHeartbeats 40000000 in
theorem rm6 (l : Launch) (Z : State) (a0 : Array Value) (hw : ∀ d ∈ tables_1, d.before a0 Z = true) (ws : List Jvm.Cond) (o0 : Addr) (g : Nat → Int32) (x : Int32) (xs : List Int32) (h0 : Heap) (n0 : Nat) (Z0 : n0 ≤ h0.size) (g_o0 : n0 ≤ o0) (F0 : PI Z h0 o0 .int 5 g) (hM : MA g (x :: xs)) :
    MetFree l (⟨"com/example/lootpath/lootpath/solve/CityQueueAddPinLaw", "pop", "([I)I"⟩ : MethodName) (head1 (Jvm.Cond.code (⟨"com/example/lootpath/lootpath/solve/CityQueueAddPinLaw", "pop", "([I)I"⟩ : MethodName) method_3_code 2 (some .int) :: ws) ({ frames := 0, cells := 0, slots := 0, locals := 0 } : Room)) (fun a U => a = #[(.ref o0)] ∧ Z.Warmed39 U.vm ∧ U.heap = h0) (fun _ _ _ _ _ => True) (fun _ U o U' => ∃ v L, o = .returned v ∧ Q_rm6 Z o0 g x xs h0 n0 v U'.heap L ∧ FrameEnd U o U' L ({ frames := 0, cells := 0, slots := 0, locals := 0 } : Room).cells ({ frames := 0, cells := 0, slots := 0, locals := 0 } : Room).slots) := by
  refine body pn_com_example_lootpath_lootpath_solve_CityQueueAddPinLaw_pop_6 ?_
  intro p e s m below meth c s₁ hx hby hml hown hnm hret hlk hZ e0 X0
  replace hml : c.maxLocals = 2 := hml
  replace hown : s.vm.findClass "com/example/lootpath/lootpath/solve/CityQueueAddPinLaw" = some m.cls := hown
  replace hnm : meth.name = "pop" := hnm
  replace hret : meth.sig.returnType = (some .int) := hret
  have N0 := Fr.nil n0
  rw [ef_rm6]
  obtain ⟨G, hG⟩ : ∃ G, G = End (Q_rm6 Z o0 g x xs h0 n0) s ({ frames := 0, cells := 0, slots := 0, locals := 0 } : Room).cells ({ frames := 0, cells := 0, slots := 0, locals := 0 } : Room).slots := ⟨_, rfl⟩
  rw [← hG]
  refine go (u' := s₁.setTop (mkF m 1 #[.val (.ref o0), .unset] [(.ref o0)])) (fun _ ks_ => XS.aloadN X0.here hx rfl (hb hby d6_0) rfl rfl ks_) ?_
  refine go (u' := s₁.setTop (mkF m 2 #[.val (.ref o0), .unset] [(.int (0 : Int32)), (.ref o0)])) (fun _ ks_ => XS.iconst X0.here hx rfl (hb hby d6_1) ks_) ?_
  refine go (u' := s₁.setTop (mkF m 3 #[.val (.ref o0), .unset] [(.int x)])) (own_iaload X0 hx hZ e0 F0 (j := (0 : Int32)) (v := x) (by decide) (by decide) hM.first (f := (mkF m 2 #[.val (.ref o0), .unset] [(.int (0 : Int32)), (.ref o0)])) rfl rfl (hb hby d6_2)) ?_
  refine go (u' := s₁.setTop (mkF m 4 #[.val (.ref o0), .val (.int x)] [])) (fun _ ks_ => XS.istoreN X0.here hx rfl (hb hby d6_3) rfl  (l' := #[.val (.ref o0), .val (.int x)]) rfl ks_) ?_
  refine go (u' := s₁.setTop (mkF m 5 #[.val (.ref o0), .val (.int x)] [(.ref o0)])) (fun _ ks_ => XS.aloadN X0.here hx rfl (hb hby d6_4) rfl rfl ks_) ?_
  refine go (u' := s₁.setTop (mkF m 6 #[.val (.ref o0), .val (.int x)] [(.int (0 : Int32)), (.ref o0)])) (fun _ ks_ => XS.iconst X0.here hx rfl (hb hby d6_5) ks_) ?_
  refine go (u' := s₁.setTop (mkF m 7 #[.val (.ref o0), .val (.int x)] [(.ref o0), (.int (0 : Int32)), (.ref o0)])) (fun _ ks_ => XS.aloadN X0.here hx rfl (hb hby d6_6) rfl rfl ks_) ?_
  refine go (u' := s₁.setTop (mkF m 8 #[.val (.ref o0), .val (.int x)] [(.int (1 : Int32)), (.ref o0), (.int (0 : Int32)), (.ref o0)])) (fun _ ks_ => XS.iconst X0.here hx rfl (hb hby d6_7) ks_) ?_
  refine go (u' := s₁.setTop (mkF m 9 #[.val (.ref o0), .val (.int x)] [(.int (g (1 : Int32).toNatClampNeg)), (.int (0 : Int32)), (.ref o0)])) (own_iaload X0 hx hZ e0 F0 (j := (1 : Int32)) (v := (g (1 : Int32).toNatClampNeg)) (by decide) (by decide) rfl (f := (mkF m 8 #[.val (.ref o0), .val (.int x)] [(.int (1 : Int32)), (.ref o0), (.int (0 : Int32)), (.ref o0)])) rfl rfl (hb hby d6_8)) ?_
  obtain ⟨T1, h1, X1, e1, W1, st1⟩ := own_iastore X0 hx hZ e0 F0 (j := (0 : Int32)) (x := (g (1 : Int32).toNatClampNeg))  (by decide) (by decide) (f := (mkF m 9 #[.val (.ref o0), .val (.int x)] [(.int (g (1 : Int32).toNatClampNeg)), (.int (0 : Int32)), (.ref o0)])) rfl rfl (hb hby d6_9)
  have N1 := Fr.snoc X1 N0 g_o0
  have K1 : Keep h0 h1 [o0] := (Keep.refl h0 [o0]).wr W1 (Or.inl (List.mem_of_getElem? (i := 0) rfl))
  have Z1 : n0 ≤ h1.size := Nat.le_trans Z0 (Keep.of_wr W1).1
  have Fa2 : PI Z h1 o0 .int 5 (upd g ((0 : Int32)).toNatClampNeg (g (1 : Int32).toNatClampNeg)) := F0.set (by decide) W1
  refine go (u' := T1.setTop (mkF m 10 #[.val (.ref o0), .val (.int x)] [])) st1 ?_
  refine go (u' := T1.setTop (mkF m 11 #[.val (.ref o0), .val (.int x)] [(.ref o0)])) (fun _ ks_ => XS.aloadN X1.here hx rfl (hb hby d6_10) rfl rfl ks_) ?_
  refine go (u' := T1.setTop (mkF m 12 #[.val (.ref o0), .val (.int x)] [(.int (1 : Int32)), (.ref o0)])) (fun _ ks_ => XS.iconst X1.here hx rfl (hb hby d6_11) ks_) ?_
  refine go (u' := T1.setTop (mkF m 13 #[.val (.ref o0), .val (.int x)] [(.ref o0), (.int (1 : Int32)), (.ref o0)])) (fun _ ks_ => XS.aloadN X1.here hx rfl (hb hby d6_12) rfl rfl ks_) ?_
  refine go (u' := T1.setTop (mkF m 14 #[.val (.ref o0), .val (.int x)] [(.int (2 : Int32)), (.ref o0), (.int (1 : Int32)), (.ref o0)])) (fun _ ks_ => XS.iconst X1.here hx rfl (hb hby d6_13) ks_) ?_
  refine go (u' := T1.setTop (mkF m 15 #[.val (.ref o0), .val (.int x)] [(.int ((upd g ((0 : Int32)).toNatClampNeg (g (1 : Int32).toNatClampNeg)) (2 : Int32).toNatClampNeg)), (.int (1 : Int32)), (.ref o0)])) (own_iaload X1 hx hZ e1 Fa2 (j := (2 : Int32)) (v := ((upd g ((0 : Int32)).toNatClampNeg (g (1 : Int32).toNatClampNeg)) (2 : Int32).toNatClampNeg)) (by decide) (by decide) rfl (f := (mkF m 14 #[.val (.ref o0), .val (.int x)] [(.int (2 : Int32)), (.ref o0), (.int (1 : Int32)), (.ref o0)])) rfl rfl (hb hby d6_14)) ?_
  obtain ⟨T3, h3, X3, e3, W3, st3⟩ := own_iastore X1 hx hZ e1 Fa2 (j := (1 : Int32)) (x := ((upd g ((0 : Int32)).toNatClampNeg (g (1 : Int32).toNatClampNeg)) (2 : Int32).toNatClampNeg))  (by decide) (by decide) (f := (mkF m 15 #[.val (.ref o0), .val (.int x)] [(.int ((upd g ((0 : Int32)).toNatClampNeg (g (1 : Int32).toNatClampNeg)) (2 : Int32).toNatClampNeg)), (.int (1 : Int32)), (.ref o0)])) rfl rfl (hb hby d6_15)
  have N3 := Fr.snoc X3 N1 g_o0
  have K3 : Keep h0 h3 [o0] := K1.wr W3 (Or.inl (List.mem_of_getElem? (i := 0) rfl))
  have Z3 : n0 ≤ h3.size := Nat.le_trans Z1 (Keep.of_wr W3).1
  have Fa4 : PI Z h3 o0 .int 5 (upd (upd g ((0 : Int32)).toNatClampNeg (g (1 : Int32).toNatClampNeg)) ((1 : Int32)).toNatClampNeg ((upd g ((0 : Int32)).toNatClampNeg (g (1 : Int32).toNatClampNeg)) (2 : Int32).toNatClampNeg)) := Fa2.set (by decide) W3
  refine go (u' := T3.setTop (mkF m 16 #[.val (.ref o0), .val (.int x)] [])) st3 ?_
  refine go (u' := T3.setTop (mkF m 17 #[.val (.ref o0), .val (.int x)] [(.ref o0)])) (fun _ ks_ => XS.aloadN X3.here hx rfl (hb hby d6_16) rfl rfl ks_) ?_
  refine go (u' := T3.setTop (mkF m 18 #[.val (.ref o0), .val (.int x)] [(.int (2 : Int32)), (.ref o0)])) (fun _ ks_ => XS.iconst X3.here hx rfl (hb hby d6_17) ks_) ?_
  refine go (u' := T3.setTop (mkF m 19 #[.val (.ref o0), .val (.int x)] [(.ref o0), (.int (2 : Int32)), (.ref o0)])) (fun _ ks_ => XS.aloadN X3.here hx rfl (hb hby d6_18) rfl rfl ks_) ?_
  refine go (u' := T3.setTop (mkF m 20 #[.val (.ref o0), .val (.int x)] [(.int (3 : Int32)), (.ref o0), (.int (2 : Int32)), (.ref o0)])) (fun _ ks_ => XS.iconst X3.here hx rfl (hb hby d6_19) ks_) ?_
  refine go (u' := T3.setTop (mkF m 21 #[.val (.ref o0), .val (.int x)] [(.int ((upd (upd g ((0 : Int32)).toNatClampNeg (g (1 : Int32).toNatClampNeg)) ((1 : Int32)).toNatClampNeg ((upd g ((0 : Int32)).toNatClampNeg (g (1 : Int32).toNatClampNeg)) (2 : Int32).toNatClampNeg)) (3 : Int32).toNatClampNeg)), (.int (2 : Int32)), (.ref o0)])) (own_iaload X3 hx hZ e3 Fa4 (j := (3 : Int32)) (v := ((upd (upd g ((0 : Int32)).toNatClampNeg (g (1 : Int32).toNatClampNeg)) ((1 : Int32)).toNatClampNeg ((upd g ((0 : Int32)).toNatClampNeg (g (1 : Int32).toNatClampNeg)) (2 : Int32).toNatClampNeg)) (3 : Int32).toNatClampNeg)) (by decide) (by decide) rfl (f := (mkF m 20 #[.val (.ref o0), .val (.int x)] [(.int (3 : Int32)), (.ref o0), (.int (2 : Int32)), (.ref o0)])) rfl rfl (hb hby d6_20)) ?_
  obtain ⟨T5, h5, X5, e5, W5, st5⟩ := own_iastore X3 hx hZ e3 Fa4 (j := (2 : Int32)) (x := ((upd (upd g ((0 : Int32)).toNatClampNeg (g (1 : Int32).toNatClampNeg)) ((1 : Int32)).toNatClampNeg ((upd g ((0 : Int32)).toNatClampNeg (g (1 : Int32).toNatClampNeg)) (2 : Int32).toNatClampNeg)) (3 : Int32).toNatClampNeg))  (by decide) (by decide) (f := (mkF m 21 #[.val (.ref o0), .val (.int x)] [(.int ((upd (upd g ((0 : Int32)).toNatClampNeg (g (1 : Int32).toNatClampNeg)) ((1 : Int32)).toNatClampNeg ((upd g ((0 : Int32)).toNatClampNeg (g (1 : Int32).toNatClampNeg)) (2 : Int32).toNatClampNeg)) (3 : Int32).toNatClampNeg)), (.int (2 : Int32)), (.ref o0)])) rfl rfl (hb hby d6_21)
  have N5 := Fr.snoc X5 N3 g_o0
  have K5 : Keep h0 h5 [o0] := K3.wr W5 (Or.inl (List.mem_of_getElem? (i := 0) rfl))
  have Z5 : n0 ≤ h5.size := Nat.le_trans Z3 (Keep.of_wr W5).1
  have Fa6 : PI Z h5 o0 .int 5 (upd (upd (upd g ((0 : Int32)).toNatClampNeg (g (1 : Int32).toNatClampNeg)) ((1 : Int32)).toNatClampNeg ((upd g ((0 : Int32)).toNatClampNeg (g (1 : Int32).toNatClampNeg)) (2 : Int32).toNatClampNeg)) ((2 : Int32)).toNatClampNeg ((upd (upd g ((0 : Int32)).toNatClampNeg (g (1 : Int32).toNatClampNeg)) ((1 : Int32)).toNatClampNeg ((upd g ((0 : Int32)).toNatClampNeg (g (1 : Int32).toNatClampNeg)) (2 : Int32).toNatClampNeg)) (3 : Int32).toNatClampNeg)) := Fa4.set (by decide) W5
  refine go (u' := T5.setTop (mkF m 22 #[.val (.ref o0), .val (.int x)] [])) st5 ?_
  refine go (u' := T5.setTop (mkF m 23 #[.val (.ref o0), .val (.int x)] [(.ref o0)])) (fun _ ks_ => XS.aloadN X5.here hx rfl (hb hby d6_22) rfl rfl ks_) ?_
  refine go (u' := T5.setTop (mkF m 24 #[.val (.ref o0), .val (.int x)] [(.int (4 : Int32)), (.ref o0)])) (fun _ ks_ => XS.iconst X5.here hx rfl (hb hby d6_23) ks_) ?_
  refine go (u' := T5.setTop (mkF m 25 #[.val (.ref o0), .val (.int x)] [(.ref o0), (.int (4 : Int32)), (.ref o0)])) (fun _ ks_ => XS.aloadN X5.here hx rfl (hb hby d6_24) rfl rfl ks_) ?_
  refine go (u' := T5.setTop (mkF m 26 #[.val (.ref o0), .val (.int x)] [(.int (4 : Int32)), (.ref o0), (.int (4 : Int32)), (.ref o0)])) (fun _ ks_ => XS.iconst X5.here hx rfl (hb hby d6_25) ks_) ?_
  refine go (u' := T5.setTop (mkF m 27 #[.val (.ref o0), .val (.int x)] [(.int ((upd (upd (upd g ((0 : Int32)).toNatClampNeg (g (1 : Int32).toNatClampNeg)) ((1 : Int32)).toNatClampNeg ((upd g ((0 : Int32)).toNatClampNeg (g (1 : Int32).toNatClampNeg)) (2 : Int32).toNatClampNeg)) ((2 : Int32)).toNatClampNeg ((upd (upd g ((0 : Int32)).toNatClampNeg (g (1 : Int32).toNatClampNeg)) ((1 : Int32)).toNatClampNeg ((upd g ((0 : Int32)).toNatClampNeg (g (1 : Int32).toNatClampNeg)) (2 : Int32).toNatClampNeg)) (3 : Int32).toNatClampNeg)) (4 : Int32).toNatClampNeg)), (.int (4 : Int32)), (.ref o0)])) (own_iaload X5 hx hZ e5 Fa6 (j := (4 : Int32)) (v := ((upd (upd (upd g ((0 : Int32)).toNatClampNeg (g (1 : Int32).toNatClampNeg)) ((1 : Int32)).toNatClampNeg ((upd g ((0 : Int32)).toNatClampNeg (g (1 : Int32).toNatClampNeg)) (2 : Int32).toNatClampNeg)) ((2 : Int32)).toNatClampNeg ((upd (upd g ((0 : Int32)).toNatClampNeg (g (1 : Int32).toNatClampNeg)) ((1 : Int32)).toNatClampNeg ((upd g ((0 : Int32)).toNatClampNeg (g (1 : Int32).toNatClampNeg)) (2 : Int32).toNatClampNeg)) (3 : Int32).toNatClampNeg)) (4 : Int32).toNatClampNeg)) (by decide) (by decide) rfl (f := (mkF m 26 #[.val (.ref o0), .val (.int x)] [(.int (4 : Int32)), (.ref o0), (.int (4 : Int32)), (.ref o0)])) rfl rfl (hb hby d6_26)) ?_
  refine go (u' := T5.setTop (mkF m 28 #[.val (.ref o0), .val (.int x)] [(.int (1 : Int32)), (.int ((upd (upd (upd g ((0 : Int32)).toNatClampNeg (g (1 : Int32).toNatClampNeg)) ((1 : Int32)).toNatClampNeg ((upd g ((0 : Int32)).toNatClampNeg (g (1 : Int32).toNatClampNeg)) (2 : Int32).toNatClampNeg)) ((2 : Int32)).toNatClampNeg ((upd (upd g ((0 : Int32)).toNatClampNeg (g (1 : Int32).toNatClampNeg)) ((1 : Int32)).toNatClampNeg ((upd g ((0 : Int32)).toNatClampNeg (g (1 : Int32).toNatClampNeg)) (2 : Int32).toNatClampNeg)) (3 : Int32).toNatClampNeg)) (4 : Int32).toNatClampNeg)), (.int (4 : Int32)), (.ref o0)])) (fun _ ks_ => XS.iconst X5.here hx rfl (hb hby d6_27) ks_) ?_
  refine go (u' := T5.setTop (mkF m 29 #[.val (.ref o0), .val (.int x)] [(.int (((upd (upd (upd g ((0 : Int32)).toNatClampNeg (g (1 : Int32).toNatClampNeg)) ((1 : Int32)).toNatClampNeg ((upd g ((0 : Int32)).toNatClampNeg (g (1 : Int32).toNatClampNeg)) (2 : Int32).toNatClampNeg)) ((2 : Int32)).toNatClampNeg ((upd (upd g ((0 : Int32)).toNatClampNeg (g (1 : Int32).toNatClampNeg)) ((1 : Int32)).toNatClampNeg ((upd g ((0 : Int32)).toNatClampNeg (g (1 : Int32).toNatClampNeg)) (2 : Int32).toNatClampNeg)) (3 : Int32).toNatClampNeg)) (4 : Int32).toNatClampNeg) - (1 : Int32))), (.int (4 : Int32)), (.ref o0)])) (fun _ ks_ => XS.isub X5.here hx rfl (hb hby d6_28) rfl ks_) ?_
  obtain ⟨T7, h7, X7, e7, W7, st7⟩ := own_iastore X5 hx hZ e5 Fa6 (j := (4 : Int32)) (x := (((upd (upd (upd g ((0 : Int32)).toNatClampNeg (g (1 : Int32).toNatClampNeg)) ((1 : Int32)).toNatClampNeg ((upd g ((0 : Int32)).toNatClampNeg (g (1 : Int32).toNatClampNeg)) (2 : Int32).toNatClampNeg)) ((2 : Int32)).toNatClampNeg ((upd (upd g ((0 : Int32)).toNatClampNeg (g (1 : Int32).toNatClampNeg)) ((1 : Int32)).toNatClampNeg ((upd g ((0 : Int32)).toNatClampNeg (g (1 : Int32).toNatClampNeg)) (2 : Int32).toNatClampNeg)) (3 : Int32).toNatClampNeg)) (4 : Int32).toNatClampNeg) - (1 : Int32)))  (by decide) (by decide) (f := (mkF m 29 #[.val (.ref o0), .val (.int x)] [(.int (((upd (upd (upd g ((0 : Int32)).toNatClampNeg (g (1 : Int32).toNatClampNeg)) ((1 : Int32)).toNatClampNeg ((upd g ((0 : Int32)).toNatClampNeg (g (1 : Int32).toNatClampNeg)) (2 : Int32).toNatClampNeg)) ((2 : Int32)).toNatClampNeg ((upd (upd g ((0 : Int32)).toNatClampNeg (g (1 : Int32).toNatClampNeg)) ((1 : Int32)).toNatClampNeg ((upd g ((0 : Int32)).toNatClampNeg (g (1 : Int32).toNatClampNeg)) (2 : Int32).toNatClampNeg)) (3 : Int32).toNatClampNeg)) (4 : Int32).toNatClampNeg) - (1 : Int32))), (.int (4 : Int32)), (.ref o0)])) rfl rfl (hb hby d6_29)
  have N7 := Fr.snoc X7 N5 g_o0
  have K7 : Keep h0 h7 [o0] := K5.wr W7 (Or.inl (List.mem_of_getElem? (i := 0) rfl))
  have Z7 : n0 ≤ h7.size := Nat.le_trans Z5 (Keep.of_wr W7).1
  have Fa8 : PI Z h7 o0 .int 5 (upd (upd (upd (upd g ((0 : Int32)).toNatClampNeg (g (1 : Int32).toNatClampNeg)) ((1 : Int32)).toNatClampNeg ((upd g ((0 : Int32)).toNatClampNeg (g (1 : Int32).toNatClampNeg)) (2 : Int32).toNatClampNeg)) ((2 : Int32)).toNatClampNeg ((upd (upd g ((0 : Int32)).toNatClampNeg (g (1 : Int32).toNatClampNeg)) ((1 : Int32)).toNatClampNeg ((upd g ((0 : Int32)).toNatClampNeg (g (1 : Int32).toNatClampNeg)) (2 : Int32).toNatClampNeg)) (3 : Int32).toNatClampNeg)) ((4 : Int32)).toNatClampNeg (((upd (upd (upd g ((0 : Int32)).toNatClampNeg (g (1 : Int32).toNatClampNeg)) ((1 : Int32)).toNatClampNeg ((upd g ((0 : Int32)).toNatClampNeg (g (1 : Int32).toNatClampNeg)) (2 : Int32).toNatClampNeg)) ((2 : Int32)).toNatClampNeg ((upd (upd g ((0 : Int32)).toNatClampNeg (g (1 : Int32).toNatClampNeg)) ((1 : Int32)).toNatClampNeg ((upd g ((0 : Int32)).toNatClampNeg (g (1 : Int32).toNatClampNeg)) (2 : Int32).toNatClampNeg)) (3 : Int32).toNatClampNeg)) (4 : Int32).toNatClampNeg) - (1 : Int32))) := Fa6.set (by decide) W7
  refine go (u' := T7.setTop (mkF m 30 #[.val (.ref o0), .val (.int x)] [])) st7 ?_
  refine go (u' := T7.setTop (mkF m 31 #[.val (.ref o0), .val (.int x)] [(.int x)])) (fun _ ks_ => XS.iloadN X7.here hx rfl (hb hby d6_30) rfl  ks_) ?_
  rw [hG]
  refine gI X7 hx hlk hret (hb hby d6_31) ?_ (Nat.le_of_ble_eq_true rfl) (Nat.le_of_ble_eq_true rfl)
  show Q_rm6 Z o0 g x xs h0 n0 (some (.int x)) T7.heap _
  rw [e7]
  exact ⟨(upd (upd (upd (upd g ((0 : Int32)).toNatClampNeg (g (1 : Int32).toNatClampNeg)) ((1 : Int32)).toNatClampNeg ((upd g ((0 : Int32)).toNatClampNeg (g (1 : Int32).toNatClampNeg)) (2 : Int32).toNatClampNeg)) ((2 : Int32)).toNatClampNeg ((upd (upd g ((0 : Int32)).toNatClampNeg (g (1 : Int32).toNatClampNeg)) ((1 : Int32)).toNatClampNeg ((upd g ((0 : Int32)).toNatClampNeg (g (1 : Int32).toNatClampNeg)) (2 : Int32).toNatClampNeg)) (3 : Int32).toNatClampNeg)) ((4 : Int32)).toNatClampNeg (((upd (upd (upd g ((0 : Int32)).toNatClampNeg (g (1 : Int32).toNatClampNeg)) ((1 : Int32)).toNatClampNeg ((upd g ((0 : Int32)).toNatClampNeg (g (1 : Int32).toNatClampNeg)) (2 : Int32).toNatClampNeg)) ((2 : Int32)).toNatClampNeg ((upd (upd g ((0 : Int32)).toNatClampNeg (g (1 : Int32).toNatClampNeg)) ((1 : Int32)).toNatClampNeg ((upd g ((0 : Int32)).toNatClampNeg (g (1 : Int32).toNatClampNeg)) (2 : Int32).toNatClampNeg)) (3 : Int32).toNatClampNeg)) (4 : Int32).toNatClampNeg) - (1 : Int32))), rfl, N7, K7, Fa8, (hM.pop rfl rfl rfl rfl)⟩
theorem pd__40_I_41_V : parseMethodDescriptor "(I)V" = some ⟨[.int], none⟩ := by decide +kernel
theorem pd__40__91_I_41_V : parseMethodDescriptor "([I)V" = some ⟨[(.array .int)], none⟩ := by decide +kernel
theorem pd__40__91_II_41_V : parseMethodDescriptor "([II)V" = some ⟨[(.array .int), .int], none⟩ := by decide +kernel
theorem pd__40__41_Z : parseMethodDescriptor "()Z" = some ⟨[], some .boolean⟩ := by decide +kernel
theorem pd__40__41_I : parseMethodDescriptor "()I" = some ⟨[], some .int⟩ := by decide +kernel
theorem pd__40__91_I_41_I : parseMethodDescriptor "([I)I" = some ⟨[(.array .int)], some .int⟩ := by decide +kernel
theorem pn_com_example_lootpath_lootpath_solve_CityQueueAddPinLaw_law_0 : plainFor x = true := by first | exact plainFor_of_name (by first | (simp [plainName, overriddenIn]; done) | decide +kernel) | decide +kernel
def Q_rm0 (Z : State) (p0 : Int32) (p1 : Int32) (p2 : Int32) (p3 : Int32) (p4 : Int32) (p5 : Int32) (h0 : Heap) (n0 : Nat) (v : Option Value) (h : Heap) (L : List Loc) : Prop := v = some (.int (1 : Int32)) ∧ Fr n0 L
set_option maxRecDepth 65536 in
set_option maxHeartbeats 4000000 in
theorem ef_rm0 (m : MethodId) (p0 : Int32) (p1 : Int32) (p2 : Int32) (p3 : Int32) (p4 : Int32) (p5 : Int32) : entryFrame m #[(.int p0), (.int p1), (.int p2), (.int p3), (.int p4), (.int p5)] maxLocals = mkF m 0 #[.val (.int p0), .val (.int p1), .val (.int p2), .val (.int p3), .val (.int p4), .val (.int p5), .unset, .unset, .unset, .unset, .unset, .unset, .unset, .unset, .unset, .unset, .unset, .unset] [] := by first | (simp [entryFrame, mkF, argsToLocals, Value.category, maxLocals]; done) | rfl
set_option maxRecDepth 65536 in
set_option maxHeartbeats 40000000 in
theorem rm0 (l : Launch) (Z : State) (a0 : Array Value) (hw : ∀ d ∈ tables_1, d.before a0 Z = true) (ws : List Jvm.Cond) (p0 : Int32) (p1 : Int32) (p2 : Int32) (p3 : Int32) (p4 : Int32) (p5 : Int32) (h0 : Heap) (n0 : Nat) (Z0 : n0 ≤ h0.size)  :
    MetFree l x (head1 (Jvm.Cond.code x code maxLocals ret :: ws) room_1) (fun a U => a = #[(.int p0), (.int p1), (.int p2), (.int p3), (.int p4), (.int p5)] ∧ Z.Warmed39 U.vm ∧ U.heap = h0) (fun _ _ _ _ _ => True) (fun _ U o U' => ∃ v L, o = .returned v ∧ Q_rm0 Z p0 p1 p2 p3 p4 p5 h0 n0 v U'.heap L ∧ FrameEnd U o U' L room_1.cells room_1.slots) := by
  refine body pn_com_example_lootpath_lootpath_solve_CityQueueAddPinLaw_law_0 ?_
  intro p e s m below meth c s₁ hx hby hml hown hnm hret hlk hZ e0 X0
  replace hml : c.maxLocals = 18 := hml
  replace hown : s.vm.findClass "com/example/lootpath/lootpath/solve/CityQueueAddPinLaw" = some m.cls := hown
  replace hnm : meth.name = "law" := hnm
  replace hret : meth.sig.returnType = (some .boolean) := hret
  have N0 := Fr.nil n0
  rw [ef_rm0]
  obtain ⟨G, hG⟩ : ∃ G, G = End (Q_rm0 Z p0 p1 p2 p3 p4 p5 h0 n0) s room_1.cells room_1.slots := ⟨_, rfl⟩
  rw [← hG]
  refine go (u' := s₁.setTop (mkF m 1 #[.val (.int p0), .val (.int p1), .val (.int p2), .val (.int p3), .val (.int p4), .val (.int p5), .unset, .unset, .unset, .unset, .unset, .unset, .unset, .unset, .unset, .unset, .unset, .unset] [(.int p0)])) (fun _ ks_ => XS.iloadN X0.here hx rfl (hb hby at_0) rfl  ks_) ?_
  refine go (u' := s₁.setTop (mkF m 2 #[.val (.int p0), .val (.int p1), .val (.int p2), .val (.int p3), .val (.int p4), .val (.int p5), .unset, .unset, .unset, .unset, .unset, .unset, .unset, .unset, .unset, .unset, .unset, .unset] [(.int (3 : Int32)), (.int p0)])) (fun _ ks_ => XS.iconst X0.here hx rfl (hb hby at_1) ks_) ?_
  refine go (u' := s₁.setTop (mkF m 3 #[.val (.int p0), .val (.int p1), .val (.int p2), .val (.int p3), .val (.int p4), .val (.int p5), .unset, .unset, .unset, .unset, .unset, .unset, .unset, .unset, .unset, .unset, .unset, .unset] [(.int (p0 &&& (3 : Int32)))])) (fun _ ks_ => XS.iand X0.here hx rfl (hb hby at_2) rfl ks_) ?_
  refine go (u' := s₁.setTop (mkF m 5 #[.val (.int p0), .val (.int p1), .val (.int p2), .val (.int p3), .val (.int p4), .val (.int p5), .val (.int (p0 &&& (3 : Int32))), .unset, .unset, .unset, .unset, .unset, .unset, .unset, .unset, .unset, .unset, .unset] [])) (fun _ ks_ => XS.istore X0.here hx rfl (hb hby at_3) rfl  (l' := #[.val (.int p0), .val (.int p1), .val (.int p2), .val (.int p3), .val (.int p4), .val (.int p5), .val (.int (p0 &&& (3 : Int32))), .unset, .unset, .unset, .unset, .unset, .unset, .unset, .unset, .unset, .unset, .unset]) rfl ks_) ?_
  refine go (u' := s₁.setTop (mkF m 6 #[.val (.int p0), .val (.int p1), .val (.int p2), .val (.int p3), .val (.int p4), .val (.int p5), .val (.int (p0 &&& (3 : Int32))), .unset, .unset, .unset, .unset, .unset, .unset, .unset, .unset, .unset, .unset, .unset] [(.int p1)])) (fun _ ks_ => XS.iloadN X0.here hx rfl (hb hby at_5) rfl  ks_) ?_
  refine go (u' := s₁.setTop (mkF m 7 #[.val (.int p0), .val (.int p1), .val (.int p2), .val (.int p3), .val (.int p4), .val (.int p5), .val (.int (p0 &&& (3 : Int32))), .unset, .unset, .unset, .unset, .unset, .unset, .unset, .unset, .unset, .unset, .unset] [(.int (3 : Int32)), (.int p1)])) (fun _ ks_ => XS.iconst X0.here hx rfl (hb hby at_6) ks_) ?_
  refine go (u' := s₁.setTop (mkF m 8 #[.val (.int p0), .val (.int p1), .val (.int p2), .val (.int p3), .val (.int p4), .val (.int p5), .val (.int (p0 &&& (3 : Int32))), .unset, .unset, .unset, .unset, .unset, .unset, .unset, .unset, .unset, .unset, .unset] [(.int (p1 &&& (3 : Int32)))])) (fun _ ks_ => XS.iand X0.here hx rfl (hb hby at_7) rfl ks_) ?_
  refine go (u' := s₁.setTop (mkF m 10 #[.val (.int p0), .val (.int p1), .val (.int p2), .val (.int p3), .val (.int p4), .val (.int p5), .val (.int (p0 &&& (3 : Int32))), .val (.int (p1 &&& (3 : Int32))), .unset, .unset, .unset, .unset, .unset, .unset, .unset, .unset, .unset, .unset] [])) (fun _ ks_ => XS.istore X0.here hx rfl (hb hby at_8) rfl  (l' := #[.val (.int p0), .val (.int p1), .val (.int p2), .val (.int p3), .val (.int p4), .val (.int p5), .val (.int (p0 &&& (3 : Int32))), .val (.int (p1 &&& (3 : Int32))), .unset, .unset, .unset, .unset, .unset, .unset, .unset, .unset, .unset, .unset]) rfl ks_) ?_
  refine go (u' := s₁.setTop (mkF m 11 #[.val (.int p0), .val (.int p1), .val (.int p2), .val (.int p3), .val (.int p4), .val (.int p5), .val (.int (p0 &&& (3 : Int32))), .val (.int (p1 &&& (3 : Int32))), .unset, .unset, .unset, .unset, .unset, .unset, .unset, .unset, .unset, .unset] [(.int p3)])) (fun _ ks_ => XS.iloadN X0.here hx rfl (hb hby at_10) rfl  ks_) ?_
  refine go (u' := s₁.setTop (mkF m 12 #[.val (.int p0), .val (.int p1), .val (.int p2), .val (.int p3), .val (.int p4), .val (.int p5), .val (.int (p0 &&& (3 : Int32))), .val (.int (p1 &&& (3 : Int32))), .unset, .unset, .unset, .unset, .unset, .unset, .unset, .unset, .unset, .unset] [(.int (3 : Int32)), (.int p3)])) (fun _ ks_ => XS.iconst X0.here hx rfl (hb hby at_11) ks_) ?_
  refine go (u' := s₁.setTop (mkF m 13 #[.val (.int p0), .val (.int p1), .val (.int p2), .val (.int p3), .val (.int p4), .val (.int p5), .val (.int (p0 &&& (3 : Int32))), .val (.int (p1 &&& (3 : Int32))), .unset, .unset, .unset, .unset, .unset, .unset, .unset, .unset, .unset, .unset] [(.int (p3 &&& (3 : Int32)))])) (fun _ ks_ => XS.iand X0.here hx rfl (hb hby at_12) rfl ks_) ?_
  refine go (u' := s₁.setTop (mkF m 15 #[.val (.int p0), .val (.int p1), .val (.int p2), .val (.int p3), .val (.int p4), .val (.int p5), .val (.int (p0 &&& (3 : Int32))), .val (.int (p1 &&& (3 : Int32))), .val (.int (p3 &&& (3 : Int32))), .unset, .unset, .unset, .unset, .unset, .unset, .unset, .unset, .unset] [])) (fun _ ks_ => XS.istore X0.here hx rfl (hb hby at_13) rfl  (l' := #[.val (.int p0), .val (.int p1), .val (.int p2), .val (.int p3), .val (.int p4), .val (.int p5), .val (.int (p0 &&& (3 : Int32))), .val (.int (p1 &&& (3 : Int32))), .val (.int (p3 &&& (3 : Int32))), .unset, .unset, .unset, .unset, .unset, .unset, .unset, .unset, .unset]) rfl ks_) ?_
  refine go (u' := s₁.setTop (mkF m 17 #[.val (.int p0), .val (.int p1), .val (.int p2), .val (.int p3), .val (.int p4), .val (.int p5), .val (.int (p0 &&& (3 : Int32))), .val (.int (p1 &&& (3 : Int32))), .val (.int (p3 &&& (3 : Int32))), .unset, .unset, .unset, .unset, .unset, .unset, .unset, .unset, .unset] [(.int p4)])) (fun _ ks_ => XS.iload X0.here hx rfl (hb hby at_15) rfl  ks_) ?_
  refine go (u' := s₁.setTop (mkF m 18 #[.val (.int p0), .val (.int p1), .val (.int p2), .val (.int p3), .val (.int p4), .val (.int p5), .val (.int (p0 &&& (3 : Int32))), .val (.int (p1 &&& (3 : Int32))), .val (.int (p3 &&& (3 : Int32))), .unset, .unset, .unset, .unset, .unset, .unset, .unset, .unset, .unset] [(.int (3 : Int32)), (.int p4)])) (fun _ ks_ => XS.iconst X0.here hx rfl (hb hby at_17) ks_) ?_
  refine go (u' := s₁.setTop (mkF m 19 #[.val (.int p0), .val (.int p1), .val (.int p2), .val (.int p3), .val (.int p4), .val (.int p5), .val (.int (p0 &&& (3 : Int32))), .val (.int (p1 &&& (3 : Int32))), .val (.int (p3 &&& (3 : Int32))), .unset, .unset, .unset, .unset, .unset, .unset, .unset, .unset, .unset] [(.int (p4 &&& (3 : Int32)))])) (fun _ ks_ => XS.iand X0.here hx rfl (hb hby at_18) rfl ks_) ?_
  refine go (u' := s₁.setTop (mkF m 21 #[.val (.int p0), .val (.int p1), .val (.int p2), .val (.int p3), .val (.int p4), .val (.int p5), .val (.int (p0 &&& (3 : Int32))), .val (.int (p1 &&& (3 : Int32))), .val (.int (p3 &&& (3 : Int32))), .val (.int (p4 &&& (3 : Int32))), .unset, .unset, .unset, .unset, .unset, .unset, .unset, .unset] [])) (fun _ ks_ => XS.istore X0.here hx rfl (hb hby at_19) rfl  (l' := #[.val (.int p0), .val (.int p1), .val (.int p2), .val (.int p3), .val (.int p4), .val (.int p5), .val (.int (p0 &&& (3 : Int32))), .val (.int (p1 &&& (3 : Int32))), .val (.int (p3 &&& (3 : Int32))), .val (.int (p4 &&& (3 : Int32))), .unset, .unset, .unset, .unset, .unset, .unset, .unset, .unset]) rfl ks_) ?_
  refine go (u' := s₁.setTop (mkF m 23 #[.val (.int p0), .val (.int p1), .val (.int p2), .val (.int p3), .val (.int p4), .val (.int p5), .val (.int (p0 &&& (3 : Int32))), .val (.int (p1 &&& (3 : Int32))), .val (.int (p3 &&& (3 : Int32))), .val (.int (p4 &&& (3 : Int32))), .unset, .unset, .unset, .unset, .unset, .unset, .unset, .unset] [(.int p5)])) (fun _ ks_ => XS.iload X0.here hx rfl (hb hby at_21) rfl  ks_) ?_
  refine go (u' := s₁.setTop (mkF m 24 #[.val (.int p0), .val (.int p1), .val (.int p2), .val (.int p3), .val (.int p4), .val (.int p5), .val (.int (p0 &&& (3 : Int32))), .val (.int (p1 &&& (3 : Int32))), .val (.int (p3 &&& (3 : Int32))), .val (.int (p4 &&& (3 : Int32))), .unset, .unset, .unset, .unset, .unset, .unset, .unset, .unset] [(.int (3 : Int32)), (.int p5)])) (fun _ ks_ => XS.iconst X0.here hx rfl (hb hby at_23) ks_) ?_
  refine go (u' := s₁.setTop (mkF m 25 #[.val (.int p0), .val (.int p1), .val (.int p2), .val (.int p3), .val (.int p4), .val (.int p5), .val (.int (p0 &&& (3 : Int32))), .val (.int (p1 &&& (3 : Int32))), .val (.int (p3 &&& (3 : Int32))), .val (.int (p4 &&& (3 : Int32))), .unset, .unset, .unset, .unset, .unset, .unset, .unset, .unset] [(.int (p5 &&& (3 : Int32)))])) (fun _ ks_ => XS.iand X0.here hx rfl (hb hby at_24) rfl ks_) ?_
  refine go (u' := s₁.setTop (mkF m 27 #[.val (.int p0), .val (.int p1), .val (.int p2), .val (.int p3), .val (.int p4), .val (.int p5), .val (.int (p0 &&& (3 : Int32))), .val (.int (p1 &&& (3 : Int32))), .val (.int (p3 &&& (3 : Int32))), .val (.int (p4 &&& (3 : Int32))), .val (.int (p5 &&& (3 : Int32))), .unset, .unset, .unset, .unset, .unset, .unset, .unset] [])) (fun _ ks_ => XS.istore X0.here hx rfl (hb hby at_25) rfl  (l' := #[.val (.int p0), .val (.int p1), .val (.int p2), .val (.int p3), .val (.int p4), .val (.int p5), .val (.int (p0 &&& (3 : Int32))), .val (.int (p1 &&& (3 : Int32))), .val (.int (p3 &&& (3 : Int32))), .val (.int (p4 &&& (3 : Int32))), .val (.int (p5 &&& (3 : Int32))), .unset, .unset, .unset, .unset, .unset, .unset, .unset]) rfl ks_) ?_
  refine go (u' := s₁.setTop (mkF m 28 #[.val (.int p0), .val (.int p1), .val (.int p2), .val (.int p3), .val (.int p4), .val (.int p5), .val (.int (p0 &&& (3 : Int32))), .val (.int (p1 &&& (3 : Int32))), .val (.int (p3 &&& (3 : Int32))), .val (.int (p4 &&& (3 : Int32))), .val (.int (p5 &&& (3 : Int32))), .unset, .unset, .unset, .unset, .unset, .unset, .unset] [(.int p2)])) (fun _ ks_ => XS.iloadN X0.here hx rfl (hb hby at_27) rfl  ks_) ?_
  refine go (u' := s₁.setTop (mkF m 29 #[.val (.int p0), .val (.int p1), .val (.int p2), .val (.int p3), .val (.int p4), .val (.int p5), .val (.int (p0 &&& (3 : Int32))), .val (.int (p1 &&& (3 : Int32))), .val (.int (p3 &&& (3 : Int32))), .val (.int (p4 &&& (3 : Int32))), .val (.int (p5 &&& (3 : Int32))), .unset, .unset, .unset, .unset, .unset, .unset, .unset] [(.int (3 : Int32)), (.int p2)])) (fun _ ks_ => XS.iconst X0.here hx rfl (hb hby at_28) ks_) ?_
  refine go (u' := s₁.setTop (mkF m 30 #[.val (.int p0), .val (.int p1), .val (.int p2), .val (.int p3), .val (.int p4), .val (.int p5), .val (.int (p0 &&& (3 : Int32))), .val (.int (p1 &&& (3 : Int32))), .val (.int (p3 &&& (3 : Int32))), .val (.int (p4 &&& (3 : Int32))), .val (.int (p5 &&& (3 : Int32))), .unset, .unset, .unset, .unset, .unset, .unset, .unset] [(.int (p2 &&& (3 : Int32)))])) (fun _ ks_ => XS.iand X0.here hx rfl (hb hby at_29) rfl ks_) ?_
  refine go (u' := s₁.setTop (mkF m 32 #[.val (.int p0), .val (.int p1), .val (.int p2), .val (.int p3), .val (.int p4), .val (.int p5), .val (.int (p0 &&& (3 : Int32))), .val (.int (p1 &&& (3 : Int32))), .val (.int (p3 &&& (3 : Int32))), .val (.int (p4 &&& (3 : Int32))), .val (.int (p5 &&& (3 : Int32))), .val (.int (p2 &&& (3 : Int32))), .unset, .unset, .unset, .unset, .unset, .unset] [])) (fun _ ks_ => XS.istore X0.here hx rfl (hb hby at_30) rfl  (l' := #[.val (.int p0), .val (.int p1), .val (.int p2), .val (.int p3), .val (.int p4), .val (.int p5), .val (.int (p0 &&& (3 : Int32))), .val (.int (p1 &&& (3 : Int32))), .val (.int (p3 &&& (3 : Int32))), .val (.int (p4 &&& (3 : Int32))), .val (.int (p5 &&& (3 : Int32))), .val (.int (p2 &&& (3 : Int32))), .unset, .unset, .unset, .unset, .unset, .unset]) rfl ks_) ?_
  refine go (u' := s₁.setTop (mkF m 33 #[.val (.int p0), .val (.int p1), .val (.int p2), .val (.int p3), .val (.int p4), .val (.int p5), .val (.int (p0 &&& (3 : Int32))), .val (.int (p1 &&& (3 : Int32))), .val (.int (p3 &&& (3 : Int32))), .val (.int (p4 &&& (3 : Int32))), .val (.int (p5 &&& (3 : Int32))), .val (.int (p2 &&& (3 : Int32))), .unset, .unset, .unset, .unset, .unset, .unset] [(.int (2 : Int32))])) (fun _ ks_ => XS.iconst X0.here hx rfl (hb hby at_32) ks_) ?_
  obtain ⟨T1, h1, k1, X1, e1, E1, A1, st1⟩ := newP X0 hx hZ (ww hw 0 rfl) e0 (g := (mkF m 33 #[.val (.int p0), .val (.int p1), .val (.int p2), .val (.int p3), .val (.int p4), .val (.int p5), .val (.int (p0 &&& (3 : Int32))), .val (.int (p1 &&& (3 : Int32))), .val (.int (p3 &&& (3 : Int32))), .val (.int (p4 &&& (3 : Int32))), .val (.int (p5 &&& (3 : Int32))), .val (.int (p2 &&& (3 : Int32))), .unset, .unset, .unset, .unset, .unset, .unset] [(.int (2 : Int32))])) rfl (hb hby at_33) rfl (by decide) (cap := 2) (by decide) (by decide) (by decide) (by decide)
  obtain ⟨b1, g1⟩ : ∃ z, z = h0.size := ⟨_, rfl⟩
  rw [← g1] at A1 st1
  have g_b1 : n0 ≤ b1 := Nat.le_trans Z0 (Nat.le_of_eq g1.symm)
  have sz_b1 : h0.size ≤ b1 := Nat.le_trans (Keep.refl h0 []).1 (Nat.le_of_eq g1.symm)
  have K1 : Keep h0 h1 [] := (Keep.refl h0 []).ext E1
  have Z1 : n0 ≤ h1.size := Nat.le_trans Z0 E1.1
  have Fa2 : PI Z h1 b1 .int 2 (own_l [(0 : Int32), (0 : Int32)]) := PI.newL A1 (by decide) rfl rfl
  refine go (u' := T1.setTop (mkF m 35 #[.val (.int p0), .val (.int p1), .val (.int p2), .val (.int p3), .val (.int p4), .val (.int p5), .val (.int (p0 &&& (3 : Int32))), .val (.int (p1 &&& (3 : Int32))), .val (.int (p3 &&& (3 : Int32))), .val (.int (p4 &&& (3 : Int32))), .val (.int (p5 &&& (3 : Int32))), .val (.int (p2 &&& (3 : Int32))), .unset, .unset, .unset, .unset, .unset, .unset] [(.ref b1)])) st1 ?_
  refine go (u' := T1.setTop (mkF m 36 #[.val (.int p0), .val (.int p1), .val (.int p2), .val (.int p3), .val (.int p4), .val (.int p5), .val (.int (p0 &&& (3 : Int32))), .val (.int (p1 &&& (3 : Int32))), .val (.int (p3 &&& (3 : Int32))), .val (.int (p4 &&& (3 : Int32))), .val (.int (p5 &&& (3 : Int32))), .val (.int (p2 &&& (3 : Int32))), .unset, .unset, .unset, .unset, .unset, .unset] [(.ref b1), (.ref b1)])) (fun _ ks_ => XS.dup X1.here hx rfl (hb hby at_35) rfl rfl ks_) ?_
  refine go (u' := T1.setTop (mkF m 37 #[.val (.int p0), .val (.int p1), .val (.int p2), .val (.int p3), .val (.int p4), .val (.int p5), .val (.int (p0 &&& (3 : Int32))), .val (.int (p1 &&& (3 : Int32))), .val (.int (p3 &&& (3 : Int32))), .val (.int (p4 &&& (3 : Int32))), .val (.int (p5 &&& (3 : Int32))), .val (.int (p2 &&& (3 : Int32))), .unset, .unset, .unset, .unset, .unset, .unset] [(.int (0 : Int32)), (.ref b1), (.ref b1)])) (fun _ ks_ => XS.iconst X1.here hx rfl (hb hby at_36) ks_) ?_
  refine go (u' := T1.setTop (mkF m 39 #[.val (.int p0), .val (.int p1), .val (.int p2), .val (.int p3), .val (.int p4), .val (.int p5), .val (.int (p0 &&& (3 : Int32))), .val (.int (p1 &&& (3 : Int32))), .val (.int (p3 &&& (3 : Int32))), .val (.int (p4 &&& (3 : Int32))), .val (.int (p5 &&& (3 : Int32))), .val (.int (p2 &&& (3 : Int32))), .unset, .unset, .unset, .unset, .unset, .unset] [(.int (p0 &&& (3 : Int32))), (.int (0 : Int32)), (.ref b1), (.ref b1)])) (fun _ ks_ => XS.iload X1.here hx rfl (hb hby at_37) rfl  ks_) ?_
  obtain ⟨T3, h3, X3, e3, W3, st3⟩ := own_iastore X1 hx hZ e1 Fa2 (j := (0 : Int32)) (x := (p0 &&& (3 : Int32)))  (by decide) (by decide) (f := (mkF m 39 #[.val (.int p0), .val (.int p1), .val (.int p2), .val (.int p3), .val (.int p4), .val (.int p5), .val (.int (p0 &&& (3 : Int32))), .val (.int (p1 &&& (3 : Int32))), .val (.int (p3 &&& (3 : Int32))), .val (.int (p4 &&& (3 : Int32))), .val (.int (p5 &&& (3 : Int32))), .val (.int (p2 &&& (3 : Int32))), .unset, .unset, .unset, .unset, .unset, .unset] [(.int (p0 &&& (3 : Int32))), (.int (0 : Int32)), (.ref b1), (.ref b1)])) rfl rfl (hb hby at_39)
  have N3 := Fr.snoc X3 N0 g_b1
  have K3 : Keep h0 h3 [] := K1.wr W3 (Or.inr sz_b1)
  have Z3 : n0 ≤ h3.size := Nat.le_trans Z1 (Keep.of_wr W3).1
  have Fa4 : PI Z h3 b1 .int 2 (own_l [(p0 &&& (3 : Int32)), (0 : Int32)]) := Fa2.setL (by decide) W3 rfl (Nat.le_of_ble_eq_true rfl) rfl
  refine go (u' := T3.setTop (mkF m 40 #[.val (.int p0), .val (.int p1), .val (.int p2), .val (.int p3), .val (.int p4), .val (.int p5), .val (.int (p0 &&& (3 : Int32))), .val (.int (p1 &&& (3 : Int32))), .val (.int (p3 &&& (3 : Int32))), .val (.int (p4 &&& (3 : Int32))), .val (.int (p5 &&& (3 : Int32))), .val (.int (p2 &&& (3 : Int32))), .unset, .unset, .unset, .unset, .unset, .unset] [(.ref b1)])) st3 ?_
  refine go (u' := T3.setTop (mkF m 41 #[.val (.int p0), .val (.int p1), .val (.int p2), .val (.int p3), .val (.int p4), .val (.int p5), .val (.int (p0 &&& (3 : Int32))), .val (.int (p1 &&& (3 : Int32))), .val (.int (p3 &&& (3 : Int32))), .val (.int (p4 &&& (3 : Int32))), .val (.int (p5 &&& (3 : Int32))), .val (.int (p2 &&& (3 : Int32))), .unset, .unset, .unset, .unset, .unset, .unset] [(.ref b1), (.ref b1)])) (fun _ ks_ => XS.dup X3.here hx rfl (hb hby at_40) rfl rfl ks_) ?_
  refine go (u' := T3.setTop (mkF m 42 #[.val (.int p0), .val (.int p1), .val (.int p2), .val (.int p3), .val (.int p4), .val (.int p5), .val (.int (p0 &&& (3 : Int32))), .val (.int (p1 &&& (3 : Int32))), .val (.int (p3 &&& (3 : Int32))), .val (.int (p4 &&& (3 : Int32))), .val (.int (p5 &&& (3 : Int32))), .val (.int (p2 &&& (3 : Int32))), .unset, .unset, .unset, .unset, .unset, .unset] [(.int (1 : Int32)), (.ref b1), (.ref b1)])) (fun _ ks_ => XS.iconst X3.here hx rfl (hb hby at_41) ks_) ?_
  refine go (u' := T3.setTop (mkF m 44 #[.val (.int p0), .val (.int p1), .val (.int p2), .val (.int p3), .val (.int p4), .val (.int p5), .val (.int (p0 &&& (3 : Int32))), .val (.int (p1 &&& (3 : Int32))), .val (.int (p3 &&& (3 : Int32))), .val (.int (p4 &&& (3 : Int32))), .val (.int (p5 &&& (3 : Int32))), .val (.int (p2 &&& (3 : Int32))), .unset, .unset, .unset, .unset, .unset, .unset] [(.int (p1 &&& (3 : Int32))), (.int (1 : Int32)), (.ref b1), (.ref b1)])) (fun _ ks_ => XS.iload X3.here hx rfl (hb hby at_42) rfl  ks_) ?_
  obtain ⟨T5, h5, X5, e5, W5, st5⟩ := own_iastore X3 hx hZ e3 Fa4 (j := (1 : Int32)) (x := (p1 &&& (3 : Int32)))  (by decide) (by decide) (f := (mkF m 44 #[.val (.int p0), .val (.int p1), .val (.int p2), .val (.int p3), .val (.int p4), .val (.int p5), .val (.int (p0 &&& (3 : Int32))), .val (.int (p1 &&& (3 : Int32))), .val (.int (p3 &&& (3 : Int32))), .val (.int (p4 &&& (3 : Int32))), .val (.int (p5 &&& (3 : Int32))), .val (.int (p2 &&& (3 : Int32))), .unset, .unset, .unset, .unset, .unset, .unset] [(.int (p1 &&& (3 : Int32))), (.int (1 : Int32)), (.ref b1), (.ref b1)])) rfl rfl (hb hby at_44)
  have N5 := Fr.snoc X5 N3 g_b1
  have K5 : Keep h0 h5 [] := K3.wr W5 (Or.inr sz_b1)
  have Z5 : n0 ≤ h5.size := Nat.le_trans Z3 (Keep.of_wr W5).1
  have Fa6 : PI Z h5 b1 .int 2 (own_l [(p0 &&& (3 : Int32)), (p1 &&& (3 : Int32))]) := Fa4.setL (by decide) W5 rfl (Nat.le_of_ble_eq_true rfl) rfl
  refine go (u' := T5.setTop (mkF m 45 #[.val (.int p0), .val (.int p1), .val (.int p2), .val (.int p3), .val (.int p4), .val (.int p5), .val (.int (p0 &&& (3 : Int32))), .val (.int (p1 &&& (3 : Int32))), .val (.int (p3 &&& (3 : Int32))), .val (.int (p4 &&& (3 : Int32))), .val (.int (p5 &&& (3 : Int32))), .val (.int (p2 &&& (3 : Int32))), .unset, .unset, .unset, .unset, .unset, .unset] [(.ref b1)])) st5 ?_
  refine go (u' := T5.setTop (mkF m 47 #[.val (.int p0), .val (.int p1), .val (.int p2), .val (.int p3), .val (.int p4), .val (.int p5), .val (.int (p0 &&& (3 : Int32))), .val (.int (p1 &&& (3 : Int32))), .val (.int (p3 &&& (3 : Int32))), .val (.int (p4 &&& (3 : Int32))), .val (.int (p5 &&& (3 : Int32))), .val (.int (p2 &&& (3 : Int32))), .val (.ref b1), .unset, .unset, .unset, .unset, .unset] [])) (fun _ ks_ => XS.astore X5.here hx rfl (hb hby at_45) rfl rfl (l' := #[.val (.int p0), .val (.int p1), .val (.int p2), .val (.int p3), .val (.int p4), .val (.int p5), .val (.int (p0 &&& (3 : Int32))), .val (.int (p1 &&& (3 : Int32))), .val (.int (p3 &&& (3 : Int32))), .val (.int (p4 &&& (3 : Int32))), .val (.int (p5 &&& (3 : Int32))), .val (.int (p2 &&& (3 : Int32))), .val (.ref b1), .unset, .unset, .unset, .unset, .unset]) rfl ks_) ?_
  refine go (u' := T5.setTop (mkF m 48 #[.val (.int p0), .val (.int p1), .val (.int p2), .val (.int p3), .val (.int p4), .val (.int p5), .val (.int (p0 &&& (3 : Int32))), .val (.int (p1 &&& (3 : Int32))), .val (.int (p3 &&& (3 : Int32))), .val (.int (p4 &&& (3 : Int32))), .val (.int (p5 &&& (3 : Int32))), .val (.int (p2 &&& (3 : Int32))), .val (.ref b1), .unset, .unset, .unset, .unset, .unset] [(.int (3 : Int32))])) (fun _ ks_ => XS.iconst X5.here hx rfl (hb hby at_47) ks_) ?_
  obtain ⟨T7, h7, k7, X7, e7, E7, A7, st7⟩ := newP X5 hx hZ (ww hw 0 rfl) e5 (g := (mkF m 48 #[.val (.int p0), .val (.int p1), .val (.int p2), .val (.int p3), .val (.int p4), .val (.int p5), .val (.int (p0 &&& (3 : Int32))), .val (.int (p1 &&& (3 : Int32))), .val (.int (p3 &&& (3 : Int32))), .val (.int (p4 &&& (3 : Int32))), .val (.int (p5 &&& (3 : Int32))), .val (.int (p2 &&& (3 : Int32))), .val (.ref b1), .unset, .unset, .unset, .unset, .unset] [(.int (3 : Int32))])) rfl (hb hby at_48) rfl (by decide) (cap := 3) (by decide) (by decide) (by decide) (by decide)
  obtain ⟨b7, g7⟩ : ∃ z, z = h5.size := ⟨_, rfl⟩
  rw [← g7] at A7 st7
  have ne_b1_b7 : b1 ≠ b7 := Nat.ne_of_lt (Nat.lt_of_lt_of_le Fa6.lt (Nat.le_of_eq g7.symm))
  have g_b7 : n0 ≤ b7 := Nat.le_trans Z5 (Nat.le_of_eq g7.symm)
  have sz_b7 : h0.size ≤ b7 := Nat.le_trans K5.1 (Nat.le_of_eq g7.symm)
  have K7 : Keep h0 h7 [] := K5.ext E7
  have Fa8 : PI Z h7 b1 .int 2 (own_l [(p0 &&& (3 : Int32)), (p1 &&& (3 : Int32))]) := Fa6.ext E7
  have Z7 : n0 ≤ h7.size := Nat.le_trans Z5 E7.1
  have Fa9 : PI Z h7 b7 .int 3 (own_l [(0 : Int32), (0 : Int32), (0 : Int32)]) := PI.newL A7 (by decide) rfl rfl
  refine go (u' := T7.setTop (mkF m 50 #[.val (.int p0), .val (.int p1), .val (.int p2), .val (.int p3), .val (.int p4), .val (.int p5), .val (.int (p0 &&& (3 : Int32))), .val (.int (p1 &&& (3 : Int32))), .val (.int (p3 &&& (3 : Int32))), .val (.int (p4 &&& (3 : Int32))), .val (.int (p5 &&& (3 : Int32))), .val (.int (p2 &&& (3 : Int32))), .val (.ref b1), .unset, .unset, .unset, .unset, .unset] [(.ref b7)])) st7 ?_
  refine go (u' := T7.setTop (mkF m 51 #[.val (.int p0), .val (.int p1), .val (.int p2), .val (.int p3), .val (.int p4), .val (.int p5), .val (.int (p0 &&& (3 : Int32))), .val (.int (p1 &&& (3 : Int32))), .val (.int (p3 &&& (3 : Int32))), .val (.int (p4 &&& (3 : Int32))), .val (.int (p5 &&& (3 : Int32))), .val (.int (p2 &&& (3 : Int32))), .val (.ref b1), .unset, .unset, .unset, .unset, .unset] [(.ref b7), (.ref b7)])) (fun _ ks_ => XS.dup X7.here hx rfl (hb hby at_50) rfl rfl ks_) ?_
  refine go (u' := T7.setTop (mkF m 52 #[.val (.int p0), .val (.int p1), .val (.int p2), .val (.int p3), .val (.int p4), .val (.int p5), .val (.int (p0 &&& (3 : Int32))), .val (.int (p1 &&& (3 : Int32))), .val (.int (p3 &&& (3 : Int32))), .val (.int (p4 &&& (3 : Int32))), .val (.int (p5 &&& (3 : Int32))), .val (.int (p2 &&& (3 : Int32))), .val (.ref b1), .unset, .unset, .unset, .unset, .unset] [(.int (0 : Int32)), (.ref b7), (.ref b7)])) (fun _ ks_ => XS.iconst X7.here hx rfl (hb hby at_51) ks_) ?_
  refine go (u' := T7.setTop (mkF m 54 #[.val (.int p0), .val (.int p1), .val (.int p2), .val (.int p3), .val (.int p4), .val (.int p5), .val (.int (p0 &&& (3 : Int32))), .val (.int (p1 &&& (3 : Int32))), .val (.int (p3 &&& (3 : Int32))), .val (.int (p4 &&& (3 : Int32))), .val (.int (p5 &&& (3 : Int32))), .val (.int (p2 &&& (3 : Int32))), .val (.ref b1), .unset, .unset, .unset, .unset, .unset] [(.int (p3 &&& (3 : Int32))), (.int (0 : Int32)), (.ref b7), (.ref b7)])) (fun _ ks_ => XS.iload X7.here hx rfl (hb hby at_52) rfl  ks_) ?_
  obtain ⟨T10, h10, X10, e10, W10, st10⟩ := own_iastore X7 hx hZ e7 Fa9 (j := (0 : Int32)) (x := (p3 &&& (3 : Int32)))  (by decide) (by decide) (f := (mkF m 54 #[.val (.int p0), .val (.int p1), .val (.int p2), .val (.int p3), .val (.int p4), .val (.int p5), .val (.int (p0 &&& (3 : Int32))), .val (.int (p1 &&& (3 : Int32))), .val (.int (p3 &&& (3 : Int32))), .val (.int (p4 &&& (3 : Int32))), .val (.int (p5 &&& (3 : Int32))), .val (.int (p2 &&& (3 : Int32))), .val (.ref b1), .unset, .unset, .unset, .unset, .unset] [(.int (p3 &&& (3 : Int32))), (.int (0 : Int32)), (.ref b7), (.ref b7)])) rfl rfl (hb hby at_54)
  have N10 := Fr.snoc X10 N5 g_b7
  have K10 : Keep h0 h10 [] := K7.wr W10 (Or.inr sz_b7)
  have Z10 : n0 ≤ h10.size := Nat.le_trans Z7 (Keep.of_wr W10).1
  have Fa11 : PI Z h10 b1 .int 2 (own_l [(p0 &&& (3 : Int32)), (p1 &&& (3 : Int32))]) := Fa8.other W10 ne_b1_b7
  have Fa12 : PI Z h10 b7 .int 3 (own_l [(p3 &&& (3 : Int32)), (0 : Int32), (0 : Int32)]) := Fa9.setL (by decide) W10 rfl (Nat.le_of_ble_eq_true rfl) rfl
  refine go (u' := T10.setTop (mkF m 55 #[.val (.int p0), .val (.int p1), .val (.int p2), .val (.int p3), .val (.int p4), .val (.int p5), .val (.int (p0 &&& (3 : Int32))), .val (.int (p1 &&& (3 : Int32))), .val (.int (p3 &&& (3 : Int32))), .val (.int (p4 &&& (3 : Int32))), .val (.int (p5 &&& (3 : Int32))), .val (.int (p2 &&& (3 : Int32))), .val (.ref b1), .unset, .unset, .unset, .unset, .unset] [(.ref b7)])) st10 ?_
  refine go (u' := T10.setTop (mkF m 56 #[.val (.int p0), .val (.int p1), .val (.int p2), .val (.int p3), .val (.int p4), .val (.int p5), .val (.int (p0 &&& (3 : Int32))), .val (.int (p1 &&& (3 : Int32))), .val (.int (p3 &&& (3 : Int32))), .val (.int (p4 &&& (3 : Int32))), .val (.int (p5 &&& (3 : Int32))), .val (.int (p2 &&& (3 : Int32))), .val (.ref b1), .unset, .unset, .unset, .unset, .unset] [(.ref b7), (.ref b7)])) (fun _ ks_ => XS.dup X10.here hx rfl (hb hby at_55) rfl rfl ks_) ?_
  refine go (u' := T10.setTop (mkF m 57 #[.val (.int p0), .val (.int p1), .val (.int p2), .val (.int p3), .val (.int p4), .val (.int p5), .val (.int (p0 &&& (3 : Int32))), .val (.int (p1 &&& (3 : Int32))), .val (.int (p3 &&& (3 : Int32))), .val (.int (p4 &&& (3 : Int32))), .val (.int (p5 &&& (3 : Int32))), .val (.int (p2 &&& (3 : Int32))), .val (.ref b1), .unset, .unset, .unset, .unset, .unset] [(.int (1 : Int32)), (.ref b7), (.ref b7)])) (fun _ ks_ => XS.iconst X10.here hx rfl (hb hby at_56) ks_) ?_
  refine go (u' := T10.setTop (mkF m 59 #[.val (.int p0), .val (.int p1), .val (.int p2), .val (.int p3), .val (.int p4), .val (.int p5), .val (.int (p0 &&& (3 : Int32))), .val (.int (p1 &&& (3 : Int32))), .val (.int (p3 &&& (3 : Int32))), .val (.int (p4 &&& (3 : Int32))), .val (.int (p5 &&& (3 : Int32))), .val (.int (p2 &&& (3 : Int32))), .val (.ref b1), .unset, .unset, .unset, .unset, .unset] [(.int (p4 &&& (3 : Int32))), (.int (1 : Int32)), (.ref b7), (.ref b7)])) (fun _ ks_ => XS.iload X10.here hx rfl (hb hby at_57) rfl  ks_) ?_
  obtain ⟨T13, h13, X13, e13, W13, st13⟩ := own_iastore X10 hx hZ e10 Fa12 (j := (1 : Int32)) (x := (p4 &&& (3 : Int32)))  (by decide) (by decide) (f := (mkF m 59 #[.val (.int p0), .val (.int p1), .val (.int p2), .val (.int p3), .val (.int p4), .val (.int p5), .val (.int (p0 &&& (3 : Int32))), .val (.int (p1 &&& (3 : Int32))), .val (.int (p3 &&& (3 : Int32))), .val (.int (p4 &&& (3 : Int32))), .val (.int (p5 &&& (3 : Int32))), .val (.int (p2 &&& (3 : Int32))), .val (.ref b1), .unset, .unset, .unset, .unset, .unset] [(.int (p4 &&& (3 : Int32))), (.int (1 : Int32)), (.ref b7), (.ref b7)])) rfl rfl (hb hby at_59)
  have N13 := Fr.snoc X13 N10 g_b7
  have K13 : Keep h0 h13 [] := K10.wr W13 (Or.inr sz_b7)
  have Z13 : n0 ≤ h13.size := Nat.le_trans Z10 (Keep.of_wr W13).1
  have Fa14 : PI Z h13 b1 .int 2 (own_l [(p0 &&& (3 : Int32)), (p1 &&& (3 : Int32))]) := Fa11.other W13 ne_b1_b7
  have Fa15 : PI Z h13 b7 .int 3 (own_l [(p3 &&& (3 : Int32)), (p4 &&& (3 : Int32)), (0 : Int32)]) := Fa12.setL (by decide) W13 rfl (Nat.le_of_ble_eq_true rfl) rfl
  refine go (u' := T13.setTop (mkF m 60 #[.val (.int p0), .val (.int p1), .val (.int p2), .val (.int p3), .val (.int p4), .val (.int p5), .val (.int (p0 &&& (3 : Int32))), .val (.int (p1 &&& (3 : Int32))), .val (.int (p3 &&& (3 : Int32))), .val (.int (p4 &&& (3 : Int32))), .val (.int (p5 &&& (3 : Int32))), .val (.int (p2 &&& (3 : Int32))), .val (.ref b1), .unset, .unset, .unset, .unset, .unset] [(.ref b7)])) st13 ?_
  refine go (u' := T13.setTop (mkF m 61 #[.val (.int p0), .val (.int p1), .val (.int p2), .val (.int p3), .val (.int p4), .val (.int p5), .val (.int (p0 &&& (3 : Int32))), .val (.int (p1 &&& (3 : Int32))), .val (.int (p3 &&& (3 : Int32))), .val (.int (p4 &&& (3 : Int32))), .val (.int (p5 &&& (3 : Int32))), .val (.int (p2 &&& (3 : Int32))), .val (.ref b1), .unset, .unset, .unset, .unset, .unset] [(.ref b7), (.ref b7)])) (fun _ ks_ => XS.dup X13.here hx rfl (hb hby at_60) rfl rfl ks_) ?_
  refine go (u' := T13.setTop (mkF m 62 #[.val (.int p0), .val (.int p1), .val (.int p2), .val (.int p3), .val (.int p4), .val (.int p5), .val (.int (p0 &&& (3 : Int32))), .val (.int (p1 &&& (3 : Int32))), .val (.int (p3 &&& (3 : Int32))), .val (.int (p4 &&& (3 : Int32))), .val (.int (p5 &&& (3 : Int32))), .val (.int (p2 &&& (3 : Int32))), .val (.ref b1), .unset, .unset, .unset, .unset, .unset] [(.int (2 : Int32)), (.ref b7), (.ref b7)])) (fun _ ks_ => XS.iconst X13.here hx rfl (hb hby at_61) ks_) ?_
  refine go (u' := T13.setTop (mkF m 64 #[.val (.int p0), .val (.int p1), .val (.int p2), .val (.int p3), .val (.int p4), .val (.int p5), .val (.int (p0 &&& (3 : Int32))), .val (.int (p1 &&& (3 : Int32))), .val (.int (p3 &&& (3 : Int32))), .val (.int (p4 &&& (3 : Int32))), .val (.int (p5 &&& (3 : Int32))), .val (.int (p2 &&& (3 : Int32))), .val (.ref b1), .unset, .unset, .unset, .unset, .unset] [(.int (p5 &&& (3 : Int32))), (.int (2 : Int32)), (.ref b7), (.ref b7)])) (fun _ ks_ => XS.iload X13.here hx rfl (hb hby at_62) rfl  ks_) ?_
  obtain ⟨T16, h16, X16, e16, W16, st16⟩ := own_iastore X13 hx hZ e13 Fa15 (j := (2 : Int32)) (x := (p5 &&& (3 : Int32)))  (by decide) (by decide) (f := (mkF m 64 #[.val (.int p0), .val (.int p1), .val (.int p2), .val (.int p3), .val (.int p4), .val (.int p5), .val (.int (p0 &&& (3 : Int32))), .val (.int (p1 &&& (3 : Int32))), .val (.int (p3 &&& (3 : Int32))), .val (.int (p4 &&& (3 : Int32))), .val (.int (p5 &&& (3 : Int32))), .val (.int (p2 &&& (3 : Int32))), .val (.ref b1), .unset, .unset, .unset, .unset, .unset] [(.int (p5 &&& (3 : Int32))), (.int (2 : Int32)), (.ref b7), (.ref b7)])) rfl rfl (hb hby at_64)
  have N16 := Fr.snoc X16 N13 g_b7
  have K16 : Keep h0 h16 [] := K13.wr W16 (Or.inr sz_b7)
  have Z16 : n0 ≤ h16.size := Nat.le_trans Z13 (Keep.of_wr W16).1
  have Fa17 : PI Z h16 b1 .int 2 (own_l [(p0 &&& (3 : Int32)), (p1 &&& (3 : Int32))]) := Fa14.other W16 ne_b1_b7
  have Fa18 : PI Z h16 b7 .int 3 (own_l [(p3 &&& (3 : Int32)), (p4 &&& (3 : Int32)), (p5 &&& (3 : Int32))]) := Fa15.setL (by decide) W16 rfl (Nat.le_of_ble_eq_true rfl) rfl
  refine go (u' := T16.setTop (mkF m 65 #[.val (.int p0), .val (.int p1), .val (.int p2), .val (.int p3), .val (.int p4), .val (.int p5), .val (.int (p0 &&& (3 : Int32))), .val (.int (p1 &&& (3 : Int32))), .val (.int (p3 &&& (3 : Int32))), .val (.int (p4 &&& (3 : Int32))), .val (.int (p5 &&& (3 : Int32))), .val (.int (p2 &&& (3 : Int32))), .val (.ref b1), .unset, .unset, .unset, .unset, .unset] [(.ref b7)])) st16 ?_
  refine go (u' := T16.setTop (mkF m 67 #[.val (.int p0), .val (.int p1), .val (.int p2), .val (.int p3), .val (.int p4), .val (.int p5), .val (.int (p0 &&& (3 : Int32))), .val (.int (p1 &&& (3 : Int32))), .val (.int (p3 &&& (3 : Int32))), .val (.int (p4 &&& (3 : Int32))), .val (.int (p5 &&& (3 : Int32))), .val (.int (p2 &&& (3 : Int32))), .val (.ref b1), .val (.ref b7), .unset, .unset, .unset, .unset] [])) (fun _ ks_ => XS.astore X16.here hx rfl (hb hby at_65) rfl rfl (l' := #[.val (.int p0), .val (.int p1), .val (.int p2), .val (.int p3), .val (.int p4), .val (.int p5), .val (.int (p0 &&& (3 : Int32))), .val (.int (p1 &&& (3 : Int32))), .val (.int (p3 &&& (3 : Int32))), .val (.int (p4 &&& (3 : Int32))), .val (.int (p5 &&& (3 : Int32))), .val (.int (p2 &&& (3 : Int32))), .val (.ref b1), .val (.ref b7), .unset, .unset, .unset, .unset]) rfl ks_) ?_
  refine go (u' := T16.setTop (mkF m 68 #[.val (.int p0), .val (.int p1), .val (.int p2), .val (.int p3), .val (.int p4), .val (.int p5), .val (.int (p0 &&& (3 : Int32))), .val (.int (p1 &&& (3 : Int32))), .val (.int (p3 &&& (3 : Int32))), .val (.int (p4 &&& (3 : Int32))), .val (.int (p5 &&& (3 : Int32))), .val (.int (p2 &&& (3 : Int32))), .val (.ref b1), .val (.ref b7), .unset, .unset, .unset, .unset] [(.int (5 : Int32))])) (fun _ ks_ => XS.iconst X16.here hx rfl (hb hby at_67) ks_) ?_
  obtain ⟨T19, h19, k19, X19, e19, E19, A19, st19⟩ := newP X16 hx hZ (ww hw 0 rfl) e16 (g := (mkF m 68 #[.val (.int p0), .val (.int p1), .val (.int p2), .val (.int p3), .val (.int p4), .val (.int p5), .val (.int (p0 &&& (3 : Int32))), .val (.int (p1 &&& (3 : Int32))), .val (.int (p3 &&& (3 : Int32))), .val (.int (p4 &&& (3 : Int32))), .val (.int (p5 &&& (3 : Int32))), .val (.int (p2 &&& (3 : Int32))), .val (.ref b1), .val (.ref b7), .unset, .unset, .unset, .unset] [(.int (5 : Int32))])) rfl (hb hby at_68) rfl (by decide) (cap := 5) (by decide) (by decide) (by decide) (by decide)
  obtain ⟨b19, g19⟩ : ∃ z, z = h16.size := ⟨_, rfl⟩
  rw [← g19] at A19 st19
  have ne_b1_b19 : b1 ≠ b19 := Nat.ne_of_lt (Nat.lt_of_lt_of_le Fa17.lt (Nat.le_of_eq g19.symm))
  have ne_b7_b19 : b7 ≠ b19 := Nat.ne_of_lt (Nat.lt_of_lt_of_le Fa18.lt (Nat.le_of_eq g19.symm))
  have g_b19 : n0 ≤ b19 := Nat.le_trans Z16 (Nat.le_of_eq g19.symm)
  have sz_b19 : h0.size ≤ b19 := Nat.le_trans K16.1 (Nat.le_of_eq g19.symm)
  have K19 : Keep h0 h19 [] := K16.ext E19
  have Fa20 : PI Z h19 b1 .int 2 (own_l [(p0 &&& (3 : Int32)), (p1 &&& (3 : Int32))]) := Fa17.ext E19
  have Fa21 : PI Z h19 b7 .int 3 (own_l [(p3 &&& (3 : Int32)), (p4 &&& (3 : Int32)), (p5 &&& (3 : Int32))]) := Fa18.ext E19
  have Z19 : n0 ≤ h19.size := Nat.le_trans Z16 E19.1
  have Fa22 : PI Z h19 b19 .int 5 (own_l [(0 : Int32), (0 : Int32), (0 : Int32), (0 : Int32), (0 : Int32)]) := PI.newL A19 (by decide) rfl rfl
  refine go (u' := T19.setTop (mkF m 70 #[.val (.int p0), .val (.int p1), .val (.int p2), .val (.int p3), .val (.int p4), .val (.int p5), .val (.int (p0 &&& (3 : Int32))), .val (.int (p1 &&& (3 : Int32))), .val (.int (p3 &&& (3 : Int32))), .val (.int (p4 &&& (3 : Int32))), .val (.int (p5 &&& (3 : Int32))), .val (.int (p2 &&& (3 : Int32))), .val (.ref b1), .val (.ref b7), .unset, .unset, .unset, .unset] [(.ref b19)])) st19 ?_
  refine go (u' := T19.setTop (mkF m 72 #[.val (.int p0), .val (.int p1), .val (.int p2), .val (.int p3), .val (.int p4), .val (.int p5), .val (.int (p0 &&& (3 : Int32))), .val (.int (p1 &&& (3 : Int32))), .val (.int (p3 &&& (3 : Int32))), .val (.int (p4 &&& (3 : Int32))), .val (.int (p5 &&& (3 : Int32))), .val (.int (p2 &&& (3 : Int32))), .val (.ref b1), .val (.ref b7), .val (.ref b19), .unset, .unset, .unset] [])) (fun _ ks_ => XS.astore X19.here hx rfl (hb hby at_70) rfl rfl (l' := #[.val (.int p0), .val (.int p1), .val (.int p2), .val (.int p3), .val (.int p4), .val (.int p5), .val (.int (p0 &&& (3 : Int32))), .val (.int (p1 &&& (3 : Int32))), .val (.int (p3 &&& (3 : Int32))), .val (.int (p4 &&& (3 : Int32))), .val (.int (p5 &&& (3 : Int32))), .val (.int (p2 &&& (3 : Int32))), .val (.ref b1), .val (.ref b7), .val (.ref b19), .unset, .unset, .unset]) rfl ks_) ?_
  obtain ⟨T23, h23, X23, e23, E23, A23, D23, -, st23⟩ := newO X19 hx hZ hown (ww hw 1 rfl) (ww hw 2 rfl) (ww hw 3 rfl) e19 (g := (mkF m 72 #[.val (.int p0), .val (.int p1), .val (.int p2), .val (.int p3), .val (.int p4), .val (.int p5), .val (.int (p0 &&& (3 : Int32))), .val (.int (p1 &&& (3 : Int32))), .val (.int (p3 &&& (3 : Int32))), .val (.int (p4 &&& (3 : Int32))), .val (.int (p5 &&& (3 : Int32))), .val (.int (p2 &&& (3 : Int32))), .val (.ref b1), .val (.ref b7), .val (.ref b19), .unset, .unset, .unset] [])) rfl (hb hby at_72) (by decide) (by decide)
  obtain ⟨b23, g23⟩ : ∃ z, z = h19.size := ⟨_, rfl⟩
  rw [← g23] at A23 D23 st23
  have ne_b1_b23 : b1 ≠ b23 := Nat.ne_of_lt (Nat.lt_of_lt_of_le Fa20.lt (Nat.le_of_eq g23.symm))
  have ne_b7_b23 : b7 ≠ b23 := Nat.ne_of_lt (Nat.lt_of_lt_of_le Fa21.lt (Nat.le_of_eq g23.symm))
  have ne_b19_b23 : b19 ≠ b23 := Nat.ne_of_lt (Nat.lt_of_lt_of_le Fa22.lt (Nat.le_of_eq g23.symm))
  have g_b23 : n0 ≤ b23 := Nat.le_trans Z19 (Nat.le_of_eq g23.symm)
  have sz_b23 : h0.size ≤ b23 := Nat.le_trans K19.1 (Nat.le_of_eq g23.symm)
  have K23 : Keep h0 h23 [] := K19.ext E23
  have Fa24 : PI Z h23 b1 .int 2 (own_l [(p0 &&& (3 : Int32)), (p1 &&& (3 : Int32))]) := Fa20.ext E23
  have Fa25 : PI Z h23 b7 .int 3 (own_l [(p3 &&& (3 : Int32)), (p4 &&& (3 : Int32)), (p5 &&& (3 : Int32))]) := Fa21.ext E23
  have Fa26 : PI Z h23 b19 .int 5 (own_l [(0 : Int32), (0 : Int32), (0 : Int32), (0 : Int32), (0 : Int32)]) := Fa22.ext E23
  have Z23 : n0 ≤ h23.size := Nat.le_trans Z19 E23.1
  have Fa27 : Fld Z h23 b23 "com/example/lootpath/lootpath/solve/CityQueue" "cities" "[I" .null := D23 (Or.inr (ww hw 11 rfl)) (ty := (.array .int)) (by decide)
  have Fa28 : Fld Z h23 b23 "com/example/lootpath/lootpath/solve/CityQueue" "waiting" "[Z" .null := D23 (Or.inr (ww hw 14 rfl)) (ty := (.array .boolean)) (by decide)
  have Fa29 : Fld Z h23 b23 "com/example/lootpath/lootpath/solve/CityQueue" "head" "I" (.int (0 : Int32)) := D23 (Or.inl (ww hw 21 rfl)) (ty := .int) (by decide)
  have Fa30 : Fld Z h23 b23 "com/example/lootpath/lootpath/solve/CityQueue" "size" "I" (.int (0 : Int32)) := D23 (Or.inl (ww hw 23 rfl)) (ty := .int) (by decide)
  refine go (u' := T23.setTop (mkF m 75 #[.val (.int p0), .val (.int p1), .val (.int p2), .val (.int p3), .val (.int p4), .val (.int p5), .val (.int (p0 &&& (3 : Int32))), .val (.int (p1 &&& (3 : Int32))), .val (.int (p3 &&& (3 : Int32))), .val (.int (p4 &&& (3 : Int32))), .val (.int (p5 &&& (3 : Int32))), .val (.int (p2 &&& (3 : Int32))), .val (.ref b1), .val (.ref b7), .val (.ref b19), .unset, .unset, .unset] [(.ref b23)])) st23 ?_
  refine go (u' := T23.setTop (mkF m 76 #[.val (.int p0), .val (.int p1), .val (.int p2), .val (.int p3), .val (.int p4), .val (.int p5), .val (.int (p0 &&& (3 : Int32))), .val (.int (p1 &&& (3 : Int32))), .val (.int (p3 &&& (3 : Int32))), .val (.int (p4 &&& (3 : Int32))), .val (.int (p5 &&& (3 : Int32))), .val (.int (p2 &&& (3 : Int32))), .val (.ref b1), .val (.ref b7), .val (.ref b19), .unset, .unset, .unset] [(.ref b23), (.ref b23)])) (fun _ ks_ => XS.dup X23.here hx rfl (hb hby at_75) rfl rfl ks_) ?_
  refine go (u' := T23.setTop (mkF m 77 #[.val (.int p0), .val (.int p1), .val (.int p2), .val (.int p3), .val (.int p4), .val (.int p5), .val (.int (p0 &&& (3 : Int32))), .val (.int (p1 &&& (3 : Int32))), .val (.int (p3 &&& (3 : Int32))), .val (.int (p4 &&& (3 : Int32))), .val (.int (p5 &&& (3 : Int32))), .val (.int (p2 &&& (3 : Int32))), .val (.ref b1), .val (.ref b7), .val (.ref b19), .unset, .unset, .unset] [(.int (4 : Int32)), (.ref b23), (.ref b23)])) (fun _ ks_ => XS.iconst X23.here hx rfl (hb hby at_76) ks_) ?_
  obtain ⟨_, _, ⟨T31, L31, k31, n31⟩, -, X31, ⟨Lc31, hQ31, l31, y31, z31⟩, st31⟩ := X23.specialBack hx (y := (⟨"com/example/lootpath/lootpath/solve/CityQueue", "<init>", "(I)V"⟩ : MethodName)) rfl hown (mvT hZ (ww hw 4 rfl)) (mvT hZ (ww hw 5 rfl)) (mvT hZ (ww hw 6 rfl)) (by decide) (backOf (W := 1) (rm1 l Z a0 hw [] b23 (4 : Int32) h23 n0 Z23 g_b23 A23 Fa27 Fa28 Fa29 Fa30 (by decide) (by decide)) hZ (ww hw 6 rfl) (ww hw 3 rfl) (by decide) (by decide)) (g := (mkF m 77 #[.val (.int p0), .val (.int p1), .val (.int p2), .val (.int p3), .val (.int p4), .val (.int p5), .val (.int (p0 &&& (3 : Int32))), .val (.int (p1 &&& (3 : Int32))), .val (.int (p3 &&& (3 : Int32))), .val (.int (p4 &&& (3 : Int32))), .val (.int (p5 &&& (3 : Int32))), .val (.int (p2 &&& (3 : Int32))), .val (.ref b1), .val (.ref b7), .val (.ref b19), .unset, .unset, .unset] [(.int (4 : Int32)), (.ref b23), (.ref b23)])) rfl (by rw [hml]; rfl) (Steps.refl _) (a := b23) (argsL := [(.int (4 : Int32))]) (rest := [(.ref b23)]) (lenOf pd__40_I_41_V rfl) rfl (by show 2 * 0 + _ ≤ _; exact Nat.le_of_eq rfl) (hb hby at_77) (fun _ _ => ⟨rfl, e23, (by decide : 4 + 2 ≤ _), (by decide : 14 + 8 ≤ _)⟩)
  dsimp only [Pt.U, Pt.locs, Pt.cells, Pt.slots] at X31 l31 y31 z31 st31 hQ31
  subst l31 y31 z31
  obtain ⟨ca31, wa31, rfl, N31q, Kq31, Fa32, Fa33, Fa34, Fa35, Fa36, Fa37, Fa38, gca_31, gwa_31, nca_31⟩ := hQ31
  have N31 := Fr.app N16 N31q
  have K31 : Keep h0 T31.heap [] := K23.trans Kq31 (allS (P := fun x => x ∈ [] ∨ h0.size ≤ x) (Or.inr sz_b23) all0)
  have Z31 : n0 ≤ T31.heap.size := Nat.le_trans Z23 Kq31.1
  have Fa39 : PI Z T31.heap b1 .int 2 (own_l [(p0 &&& (3 : Int32)), (p1 &&& (3 : Int32))]) := Fa24.keep Kq31 (ninS ne_b1_b23 nin0)
  have Fa40 : PI Z T31.heap b7 .int 3 (own_l [(p3 &&& (3 : Int32)), (p4 &&& (3 : Int32)), (p5 &&& (3 : Int32))]) := Fa25.keep Kq31 (ninS ne_b7_b23 nin0)
  have Fa41 : PI Z T31.heap b19 .int 5 (own_l [(0 : Int32), (0 : Int32), (0 : Int32), (0 : Int32), (0 : Int32)]) := Fa26.keep Kq31 (ninS ne_b19_b23 nin0)
  have Fa42 : Exa Z T31.heap b23 "com/example/lootpath/lootpath/solve/CityQueue" := A23.keep Kq31
  have ne_b1_ca31 : b1 ≠ ca31 := Nat.ne_of_lt (Nat.lt_of_lt_of_le Fa24.lt gca_31)
  have ne_b7_ca31 : b7 ≠ ca31 := Nat.ne_of_lt (Nat.lt_of_lt_of_le Fa25.lt gca_31)
  have ne_b19_ca31 : b19 ≠ ca31 := Nat.ne_of_lt (Nat.lt_of_lt_of_le Fa26.lt gca_31)
  have ne_b23_ca31 : b23 ≠ ca31 := Nat.ne_of_lt (Nat.lt_of_lt_of_le A23.lt gca_31)
  have g_ca31 : n0 ≤ ca31 := Nat.le_trans Z23 gca_31
  have sz_ca31 : h0.size ≤ ca31 := Nat.le_trans K23.1 gca_31
  have ne_b1_wa31 : b1 ≠ wa31 := Nat.ne_of_lt (Nat.lt_of_lt_of_le Fa24.lt gwa_31)
  have ne_b7_wa31 : b7 ≠ wa31 := Nat.ne_of_lt (Nat.lt_of_lt_of_le Fa25.lt gwa_31)
  have ne_b19_wa31 : b19 ≠ wa31 := Nat.ne_of_lt (Nat.lt_of_lt_of_le Fa26.lt gwa_31)
  have ne_b23_wa31 : b23 ≠ wa31 := Nat.ne_of_lt (Nat.lt_of_lt_of_le A23.lt gwa_31)
  have g_wa31 : n0 ≤ wa31 := Nat.le_trans Z23 gwa_31
  have sz_wa31 : h0.size ≤ wa31 := Nat.le_trans K23.1 gwa_31
  refine goT (u' := T31.setTop (mkF m 80 #[.val (.int p0), .val (.int p1), .val (.int p2), .val (.int p3), .val (.int p4), .val (.int p5), .val (.int (p0 &&& (3 : Int32))), .val (.int (p1 &&& (3 : Int32))), .val (.int (p3 &&& (3 : Int32))), .val (.int (p4 &&& (3 : Int32))), .val (.int (p5 &&& (3 : Int32))), .val (.int (p2 &&& (3 : Int32))), .val (.ref b1), .val (.ref b7), .val (.ref b19), .unset, .unset, .unset] [(.ref b23)])) st31 ?_
  refine go (u' := T31.setTop (mkF m 82 #[.val (.int p0), .val (.int p1), .val (.int p2), .val (.int p3), .val (.int p4), .val (.int p5), .val (.int (p0 &&& (3 : Int32))), .val (.int (p1 &&& (3 : Int32))), .val (.int (p3 &&& (3 : Int32))), .val (.int (p4 &&& (3 : Int32))), .val (.int (p5 &&& (3 : Int32))), .val (.int (p2 &&& (3 : Int32))), .val (.ref b1), .val (.ref b7), .val (.ref b19), .val (.ref b23), .unset, .unset] [])) (fun _ ks_ => XS.astore X31.here hx rfl (hb hby at_80) rfl rfl (l' := #[.val (.int p0), .val (.int p1), .val (.int p2), .val (.int p3), .val (.int p4), .val (.int p5), .val (.int (p0 &&& (3 : Int32))), .val (.int (p1 &&& (3 : Int32))), .val (.int (p3 &&& (3 : Int32))), .val (.int (p4 &&& (3 : Int32))), .val (.int (p5 &&& (3 : Int32))), .val (.int (p2 &&& (3 : Int32))), .val (.ref b1), .val (.ref b7), .val (.ref b19), .val (.ref b23), .unset, .unset]) rfl ks_) ?_
  refine go (u' := T31.setTop (mkF m 83 #[.val (.int p0), .val (.int p1), .val (.int p2), .val (.int p3), .val (.int p4), .val (.int p5), .val (.int (p0 &&& (3 : Int32))), .val (.int (p1 &&& (3 : Int32))), .val (.int (p3 &&& (3 : Int32))), .val (.int (p4 &&& (3 : Int32))), .val (.int (p5 &&& (3 : Int32))), .val (.int (p2 &&& (3 : Int32))), .val (.ref b1), .val (.ref b7), .val (.ref b19), .val (.ref b23), .unset, .unset] [(.int (1 : Int32))])) (fun _ ks_ => XS.iconst X31.here hx rfl (hb hby at_82) ks_) ?_
  refine go (u' := T31.setTop (mkF m 85 #[.val (.int p0), .val (.int p1), .val (.int p2), .val (.int p3), .val (.int p4), .val (.int p5), .val (.int (p0 &&& (3 : Int32))), .val (.int (p1 &&& (3 : Int32))), .val (.int (p3 &&& (3 : Int32))), .val (.int (p4 &&& (3 : Int32))), .val (.int (p5 &&& (3 : Int32))), .val (.int (p2 &&& (3 : Int32))), .val (.ref b1), .val (.ref b7), .val (.ref b19), .val (.ref b23), .val (.int (1 : Int32)), .unset] [])) (fun _ ks_ => XS.istore X31.here hx rfl (hb hby at_83) rfl  (l' := #[.val (.int p0), .val (.int p1), .val (.int p2), .val (.int p3), .val (.int p4), .val (.int p5), .val (.int (p0 &&& (3 : Int32))), .val (.int (p1 &&& (3 : Int32))), .val (.int (p3 &&& (3 : Int32))), .val (.int (p4 &&& (3 : Int32))), .val (.int (p5 &&& (3 : Int32))), .val (.int (p2 &&& (3 : Int32))), .val (.ref b1), .val (.ref b7), .val (.ref b19), .val (.ref b23), .val (.int (1 : Int32)), .unset]) rfl ks_) ?_
  refine go (u' := T31.setTop (mkF m 87 #[.val (.int p0), .val (.int p1), .val (.int p2), .val (.int p3), .val (.int p4), .val (.int p5), .val (.int (p0 &&& (3 : Int32))), .val (.int (p1 &&& (3 : Int32))), .val (.int (p3 &&& (3 : Int32))), .val (.int (p4 &&& (3 : Int32))), .val (.int (p5 &&& (3 : Int32))), .val (.int (p2 &&& (3 : Int32))), .val (.ref b1), .val (.ref b7), .val (.ref b19), .val (.ref b23), .val (.int (1 : Int32)), .unset] [(.ref b23)])) (fun _ ks_ => XS.aload X31.here hx rfl (hb hby at_85) rfl rfl ks_) ?_
  refine go (u' := T31.setTop (mkF m 89 #[.val (.int p0), .val (.int p1), .val (.int p2), .val (.int p3), .val (.int p4), .val (.int p5), .val (.int (p0 &&& (3 : Int32))), .val (.int (p1 &&& (3 : Int32))), .val (.int (p3 &&& (3 : Int32))), .val (.int (p4 &&& (3 : Int32))), .val (.int (p5 &&& (3 : Int32))), .val (.int (p2 &&& (3 : Int32))), .val (.ref b1), .val (.ref b7), .val (.ref b19), .val (.ref b23), .val (.int (1 : Int32)), .unset] [(.ref b1), (.ref b23)])) (fun _ ks_ => XS.aload X31.here hx rfl (hb hby at_87) rfl rfl ks_) ?_
  obtain ⟨cq43, kq43, q43a, q43b, q43c⟩ := isOf hZ (rfl : T31.heap = _) Fa32
  obtain ⟨_, _, ⟨T43, L43, k43, n43⟩, -, X43, ⟨Lc43, hQ43, l43, y43, z43⟩, st43⟩ := X31.virtualBack hx (y := (⟨"com/example/lootpath/lootpath/solve/CityQueue", "add", "([I)V"⟩ : MethodName)) (z := (⟨"com/example/lootpath/lootpath/solve/CityQueue", "add", "([I)V"⟩ : MethodName)) hown (mvT hZ (ww hw 15 rfl)) (mvT hZ (ww hw 16 rfl)) (notFace_of_selects (args := #[]) (mvT hZ (ww hw 18 rfl))) (mvT hZ (ww hw 18 rfl)) (mvT hZ (ww hw 17 rfl)) (by decide) (backOf (W := 0) (rm3 l Z a0 hw [] b23 b1 ca31 wa31 (0 : Int32) (0 : Int32) (4 : Int32).toNatClampNeg (fun _ => 0) (fun _ => 0) 2 (own_l [(p0 &&& (3 : Int32)), (p1 &&& (3 : Int32))]) [] T31.heap n0 Z31 g_b23 g_ca31 g_wa31 ne_b23_ca31 ne_b23_wa31 nca_31 (Ne.symm ne_b1_b23) ne_b1_ca31 ne_b1_wa31 Fa32 Fa33 Fa34 Fa35 Fa36 Fa37 Fa38 Fa39 (Rep.new (by decide) (by decide)) (own_hl2 p0 p1)) hZ (ww hw 19 rfl) (ww hw 3 rfl) (by decide) (by decide)) q43a q43c (g := (mkF m 89 #[.val (.int p0), .val (.int p1), .val (.int p2), .val (.int p3), .val (.int p4), .val (.int p5), .val (.int (p0 &&& (3 : Int32))), .val (.int (p1 &&& (3 : Int32))), .val (.int (p3 &&& (3 : Int32))), .val (.int (p4 &&& (3 : Int32))), .val (.int (p5 &&& (3 : Int32))), .val (.int (p2 &&& (3 : Int32))), .val (.ref b1), .val (.ref b7), .val (.ref b19), .val (.ref b23), .val (.int (1 : Int32)), .unset] [(.ref b1), (.ref b23)])) rfl (by rw [hml]; rfl) (Steps.refl _) (argsL := [(.ref b1)]) (rest := []) (lenOf pd__40__91_I_41_V rfl) rfl (by show 2 * 0 + _ ≤ _; exact Nat.le_of_eq rfl) (hb hby at_89) (fun _ _ => ⟨rfl, (rfl : T31.heap = _), (by decide : 6 + 0 ≤ _), (by decide : 22 + 0 ≤ _)⟩)
  dsimp only [Pt.U, Pt.locs, Pt.cells, Pt.slots] at X43 l43 y43 z43 st43 hQ43
  subst l43 y43 z43
  obtain ⟨f143, g143, sz143, rfl, N43q, Kq43, Fa44, Fa45, Fa46, Fa47, Fa48, Fa49, Fa50, hR1_43⟩ := hQ43
  have N43 := Fr.app N31 N43q
  have K43 : Keep h0 T43.heap [] := K31.trans Kq43 (allS (P := fun x => x ∈ [] ∨ h0.size ≤ x) (Or.inr sz_b23) (allS (P := fun x => x ∈ [] ∨ h0.size ≤ x) (Or.inr sz_ca31) (allS (P := fun x => x ∈ [] ∨ h0.size ≤ x) (Or.inr sz_wa31) all0)))
  have Z43 : n0 ≤ T43.heap.size := Nat.le_trans Z31 Kq43.1
  have Fa51 : PI Z T43.heap b1 .int 2 (own_l [(p0 &&& (3 : Int32)), (p1 &&& (3 : Int32))]) := Fa39.keep Kq43 (ninS ne_b1_b23 (ninS ne_b1_ca31 (ninS ne_b1_wa31 nin0)))
  have Fa52 : PI Z T43.heap b7 .int 3 (own_l [(p3 &&& (3 : Int32)), (p4 &&& (3 : Int32)), (p5 &&& (3 : Int32))]) := Fa40.keep Kq43 (ninS ne_b7_b23 (ninS ne_b7_ca31 (ninS ne_b7_wa31 nin0)))
  have Fa53 : PI Z T43.heap b19 .int 5 (own_l [(0 : Int32), (0 : Int32), (0 : Int32), (0 : Int32), (0 : Int32)]) := Fa41.keep Kq43 (ninS ne_b19_b23 (ninS ne_b19_ca31 (ninS ne_b19_wa31 nin0)))
  have Fa54 : Exa Z T43.heap b23 "com/example/lootpath/lootpath/solve/CityQueue" := Fa32.keep Kq43
  refine goT (u' := T43.setTop (mkF m 92 #[.val (.int p0), .val (.int p1), .val (.int p2), .val (.int p3), .val (.int p4), .val (.int p5), .val (.int (p0 &&& (3 : Int32))), .val (.int (p1 &&& (3 : Int32))), .val (.int (p3 &&& (3 : Int32))), .val (.int (p4 &&& (3 : Int32))), .val (.int (p5 &&& (3 : Int32))), .val (.int (p2 &&& (3 : Int32))), .val (.ref b1), .val (.ref b7), .val (.ref b19), .val (.ref b23), .val (.int (1 : Int32)), .unset] [])) st43 ?_
  refine go (u' := T43.setTop (mkF m 94 #[.val (.int p0), .val (.int p1), .val (.int p2), .val (.int p3), .val (.int p4), .val (.int p5), .val (.int (p0 &&& (3 : Int32))), .val (.int (p1 &&& (3 : Int32))), .val (.int (p3 &&& (3 : Int32))), .val (.int (p4 &&& (3 : Int32))), .val (.int (p5 &&& (3 : Int32))), .val (.int (p2 &&& (3 : Int32))), .val (.ref b1), .val (.ref b7), .val (.ref b19), .val (.ref b23), .val (.int (1 : Int32)), .unset] [(.ref b19)])) (fun _ ks_ => XS.aload X43.here hx rfl (hb hby at_92) rfl rfl ks_) ?_
  refine go (u' := T43.setTop (mkF m 96 #[.val (.int p0), .val (.int p1), .val (.int p2), .val (.int p3), .val (.int p4), .val (.int p5), .val (.int (p0 &&& (3 : Int32))), .val (.int (p1 &&& (3 : Int32))), .val (.int (p3 &&& (3 : Int32))), .val (.int (p4 &&& (3 : Int32))), .val (.int (p5 &&& (3 : Int32))), .val (.int (p2 &&& (3 : Int32))), .val (.ref b1), .val (.ref b7), .val (.ref b19), .val (.ref b23), .val (.int (1 : Int32)), .unset] [(.int (p0 &&& (3 : Int32))), (.ref b19)])) (fun _ ks_ => XS.iload X43.here hx rfl (hb hby at_94) rfl  ks_) ?_
  obtain ⟨_, _, ⟨T55, L55, k55, n55⟩, -, X55, ⟨Lc55, hQ55, l55, y55, z55⟩, st55⟩ := Jvm.LawKit.callS X43 hx (y := (⟨"com/example/lootpath/lootpath/solve/CityQueueAddPinLaw", "put", "([II)V"⟩ : MethodName)) hown (mvT hZ (ww hw 24 rfl)) (mvT hZ (ww hw 25 rfl)) (mvT hZ (ww hw 26 rfl)) (mvT hZ (ww hw 27 rfl)) (by decide) (backOf (W := 0) (rm4 l Z a0 hw [] b19 (p0 &&& (3 : Int32)) (own_l [(0 : Int32), (0 : Int32), (0 : Int32), (0 : Int32), (0 : Int32)]) [] T43.heap n0 Z43 g_b19 Fa53 MA.new (own_and3 p0)) hZ (ww hw 27 rfl) (ww hw 26 rfl) (by decide) (by decide)) (g := (mkF m 96 #[.val (.int p0), .val (.int p1), .val (.int p2), .val (.int p3), .val (.int p4), .val (.int p5), .val (.int (p0 &&& (3 : Int32))), .val (.int (p1 &&& (3 : Int32))), .val (.int (p3 &&& (3 : Int32))), .val (.int (p4 &&& (3 : Int32))), .val (.int (p5 &&& (3 : Int32))), .val (.int (p2 &&& (3 : Int32))), .val (.ref b1), .val (.ref b7), .val (.ref b19), .val (.ref b23), .val (.int (1 : Int32)), .unset] [(.int (p0 &&& (3 : Int32))), (.ref b19)])) rfl (by rw [hml]; rfl) (argsL := [(.ref b19), (.int (p0 &&& (3 : Int32)))]) (rest := []) (lenOf pd__40__91_II_41_V rfl) rfl (by show 2 * 0 + _ ≤ _; exact Nat.le_of_eq rfl) (hb hby at_96) (fun _ _ => ⟨rfl, (rfl : T43.heap = _), (by decide : 6 + 0 ≤ _), (by decide : 22 + 0 ≤ _)⟩)
  dsimp only [Pt.U, Pt.locs, Pt.cells, Pt.slots] at X55 l55 y55 z55 st55 hQ55
  subst l55 y55 z55
  obtain ⟨g155, rfl, N55q, Kq55, Fa56, hM1_55⟩ := hQ55
  have N55 := Fr.app N43 N55q
  have K55 : Keep h0 T55.heap [] := K43.trans Kq55 (allS (P := fun x => x ∈ [] ∨ h0.size ≤ x) (Or.inr sz_b19) all0)
  have Z55 : n0 ≤ T55.heap.size := Nat.le_trans Z43 Kq55.1
  have Fa57 : PI Z T55.heap b1 .int 2 (own_l [(p0 &&& (3 : Int32)), (p1 &&& (3 : Int32))]) := Fa51.keep Kq55 (ninS ne_b1_b19 nin0)
  have Fa58 : PI Z T55.heap b7 .int 3 (own_l [(p3 &&& (3 : Int32)), (p4 &&& (3 : Int32)), (p5 &&& (3 : Int32))]) := Fa52.keep Kq55 (ninS ne_b7_b19 nin0)
  have Fa59 : Exa Z T55.heap b23 "com/example/lootpath/lootpath/solve/CityQueue" := Fa44.keep Kq55
  have Fa60 : Fld Z T55.heap b23 "com/example/lootpath/lootpath/solve/CityQueue" "cities" "[I" (.ref ca31) := Fa45.keep Kq55 (ninS (Ne.symm ne_b19_b23) nin0)
  have Fa61 : Fld Z T55.heap b23 "com/example/lootpath/lootpath/solve/CityQueue" "waiting" "[Z" (.ref wa31) := Fa46.keep Kq55 (ninS (Ne.symm ne_b19_b23) nin0)
  have Fa62 : Fld Z T55.heap b23 "com/example/lootpath/lootpath/solve/CityQueue" "head" "I" (.int (0 : Int32)) := Fa47.keep Kq55 (ninS (Ne.symm ne_b19_b23) nin0)
  have Fa63 : Fld Z T55.heap b23 "com/example/lootpath/lootpath/solve/CityQueue" "size" "I" (.int sz143) := Fa48.keep Kq55 (ninS (Ne.symm ne_b19_b23) nin0)
  have Fa64 : PI Z T55.heap ca31 .int (4 : Int32).toNatClampNeg f143 := Fa49.keep Kq55 (ninS (Ne.symm ne_b19_ca31) nin0)
  have Fa65 : PI Z T55.heap wa31 .boolean (4 : Int32).toNatClampNeg g143 := Fa50.keep Kq55 (ninS (Ne.symm ne_b19_wa31) nin0)
  refine go (u' := T55.setTop (mkF m 99 #[.val (.int p0), .val (.int p1), .val (.int p2), .val (.int p3), .val (.int p4), .val (.int p5), .val (.int (p0 &&& (3 : Int32))), .val (.int (p1 &&& (3 : Int32))), .val (.int (p3 &&& (3 : Int32))), .val (.int (p4 &&& (3 : Int32))), .val (.int (p5 &&& (3 : Int32))), .val (.int (p2 &&& (3 : Int32))), .val (.ref b1), .val (.ref b7), .val (.ref b19), .val (.ref b23), .val (.int (1 : Int32)), .unset] [])) st55 ?_
  refine go (u' := T55.setTop (mkF m 101 #[.val (.int p0), .val (.int p1), .val (.int p2), .val (.int p3), .val (.int p4), .val (.int p5), .val (.int (p0 &&& (3 : Int32))), .val (.int (p1 &&& (3 : Int32))), .val (.int (p3 &&& (3 : Int32))), .val (.int (p4 &&& (3 : Int32))), .val (.int (p5 &&& (3 : Int32))), .val (.int (p2 &&& (3 : Int32))), .val (.ref b1), .val (.ref b7), .val (.ref b19), .val (.ref b23), .val (.int (1 : Int32)), .unset] [(.ref b19)])) (fun _ ks_ => XS.aload X55.here hx rfl (hb hby at_99) rfl rfl ks_) ?_
  refine go (u' := T55.setTop (mkF m 103 #[.val (.int p0), .val (.int p1), .val (.int p2), .val (.int p3), .val (.int p4), .val (.int p5), .val (.int (p0 &&& (3 : Int32))), .val (.int (p1 &&& (3 : Int32))), .val (.int (p3 &&& (3 : Int32))), .val (.int (p4 &&& (3 : Int32))), .val (.int (p5 &&& (3 : Int32))), .val (.int (p2 &&& (3 : Int32))), .val (.ref b1), .val (.ref b7), .val (.ref b19), .val (.ref b23), .val (.int (1 : Int32)), .unset] [(.int (p1 &&& (3 : Int32))), (.ref b19)])) (fun _ ks_ => XS.iload X55.here hx rfl (hb hby at_101) rfl  ks_) ?_
  obtain ⟨_, _, ⟨T66, L66, k66, n66⟩, -, X66, ⟨Lc66, hQ66, l66, y66, z66⟩, st66⟩ := Jvm.LawKit.callS X55 hx (y := (⟨"com/example/lootpath/lootpath/solve/CityQueueAddPinLaw", "put", "([II)V"⟩ : MethodName)) hown (mvT hZ (ww hw 24 rfl)) (mvT hZ (ww hw 25 rfl)) (mvT hZ (ww hw 26 rfl)) (mvT hZ (ww hw 27 rfl)) (by decide) (backOf (W := 0) (rm4 l Z a0 hw [] b19 (p1 &&& (3 : Int32)) g155 (add1 [] (p0 &&& (3 : Int32))) T55.heap n0 Z55 g_b19 Fa56 hM1_55 (own_and3 p1)) hZ (ww hw 27 rfl) (ww hw 26 rfl) (by decide) (by decide)) (g := (mkF m 103 #[.val (.int p0), .val (.int p1), .val (.int p2), .val (.int p3), .val (.int p4), .val (.int p5), .val (.int (p0 &&& (3 : Int32))), .val (.int (p1 &&& (3 : Int32))), .val (.int (p3 &&& (3 : Int32))), .val (.int (p4 &&& (3 : Int32))), .val (.int (p5 &&& (3 : Int32))), .val (.int (p2 &&& (3 : Int32))), .val (.ref b1), .val (.ref b7), .val (.ref b19), .val (.ref b23), .val (.int (1 : Int32)), .unset] [(.int (p1 &&& (3 : Int32))), (.ref b19)])) rfl (by rw [hml]; rfl) (argsL := [(.ref b19), (.int (p1 &&& (3 : Int32)))]) (rest := []) (lenOf pd__40__91_II_41_V rfl) rfl (by show 2 * 0 + _ ≤ _; exact Nat.le_of_eq rfl) (hb hby at_103) (fun _ _ => ⟨rfl, (rfl : T55.heap = _), (by decide : 6 + 0 ≤ _), (by decide : 22 + 0 ≤ _)⟩)
  dsimp only [Pt.U, Pt.locs, Pt.cells, Pt.slots] at X66 l66 y66 z66 st66 hQ66
  subst l66 y66 z66
  obtain ⟨g166, rfl, N66q, Kq66, Fa67, hM1_66⟩ := hQ66
  have N66 := Fr.app N55 N66q
  have K66 : Keep h0 T66.heap [] := K55.trans Kq66 (allS (P := fun x => x ∈ [] ∨ h0.size ≤ x) (Or.inr sz_b19) all0)
  have Z66 : n0 ≤ T66.heap.size := Nat.le_trans Z55 Kq66.1
  have Fa68 : PI Z T66.heap b1 .int 2 (own_l [(p0 &&& (3 : Int32)), (p1 &&& (3 : Int32))]) := Fa57.keep Kq66 (ninS ne_b1_b19 nin0)
  have Fa69 : PI Z T66.heap b7 .int 3 (own_l [(p3 &&& (3 : Int32)), (p4 &&& (3 : Int32)), (p5 &&& (3 : Int32))]) := Fa58.keep Kq66 (ninS ne_b7_b19 nin0)
  have Fa70 : Exa Z T66.heap b23 "com/example/lootpath/lootpath/solve/CityQueue" := Fa59.keep Kq66
  have Fa71 : Fld Z T66.heap b23 "com/example/lootpath/lootpath/solve/CityQueue" "cities" "[I" (.ref ca31) := Fa60.keep Kq66 (ninS (Ne.symm ne_b19_b23) nin0)
  have Fa72 : Fld Z T66.heap b23 "com/example/lootpath/lootpath/solve/CityQueue" "waiting" "[Z" (.ref wa31) := Fa61.keep Kq66 (ninS (Ne.symm ne_b19_b23) nin0)
  have Fa73 : Fld Z T66.heap b23 "com/example/lootpath/lootpath/solve/CityQueue" "head" "I" (.int (0 : Int32)) := Fa62.keep Kq66 (ninS (Ne.symm ne_b19_b23) nin0)
  have Fa74 : Fld Z T66.heap b23 "com/example/lootpath/lootpath/solve/CityQueue" "size" "I" (.int sz143) := Fa63.keep Kq66 (ninS (Ne.symm ne_b19_b23) nin0)
  have Fa75 : PI Z T66.heap ca31 .int (4 : Int32).toNatClampNeg f143 := Fa64.keep Kq66 (ninS (Ne.symm ne_b19_ca31) nin0)
  have Fa76 : PI Z T66.heap wa31 .boolean (4 : Int32).toNatClampNeg g143 := Fa65.keep Kq66 (ninS (Ne.symm ne_b19_wa31) nin0)
  refine go (u' := T66.setTop (mkF m 106 #[.val (.int p0), .val (.int p1), .val (.int p2), .val (.int p3), .val (.int p4), .val (.int p5), .val (.int (p0 &&& (3 : Int32))), .val (.int (p1 &&& (3 : Int32))), .val (.int (p3 &&& (3 : Int32))), .val (.int (p4 &&& (3 : Int32))), .val (.int (p5 &&& (3 : Int32))), .val (.int (p2 &&& (3 : Int32))), .val (.ref b1), .val (.ref b7), .val (.ref b19), .val (.ref b23), .val (.int (1 : Int32)), .unset] [])) st66 ?_
  obtain ⟨xa148, hxa148⟩ : ∃ z : List Int32, z = (addAll [] [(p0 &&& (3 : Int32)), (p1 &&& (3 : Int32))]) := ⟨_, rfl⟩
  have hR148 : Rep ((4 : Int32).toNatClampNeg) f143 g143 (0 : Int32) sz143 xa148 := by rw [hxa148]; exact hR1_43
  have hM148 : MA g166 xa148 := by rw [hxa148]; exact hM1_66
  have C148_1 : ∀ (f : Nat → Int32) (g : Nat → Int32) (hd : Int32) (sz : Int32) (xs : List Int32) (mg : Nat → Int32) (s17 : Slot) (T77 : State) (h77 : Heap) (Ls77 : List Loc), (Stand p l e room_1 s m #[(.int p0), (.int p1), (.int p2), (.int p3), (.int p4), (.int p5)] below meth c T77 Ls77 6 22) → (T77.heap = h77) → (Fr n0 Ls77) → (n0 ≤ h77.size) → (Keep h0 h77 []) → (PI Z h77 b1 .int 2 (own_l [(p0 &&& (3 : Int32)), (p1 &&& (3 : Int32))])) → (PI Z h77 b7 .int 3 (own_l [(p3 &&& (3 : Int32)), (p4 &&& (3 : Int32)), (p5 &&& (3 : Int32))])) → (Exa Z h77 b23 "com/example/lootpath/lootpath/solve/CityQueue") → (Fld Z h77 b23 "com/example/lootpath/lootpath/solve/CityQueue" "cities" "[I" (.ref ca31)) → (Fld Z h77 b23 "com/example/lootpath/lootpath/solve/CityQueue" "waiting" "[Z" (.ref wa31)) → (Fld Z h77 b23 "com/example/lootpath/lootpath/solve/CityQueue" "head" "I" (.int hd)) → (Fld Z h77 b23 "com/example/lootpath/lootpath/solve/CityQueue" "size" "I" (.int sz)) → (PI Z h77 ca31 .int (4 : Int32).toNatClampNeg f) → (PI Z h77 wa31 .boolean (4 : Int32).toNatClampNeg g) → (PI Z h77 b19 .int 5 mg) → (Rep ((4 : Int32).toNatClampNeg) f g hd sz xs) → (MA mg xs) → (One s17) → Go p.tables e below G (T77.setTop (mkF m 148 #[.val (.int p0), .val (.int p1), .val (.int p2), .val (.int p3), .val (.int p4), .val (.int p5), .val (.int (p0 &&& (3 : Int32))), .val (.int (p1 &&& (3 : Int32))), .val (.int (p3 &&& (3 : Int32))), .val (.int (p4 &&& (3 : Int32))), .val (.int (p5 &&& (3 : Int32))), .val (.int (p2 &&& (3 : Int32))), .val (.ref b1), .val (.ref b7), .val (.ref b19), .val (.ref b23), .val (.int (1 : Int32)), s17] [])) := by
    intro f g hd sz xs mg s17 T77 h77 Ls77 X77 e77 N77 Z77 K77 F77_0 F77_1 F77_2 F77_3 F77_4 F77_5 F77_6 F77_7 F77_8 F77_9 hR hM hs17
    have C190_2 : ∀ (f : Nat → Int32) (g : Nat → Int32) (hd : Int32) (sz : Int32) (xs : List Int32) (mg : Nat → Int32) (s17 : Slot) (T78 : State) (h78 : Heap) (Ls78 : List Loc), (Stand p l e room_1 s m #[(.int p0), (.int p1), (.int p2), (.int p3), (.int p4), (.int p5)] below meth c T78 Ls78 6 22) → (T78.heap = h78) → (Fr n0 Ls78) → (n0 ≤ h78.size) → (Keep h0 h78 []) → (PI Z h78 b1 .int 2 (own_l [(p0 &&& (3 : Int32)), (p1 &&& (3 : Int32))])) → (PI Z h78 b7 .int 3 (own_l [(p3 &&& (3 : Int32)), (p4 &&& (3 : Int32)), (p5 &&& (3 : Int32))])) → (Exa Z h78 b23 "com/example/lootpath/lootpath/solve/CityQueue") → (Fld Z h78 b23 "com/example/lootpath/lootpath/solve/CityQueue" "cities" "[I" (.ref ca31)) → (Fld Z h78 b23 "com/example/lootpath/lootpath/solve/CityQueue" "waiting" "[Z" (.ref wa31)) → (Fld Z h78 b23 "com/example/lootpath/lootpath/solve/CityQueue" "head" "I" (.int hd)) → (Fld Z h78 b23 "com/example/lootpath/lootpath/solve/CityQueue" "size" "I" (.int sz)) → (PI Z h78 ca31 .int (4 : Int32).toNatClampNeg f) → (PI Z h78 wa31 .boolean (4 : Int32).toNatClampNeg g) → (PI Z h78 b19 .int 5 mg) → (Rep ((4 : Int32).toNatClampNeg) f g hd sz xs) → (MA mg xs) → (One s17) → Go p.tables e below G (T78.setTop (mkF m 190 #[.val (.int p0), .val (.int p1), .val (.int p2), .val (.int p3), .val (.int p4), .val (.int p5), .val (.int (p0 &&& (3 : Int32))), .val (.int (p1 &&& (3 : Int32))), .val (.int (p3 &&& (3 : Int32))), .val (.int (p4 &&& (3 : Int32))), .val (.int (p5 &&& (3 : Int32))), .val (.int (p2 &&& (3 : Int32))), .val (.ref b1), .val (.ref b7), .val (.ref b19), .val (.ref b23), .val (.int (1 : Int32)), s17] [])) := by
      intro f g hd sz xs mg s17 T78 h78 Ls78 X78 e78 N78 Z78 K78 F78_0 F78_1 F78_2 F78_3 F78_4 F78_5 F78_6 F78_7 F78_8 F78_9 hR hM hs17
      refine go (u' := T78.setTop (mkF m 192 #[.val (.int p0), .val (.int p1), .val (.int p2), .val (.int p3), .val (.int p4), .val (.int p5), .val (.int (p0 &&& (3 : Int32))), .val (.int (p1 &&& (3 : Int32))), .val (.int (p3 &&& (3 : Int32))), .val (.int (p4 &&& (3 : Int32))), .val (.int (p5 &&& (3 : Int32))), .val (.int (p2 &&& (3 : Int32))), .val (.ref b1), .val (.ref b7), .val (.ref b19), .val (.ref b23), .val (.int (1 : Int32)), s17] [(.ref b23)])) (fun _ ks_ => XS.aload X78.here hx rfl (hb hby at_190) rfl rfl ks_) ?_
      refine go (u' := T78.setTop (mkF m 194 #[.val (.int p0), .val (.int p1), .val (.int p2), .val (.int p3), .val (.int p4), .val (.int p5), .val (.int (p0 &&& (3 : Int32))), .val (.int (p1 &&& (3 : Int32))), .val (.int (p3 &&& (3 : Int32))), .val (.int (p4 &&& (3 : Int32))), .val (.int (p5 &&& (3 : Int32))), .val (.int (p2 &&& (3 : Int32))), .val (.ref b1), .val (.ref b7), .val (.ref b19), .val (.ref b23), .val (.int (1 : Int32)), s17] [(.ref b7), (.ref b23)])) (fun _ ks_ => XS.aload X78.here hx rfl (hb hby at_192) rfl rfl ks_) ?_
      obtain ⟨cq79, kq79, q79a, q79b, q79c⟩ := isOf hZ e78 F78_2
      obtain ⟨_, _, ⟨T79, L79, k79, n79⟩, -, X79, ⟨Lc79, hQ79, l79, y79, z79⟩, st79⟩ := X78.virtualBack hx (y := (⟨"com/example/lootpath/lootpath/solve/CityQueue", "add", "([I)V"⟩ : MethodName)) (z := (⟨"com/example/lootpath/lootpath/solve/CityQueue", "add", "([I)V"⟩ : MethodName)) hown (mvT hZ (ww hw 15 rfl)) (mvT hZ (ww hw 16 rfl)) (notFace_of_selects (args := #[]) (mvT hZ (ww hw 18 rfl))) (mvT hZ (ww hw 18 rfl)) (mvT hZ (ww hw 17 rfl)) (by decide) (backOf (W := 0) (rm3 l Z a0 hw [] b23 b7 ca31 wa31 hd sz (4 : Int32).toNatClampNeg f g 3 (own_l [(p3 &&& (3 : Int32)), (p4 &&& (3 : Int32)), (p5 &&& (3 : Int32))]) xs h78 n0 Z78 g_b23 g_ca31 g_wa31 ne_b23_ca31 ne_b23_wa31 nca_31 (Ne.symm ne_b7_b23) ne_b7_ca31 ne_b7_wa31 F78_2 F78_3 F78_4 F78_5 F78_6 F78_7 F78_8 F78_1 hR (own_hl3 p3 p4 p5)) hZ (ww hw 19 rfl) (ww hw 3 rfl) (by decide) (by decide)) q79a q79c (g := (mkF m 194 #[.val (.int p0), .val (.int p1), .val (.int p2), .val (.int p3), .val (.int p4), .val (.int p5), .val (.int (p0 &&& (3 : Int32))), .val (.int (p1 &&& (3 : Int32))), .val (.int (p3 &&& (3 : Int32))), .val (.int (p4 &&& (3 : Int32))), .val (.int (p5 &&& (3 : Int32))), .val (.int (p2 &&& (3 : Int32))), .val (.ref b1), .val (.ref b7), .val (.ref b19), .val (.ref b23), .val (.int (1 : Int32)), s17] [(.ref b7), (.ref b23)])) rfl (by rw [hml]; rfl) (Steps.refl _) (argsL := [(.ref b7)]) (rest := []) (lenOf pd__40__91_I_41_V rfl) rfl (by show 2 * 0 + _ ≤ _; exact Nat.le_of_eq rfl) (hb hby at_194) (fun _ _ => ⟨rfl, e78, (by decide : 6 + 0 ≤ _), (by decide : 22 + 0 ≤ _)⟩)
      dsimp only [Pt.U, Pt.locs, Pt.cells, Pt.slots] at X79 l79 y79 z79 st79 hQ79
      subst l79 y79 z79
      obtain ⟨f179, g179, sz179, rfl, N79q, Kq79, Fa80, Fa81, Fa82, Fa83, Fa84, Fa85, Fa86, hR1_79⟩ := hQ79
      have N79 := Fr.app N78 N79q
      have K79 : Keep h0 T79.heap [] := K78.trans Kq79 (allS (P := fun x => x ∈ [] ∨ h0.size ≤ x) (Or.inr sz_b23) (allS (P := fun x => x ∈ [] ∨ h0.size ≤ x) (Or.inr sz_ca31) (allS (P := fun x => x ∈ [] ∨ h0.size ≤ x) (Or.inr sz_wa31) all0)))
      have Z79 : n0 ≤ T79.heap.size := Nat.le_trans Z78 Kq79.1
      have Fa87 : PI Z T79.heap b1 .int 2 (own_l [(p0 &&& (3 : Int32)), (p1 &&& (3 : Int32))]) := F78_0.keep Kq79 (ninS ne_b1_b23 (ninS ne_b1_ca31 (ninS ne_b1_wa31 nin0)))
      have Fa88 : PI Z T79.heap b7 .int 3 (own_l [(p3 &&& (3 : Int32)), (p4 &&& (3 : Int32)), (p5 &&& (3 : Int32))]) := F78_1.keep Kq79 (ninS ne_b7_b23 (ninS ne_b7_ca31 (ninS ne_b7_wa31 nin0)))
      have Fa89 : Exa Z T79.heap b23 "com/example/lootpath/lootpath/solve/CityQueue" := F78_2.keep Kq79
      have Fa90 : PI Z T79.heap b19 .int 5 mg := F78_9.keep Kq79 (ninS ne_b19_b23 (ninS ne_b19_ca31 (ninS ne_b19_wa31 nin0)))
      refine goT (u' := T79.setTop (mkF m 197 #[.val (.int p0), .val (.int p1), .val (.int p2), .val (.int p3), .val (.int p4), .val (.int p5), .val (.int (p0 &&& (3 : Int32))), .val (.int (p1 &&& (3 : Int32))), .val (.int (p3 &&& (3 : Int32))), .val (.int (p4 &&& (3 : Int32))), .val (.int (p5 &&& (3 : Int32))), .val (.int (p2 &&& (3 : Int32))), .val (.ref b1), .val (.ref b7), .val (.ref b19), .val (.ref b23), .val (.int (1 : Int32)), s17] [])) st79 ?_
      refine go (u' := T79.setTop (mkF m 199 #[.val (.int p0), .val (.int p1), .val (.int p2), .val (.int p3), .val (.int p4), .val (.int p5), .val (.int (p0 &&& (3 : Int32))), .val (.int (p1 &&& (3 : Int32))), .val (.int (p3 &&& (3 : Int32))), .val (.int (p4 &&& (3 : Int32))), .val (.int (p5 &&& (3 : Int32))), .val (.int (p2 &&& (3 : Int32))), .val (.ref b1), .val (.ref b7), .val (.ref b19), .val (.ref b23), .val (.int (1 : Int32)), s17] [(.ref b19)])) (fun _ ks_ => XS.aload X79.here hx rfl (hb hby at_197) rfl rfl ks_) ?_
      refine go (u' := T79.setTop (mkF m 201 #[.val (.int p0), .val (.int p1), .val (.int p2), .val (.int p3), .val (.int p4), .val (.int p5), .val (.int (p0 &&& (3 : Int32))), .val (.int (p1 &&& (3 : Int32))), .val (.int (p3 &&& (3 : Int32))), .val (.int (p4 &&& (3 : Int32))), .val (.int (p5 &&& (3 : Int32))), .val (.int (p2 &&& (3 : Int32))), .val (.ref b1), .val (.ref b7), .val (.ref b19), .val (.ref b23), .val (.int (1 : Int32)), s17] [(.int (p3 &&& (3 : Int32))), (.ref b19)])) (fun _ ks_ => XS.iload X79.here hx rfl (hb hby at_199) rfl  ks_) ?_
      obtain ⟨_, _, ⟨T91, L91, k91, n91⟩, -, X91, ⟨Lc91, hQ91, l91, y91, z91⟩, st91⟩ := Jvm.LawKit.callS X79 hx (y := (⟨"com/example/lootpath/lootpath/solve/CityQueueAddPinLaw", "put", "([II)V"⟩ : MethodName)) hown (mvT hZ (ww hw 24 rfl)) (mvT hZ (ww hw 25 rfl)) (mvT hZ (ww hw 26 rfl)) (mvT hZ (ww hw 27 rfl)) (by decide) (backOf (W := 0) (rm4 l Z a0 hw [] b19 (p3 &&& (3 : Int32)) mg xs T79.heap n0 Z79 g_b19 Fa90 hM (own_and3 p3)) hZ (ww hw 27 rfl) (ww hw 26 rfl) (by decide) (by decide)) (g := (mkF m 201 #[.val (.int p0), .val (.int p1), .val (.int p2), .val (.int p3), .val (.int p4), .val (.int p5), .val (.int (p0 &&& (3 : Int32))), .val (.int (p1 &&& (3 : Int32))), .val (.int (p3 &&& (3 : Int32))), .val (.int (p4 &&& (3 : Int32))), .val (.int (p5 &&& (3 : Int32))), .val (.int (p2 &&& (3 : Int32))), .val (.ref b1), .val (.ref b7), .val (.ref b19), .val (.ref b23), .val (.int (1 : Int32)), s17] [(.int (p3 &&& (3 : Int32))), (.ref b19)])) rfl (by rw [hml]; rfl) (argsL := [(.ref b19), (.int (p3 &&& (3 : Int32)))]) (rest := []) (lenOf pd__40__91_II_41_V rfl) rfl (by show 2 * 0 + _ ≤ _; exact Nat.le_of_eq rfl) (hb hby at_201) (fun _ _ => ⟨rfl, (rfl : T79.heap = _), (by decide : 6 + 0 ≤ _), (by decide : 22 + 0 ≤ _)⟩)
      dsimp only [Pt.U, Pt.locs, Pt.cells, Pt.slots] at X91 l91 y91 z91 st91 hQ91
      subst l91 y91 z91
      obtain ⟨g191, rfl, N91q, Kq91, Fa92, hM1_91⟩ := hQ91
      have N91 := Fr.app N79 N91q
      have K91 : Keep h0 T91.heap [] := K79.trans Kq91 (allS (P := fun x => x ∈ [] ∨ h0.size ≤ x) (Or.inr sz_b19) all0)
      have Z91 : n0 ≤ T91.heap.size := Nat.le_trans Z79 Kq91.1
      have Fa93 : PI Z T91.heap b1 .int 2 (own_l [(p0 &&& (3 : Int32)), (p1 &&& (3 : Int32))]) := Fa87.keep Kq91 (ninS ne_b1_b19 nin0)
      have Fa94 : PI Z T91.heap b7 .int 3 (own_l [(p3 &&& (3 : Int32)), (p4 &&& (3 : Int32)), (p5 &&& (3 : Int32))]) := Fa88.keep Kq91 (ninS ne_b7_b19 nin0)
      have Fa95 : Exa Z T91.heap b23 "com/example/lootpath/lootpath/solve/CityQueue" := Fa80.keep Kq91
      have Fa96 : Fld Z T91.heap b23 "com/example/lootpath/lootpath/solve/CityQueue" "cities" "[I" (.ref ca31) := Fa81.keep Kq91 (ninS (Ne.symm ne_b19_b23) nin0)
      have Fa97 : Fld Z T91.heap b23 "com/example/lootpath/lootpath/solve/CityQueue" "waiting" "[Z" (.ref wa31) := Fa82.keep Kq91 (ninS (Ne.symm ne_b19_b23) nin0)
      have Fa98 : Fld Z T91.heap b23 "com/example/lootpath/lootpath/solve/CityQueue" "head" "I" (.int hd) := Fa83.keep Kq91 (ninS (Ne.symm ne_b19_b23) nin0)
      have Fa99 : Fld Z T91.heap b23 "com/example/lootpath/lootpath/solve/CityQueue" "size" "I" (.int sz179) := Fa84.keep Kq91 (ninS (Ne.symm ne_b19_b23) nin0)
      have Fa100 : PI Z T91.heap ca31 .int (4 : Int32).toNatClampNeg f179 := Fa85.keep Kq91 (ninS (Ne.symm ne_b19_ca31) nin0)
      have Fa101 : PI Z T91.heap wa31 .boolean (4 : Int32).toNatClampNeg g179 := Fa86.keep Kq91 (ninS (Ne.symm ne_b19_wa31) nin0)
      refine go (u' := T91.setTop (mkF m 204 #[.val (.int p0), .val (.int p1), .val (.int p2), .val (.int p3), .val (.int p4), .val (.int p5), .val (.int (p0 &&& (3 : Int32))), .val (.int (p1 &&& (3 : Int32))), .val (.int (p3 &&& (3 : Int32))), .val (.int (p4 &&& (3 : Int32))), .val (.int (p5 &&& (3 : Int32))), .val (.int (p2 &&& (3 : Int32))), .val (.ref b1), .val (.ref b7), .val (.ref b19), .val (.ref b23), .val (.int (1 : Int32)), s17] [])) st91 ?_
      refine go (u' := T91.setTop (mkF m 206 #[.val (.int p0), .val (.int p1), .val (.int p2), .val (.int p3), .val (.int p4), .val (.int p5), .val (.int (p0 &&& (3 : Int32))), .val (.int (p1 &&& (3 : Int32))), .val (.int (p3 &&& (3 : Int32))), .val (.int (p4 &&& (3 : Int32))), .val (.int (p5 &&& (3 : Int32))), .val (.int (p2 &&& (3 : Int32))), .val (.ref b1), .val (.ref b7), .val (.ref b19), .val (.ref b23), .val (.int (1 : Int32)), s17] [(.ref b19)])) (fun _ ks_ => XS.aload X91.here hx rfl (hb hby at_204) rfl rfl ks_) ?_
      refine go (u' := T91.setTop (mkF m 208 #[.val (.int p0), .val (.int p1), .val (.int p2), .val (.int p3), .val (.int p4), .val (.int p5), .val (.int (p0 &&& (3 : Int32))), .val (.int (p1 &&& (3 : Int32))), .val (.int (p3 &&& (3 : Int32))), .val (.int (p4 &&& (3 : Int32))), .val (.int (p5 &&& (3 : Int32))), .val (.int (p2 &&& (3 : Int32))), .val (.ref b1), .val (.ref b7), .val (.ref b19), .val (.ref b23), .val (.int (1 : Int32)), s17] [(.int (p4 &&& (3 : Int32))), (.ref b19)])) (fun _ ks_ => XS.iload X91.here hx rfl (hb hby at_206) rfl  ks_) ?_
      obtain ⟨_, _, ⟨T102, L102, k102, n102⟩, -, X102, ⟨Lc102, hQ102, l102, y102, z102⟩, st102⟩ := Jvm.LawKit.callS X91 hx (y := (⟨"com/example/lootpath/lootpath/solve/CityQueueAddPinLaw", "put", "([II)V"⟩ : MethodName)) hown (mvT hZ (ww hw 24 rfl)) (mvT hZ (ww hw 25 rfl)) (mvT hZ (ww hw 26 rfl)) (mvT hZ (ww hw 27 rfl)) (by decide) (backOf (W := 0) (rm4 l Z a0 hw [] b19 (p4 &&& (3 : Int32)) g191 (add1 xs (p3 &&& (3 : Int32))) T91.heap n0 Z91 g_b19 Fa92 hM1_91 (own_and3 p4)) hZ (ww hw 27 rfl) (ww hw 26 rfl) (by decide) (by decide)) (g := (mkF m 208 #[.val (.int p0), .val (.int p1), .val (.int p2), .val (.int p3), .val (.int p4), .val (.int p5), .val (.int (p0 &&& (3 : Int32))), .val (.int (p1 &&& (3 : Int32))), .val (.int (p3 &&& (3 : Int32))), .val (.int (p4 &&& (3 : Int32))), .val (.int (p5 &&& (3 : Int32))), .val (.int (p2 &&& (3 : Int32))), .val (.ref b1), .val (.ref b7), .val (.ref b19), .val (.ref b23), .val (.int (1 : Int32)), s17] [(.int (p4 &&& (3 : Int32))), (.ref b19)])) rfl (by rw [hml]; rfl) (argsL := [(.ref b19), (.int (p4 &&& (3 : Int32)))]) (rest := []) (lenOf pd__40__91_II_41_V rfl) rfl (by show 2 * 0 + _ ≤ _; exact Nat.le_of_eq rfl) (hb hby at_208) (fun _ _ => ⟨rfl, (rfl : T91.heap = _), (by decide : 6 + 0 ≤ _), (by decide : 22 + 0 ≤ _)⟩)
      dsimp only [Pt.U, Pt.locs, Pt.cells, Pt.slots] at X102 l102 y102 z102 st102 hQ102
      subst l102 y102 z102
      obtain ⟨g1102, rfl, N102q, Kq102, Fa103, hM1_102⟩ := hQ102
      have N102 := Fr.app N91 N102q
      have K102 : Keep h0 T102.heap [] := K91.trans Kq102 (allS (P := fun x => x ∈ [] ∨ h0.size ≤ x) (Or.inr sz_b19) all0)
      have Z102 : n0 ≤ T102.heap.size := Nat.le_trans Z91 Kq102.1
      have Fa104 : PI Z T102.heap b1 .int 2 (own_l [(p0 &&& (3 : Int32)), (p1 &&& (3 : Int32))]) := Fa93.keep Kq102 (ninS ne_b1_b19 nin0)
      have Fa105 : PI Z T102.heap b7 .int 3 (own_l [(p3 &&& (3 : Int32)), (p4 &&& (3 : Int32)), (p5 &&& (3 : Int32))]) := Fa94.keep Kq102 (ninS ne_b7_b19 nin0)
      have Fa106 : Exa Z T102.heap b23 "com/example/lootpath/lootpath/solve/CityQueue" := Fa95.keep Kq102
      have Fa107 : Fld Z T102.heap b23 "com/example/lootpath/lootpath/solve/CityQueue" "cities" "[I" (.ref ca31) := Fa96.keep Kq102 (ninS (Ne.symm ne_b19_b23) nin0)
      have Fa108 : Fld Z T102.heap b23 "com/example/lootpath/lootpath/solve/CityQueue" "waiting" "[Z" (.ref wa31) := Fa97.keep Kq102 (ninS (Ne.symm ne_b19_b23) nin0)
      have Fa109 : Fld Z T102.heap b23 "com/example/lootpath/lootpath/solve/CityQueue" "head" "I" (.int hd) := Fa98.keep Kq102 (ninS (Ne.symm ne_b19_b23) nin0)
      have Fa110 : Fld Z T102.heap b23 "com/example/lootpath/lootpath/solve/CityQueue" "size" "I" (.int sz179) := Fa99.keep Kq102 (ninS (Ne.symm ne_b19_b23) nin0)
      have Fa111 : PI Z T102.heap ca31 .int (4 : Int32).toNatClampNeg f179 := Fa100.keep Kq102 (ninS (Ne.symm ne_b19_ca31) nin0)
      have Fa112 : PI Z T102.heap wa31 .boolean (4 : Int32).toNatClampNeg g179 := Fa101.keep Kq102 (ninS (Ne.symm ne_b19_wa31) nin0)
      refine go (u' := T102.setTop (mkF m 211 #[.val (.int p0), .val (.int p1), .val (.int p2), .val (.int p3), .val (.int p4), .val (.int p5), .val (.int (p0 &&& (3 : Int32))), .val (.int (p1 &&& (3 : Int32))), .val (.int (p3 &&& (3 : Int32))), .val (.int (p4 &&& (3 : Int32))), .val (.int (p5 &&& (3 : Int32))), .val (.int (p2 &&& (3 : Int32))), .val (.ref b1), .val (.ref b7), .val (.ref b19), .val (.ref b23), .val (.int (1 : Int32)), s17] [])) st102 ?_
      refine go (u' := T102.setTop (mkF m 213 #[.val (.int p0), .val (.int p1), .val (.int p2), .val (.int p3), .val (.int p4), .val (.int p5), .val (.int (p0 &&& (3 : Int32))), .val (.int (p1 &&& (3 : Int32))), .val (.int (p3 &&& (3 : Int32))), .val (.int (p4 &&& (3 : Int32))), .val (.int (p5 &&& (3 : Int32))), .val (.int (p2 &&& (3 : Int32))), .val (.ref b1), .val (.ref b7), .val (.ref b19), .val (.ref b23), .val (.int (1 : Int32)), s17] [(.ref b19)])) (fun _ ks_ => XS.aload X102.here hx rfl (hb hby at_211) rfl rfl ks_) ?_
      refine go (u' := T102.setTop (mkF m 215 #[.val (.int p0), .val (.int p1), .val (.int p2), .val (.int p3), .val (.int p4), .val (.int p5), .val (.int (p0 &&& (3 : Int32))), .val (.int (p1 &&& (3 : Int32))), .val (.int (p3 &&& (3 : Int32))), .val (.int (p4 &&& (3 : Int32))), .val (.int (p5 &&& (3 : Int32))), .val (.int (p2 &&& (3 : Int32))), .val (.ref b1), .val (.ref b7), .val (.ref b19), .val (.ref b23), .val (.int (1 : Int32)), s17] [(.int (p5 &&& (3 : Int32))), (.ref b19)])) (fun _ ks_ => XS.iload X102.here hx rfl (hb hby at_213) rfl  ks_) ?_
      obtain ⟨_, _, ⟨T113, L113, k113, n113⟩, -, X113, ⟨Lc113, hQ113, l113, y113, z113⟩, st113⟩ := Jvm.LawKit.callS X102 hx (y := (⟨"com/example/lootpath/lootpath/solve/CityQueueAddPinLaw", "put", "([II)V"⟩ : MethodName)) hown (mvT hZ (ww hw 24 rfl)) (mvT hZ (ww hw 25 rfl)) (mvT hZ (ww hw 26 rfl)) (mvT hZ (ww hw 27 rfl)) (by decide) (backOf (W := 0) (rm4 l Z a0 hw [] b19 (p5 &&& (3 : Int32)) g1102 (add1 (add1 xs (p3 &&& (3 : Int32))) (p4 &&& (3 : Int32))) T102.heap n0 Z102 g_b19 Fa103 hM1_102 (own_and3 p5)) hZ (ww hw 27 rfl) (ww hw 26 rfl) (by decide) (by decide)) (g := (mkF m 215 #[.val (.int p0), .val (.int p1), .val (.int p2), .val (.int p3), .val (.int p4), .val (.int p5), .val (.int (p0 &&& (3 : Int32))), .val (.int (p1 &&& (3 : Int32))), .val (.int (p3 &&& (3 : Int32))), .val (.int (p4 &&& (3 : Int32))), .val (.int (p5 &&& (3 : Int32))), .val (.int (p2 &&& (3 : Int32))), .val (.ref b1), .val (.ref b7), .val (.ref b19), .val (.ref b23), .val (.int (1 : Int32)), s17] [(.int (p5 &&& (3 : Int32))), (.ref b19)])) rfl (by rw [hml]; rfl) (argsL := [(.ref b19), (.int (p5 &&& (3 : Int32)))]) (rest := []) (lenOf pd__40__91_II_41_V rfl) rfl (by show 2 * 0 + _ ≤ _; exact Nat.le_of_eq rfl) (hb hby at_215) (fun _ _ => ⟨rfl, (rfl : T102.heap = _), (by decide : 6 + 0 ≤ _), (by decide : 22 + 0 ≤ _)⟩)
      dsimp only [Pt.U, Pt.locs, Pt.cells, Pt.slots] at X113 l113 y113 z113 st113 hQ113
      subst l113 y113 z113
      obtain ⟨g1113, rfl, N113q, Kq113, Fa114, hM1_113⟩ := hQ113
      have N113 := Fr.app N102 N113q
      have K113 : Keep h0 T113.heap [] := K102.trans Kq113 (allS (P := fun x => x ∈ [] ∨ h0.size ≤ x) (Or.inr sz_b19) all0)
      have Z113 : n0 ≤ T113.heap.size := Nat.le_trans Z102 Kq113.1
      have Fa115 : PI Z T113.heap b1 .int 2 (own_l [(p0 &&& (3 : Int32)), (p1 &&& (3 : Int32))]) := Fa104.keep Kq113 (ninS ne_b1_b19 nin0)
      have Fa116 : PI Z T113.heap b7 .int 3 (own_l [(p3 &&& (3 : Int32)), (p4 &&& (3 : Int32)), (p5 &&& (3 : Int32))]) := Fa105.keep Kq113 (ninS ne_b7_b19 nin0)
      have Fa117 : Exa Z T113.heap b23 "com/example/lootpath/lootpath/solve/CityQueue" := Fa106.keep Kq113
      have Fa118 : Fld Z T113.heap b23 "com/example/lootpath/lootpath/solve/CityQueue" "cities" "[I" (.ref ca31) := Fa107.keep Kq113 (ninS (Ne.symm ne_b19_b23) nin0)
      have Fa119 : Fld Z T113.heap b23 "com/example/lootpath/lootpath/solve/CityQueue" "waiting" "[Z" (.ref wa31) := Fa108.keep Kq113 (ninS (Ne.symm ne_b19_b23) nin0)
      have Fa120 : Fld Z T113.heap b23 "com/example/lootpath/lootpath/solve/CityQueue" "head" "I" (.int hd) := Fa109.keep Kq113 (ninS (Ne.symm ne_b19_b23) nin0)
      have Fa121 : Fld Z T113.heap b23 "com/example/lootpath/lootpath/solve/CityQueue" "size" "I" (.int sz179) := Fa110.keep Kq113 (ninS (Ne.symm ne_b19_b23) nin0)
      have Fa122 : PI Z T113.heap ca31 .int (4 : Int32).toNatClampNeg f179 := Fa111.keep Kq113 (ninS (Ne.symm ne_b19_ca31) nin0)
      have Fa123 : PI Z T113.heap wa31 .boolean (4 : Int32).toNatClampNeg g179 := Fa112.keep Kq113 (ninS (Ne.symm ne_b19_wa31) nin0)
      refine go (u' := T113.setTop (mkF m 218 #[.val (.int p0), .val (.int p1), .val (.int p2), .val (.int p3), .val (.int p4), .val (.int p5), .val (.int (p0 &&& (3 : Int32))), .val (.int (p1 &&& (3 : Int32))), .val (.int (p3 &&& (3 : Int32))), .val (.int (p4 &&& (3 : Int32))), .val (.int (p5 &&& (3 : Int32))), .val (.int (p2 &&& (3 : Int32))), .val (.ref b1), .val (.ref b7), .val (.ref b19), .val (.ref b23), .val (.int (1 : Int32)), s17] [])) st113 ?_
      obtain ⟨xa254, hxa254⟩ : ∃ z : List Int32, z = (addAll xs [(p3 &&& (3 : Int32)), (p4 &&& (3 : Int32)), (p5 &&& (3 : Int32))]) := ⟨_, rfl⟩
      have hR254 : Rep ((4 : Int32).toNatClampNeg) f179 g179 hd sz179 xa254 := by rw [hxa254]; exact hR1_79
      have hM254 : MA g1113 xa254 := by rw [hxa254]; exact hM1_113
      have hL254 : xa254.length ≤ 4 := hM254.len
      have C254_3 : ∀ (f : Nat → Int32) (g : Nat → Int32) (hd : Int32) (sz : Int32) (xs : List Int32) (mg : Nat → Int32) (s17 : Slot) (T124 : State) (h124 : Heap) (Ls124 : List Loc), (Stand p l e room_1 s m #[(.int p0), (.int p1), (.int p2), (.int p3), (.int p4), (.int p5)] below meth c T124 Ls124 6 22) → (T124.heap = h124) → (Fr n0 Ls124) → (n0 ≤ h124.size) → (Keep h0 h124 []) → (PI Z h124 b1 .int 2 (own_l [(p0 &&& (3 : Int32)), (p1 &&& (3 : Int32))])) → (PI Z h124 b7 .int 3 (own_l [(p3 &&& (3 : Int32)), (p4 &&& (3 : Int32)), (p5 &&& (3 : Int32))])) → (Exa Z h124 b23 "com/example/lootpath/lootpath/solve/CityQueue") → (Fld Z h124 b23 "com/example/lootpath/lootpath/solve/CityQueue" "cities" "[I" (.ref ca31)) → (Fld Z h124 b23 "com/example/lootpath/lootpath/solve/CityQueue" "waiting" "[Z" (.ref wa31)) → (Fld Z h124 b23 "com/example/lootpath/lootpath/solve/CityQueue" "head" "I" (.int hd)) → (Fld Z h124 b23 "com/example/lootpath/lootpath/solve/CityQueue" "size" "I" (.int sz)) → (PI Z h124 ca31 .int (4 : Int32).toNatClampNeg f) → (PI Z h124 wa31 .boolean (4 : Int32).toNatClampNeg g) → (PI Z h124 b19 .int 5 mg) → (Rep ((4 : Int32).toNatClampNeg) f g hd sz xs) → (MA mg xs) → (One s17) → (xs.length ≤ 3) → Go p.tables e below G (T124.setTop (mkF m 254 #[.val (.int p0), .val (.int p1), .val (.int p2), .val (.int p3), .val (.int p4), .val (.int p5), .val (.int (p0 &&& (3 : Int32))), .val (.int (p1 &&& (3 : Int32))), .val (.int (p3 &&& (3 : Int32))), .val (.int (p4 &&& (3 : Int32))), .val (.int (p5 &&& (3 : Int32))), .val (.int (p2 &&& (3 : Int32))), .val (.ref b1), .val (.ref b7), .val (.ref b19), .val (.ref b23), .val (.int (1 : Int32)), s17] [])) := by
        intro f g hd sz xs mg s17 T124 h124 Ls124 X124 e124 N124 Z124 K124 F124_0 F124_1 F124_2 F124_3 F124_4 F124_5 F124_6 F124_7 F124_8 F124_9 hR hM hs17 hL
        have C290_4 : ∀ (f : Nat → Int32) (g : Nat → Int32) (hd : Int32) (sz : Int32) (xs : List Int32) (mg : Nat → Int32) (s17 : Slot) (T125 : State) (h125 : Heap) (Ls125 : List Loc), (Stand p l e room_1 s m #[(.int p0), (.int p1), (.int p2), (.int p3), (.int p4), (.int p5)] below meth c T125 Ls125 6 22) → (T125.heap = h125) → (Fr n0 Ls125) → (n0 ≤ h125.size) → (Keep h0 h125 []) → (PI Z h125 b1 .int 2 (own_l [(p0 &&& (3 : Int32)), (p1 &&& (3 : Int32))])) → (PI Z h125 b7 .int 3 (own_l [(p3 &&& (3 : Int32)), (p4 &&& (3 : Int32)), (p5 &&& (3 : Int32))])) → (Exa Z h125 b23 "com/example/lootpath/lootpath/solve/CityQueue") → (Fld Z h125 b23 "com/example/lootpath/lootpath/solve/CityQueue" "cities" "[I" (.ref ca31)) → (Fld Z h125 b23 "com/example/lootpath/lootpath/solve/CityQueue" "waiting" "[Z" (.ref wa31)) → (Fld Z h125 b23 "com/example/lootpath/lootpath/solve/CityQueue" "head" "I" (.int hd)) → (Fld Z h125 b23 "com/example/lootpath/lootpath/solve/CityQueue" "size" "I" (.int sz)) → (PI Z h125 ca31 .int (4 : Int32).toNatClampNeg f) → (PI Z h125 wa31 .boolean (4 : Int32).toNatClampNeg g) → (PI Z h125 b19 .int 5 mg) → (Rep ((4 : Int32).toNatClampNeg) f g hd sz xs) → (MA mg xs) → (One s17) → (xs.length ≤ 2) → Go p.tables e below G (T125.setTop (mkF m 290 #[.val (.int p0), .val (.int p1), .val (.int p2), .val (.int p3), .val (.int p4), .val (.int p5), .val (.int (p0 &&& (3 : Int32))), .val (.int (p1 &&& (3 : Int32))), .val (.int (p3 &&& (3 : Int32))), .val (.int (p4 &&& (3 : Int32))), .val (.int (p5 &&& (3 : Int32))), .val (.int (p2 &&& (3 : Int32))), .val (.ref b1), .val (.ref b7), .val (.ref b19), .val (.ref b23), .val (.int (1 : Int32)), s17] [])) := by
          intro f g hd sz xs mg s17 T125 h125 Ls125 X125 e125 N125 Z125 K125 F125_0 F125_1 F125_2 F125_3 F125_4 F125_5 F125_6 F125_7 F125_8 F125_9 hR hM hs17 hL
          have C326_5 : ∀ (f : Nat → Int32) (g : Nat → Int32) (hd : Int32) (sz : Int32) (xs : List Int32) (mg : Nat → Int32) (s17 : Slot) (T126 : State) (h126 : Heap) (Ls126 : List Loc), (Stand p l e room_1 s m #[(.int p0), (.int p1), (.int p2), (.int p3), (.int p4), (.int p5)] below meth c T126 Ls126 6 22) → (T126.heap = h126) → (Fr n0 Ls126) → (n0 ≤ h126.size) → (Keep h0 h126 []) → (PI Z h126 b1 .int 2 (own_l [(p0 &&& (3 : Int32)), (p1 &&& (3 : Int32))])) → (PI Z h126 b7 .int 3 (own_l [(p3 &&& (3 : Int32)), (p4 &&& (3 : Int32)), (p5 &&& (3 : Int32))])) → (Exa Z h126 b23 "com/example/lootpath/lootpath/solve/CityQueue") → (Fld Z h126 b23 "com/example/lootpath/lootpath/solve/CityQueue" "cities" "[I" (.ref ca31)) → (Fld Z h126 b23 "com/example/lootpath/lootpath/solve/CityQueue" "waiting" "[Z" (.ref wa31)) → (Fld Z h126 b23 "com/example/lootpath/lootpath/solve/CityQueue" "head" "I" (.int hd)) → (Fld Z h126 b23 "com/example/lootpath/lootpath/solve/CityQueue" "size" "I" (.int sz)) → (PI Z h126 ca31 .int (4 : Int32).toNatClampNeg f) → (PI Z h126 wa31 .boolean (4 : Int32).toNatClampNeg g) → (PI Z h126 b19 .int 5 mg) → (Rep ((4 : Int32).toNatClampNeg) f g hd sz xs) → (MA mg xs) → (One s17) → (xs.length ≤ 1) → Go p.tables e below G (T126.setTop (mkF m 326 #[.val (.int p0), .val (.int p1), .val (.int p2), .val (.int p3), .val (.int p4), .val (.int p5), .val (.int (p0 &&& (3 : Int32))), .val (.int (p1 &&& (3 : Int32))), .val (.int (p3 &&& (3 : Int32))), .val (.int (p4 &&& (3 : Int32))), .val (.int (p5 &&& (3 : Int32))), .val (.int (p2 &&& (3 : Int32))), .val (.ref b1), .val (.ref b7), .val (.ref b19), .val (.ref b23), .val (.int (1 : Int32)), s17] [])) := by
            intro f g hd sz xs mg s17 T126 h126 Ls126 X126 e126 N126 Z126 K126 F126_0 F126_1 F126_2 F126_3 F126_4 F126_5 F126_6 F126_7 F126_8 F126_9 hR hM hs17 hL
            have C362_6 : ∀ (f : Nat → Int32) (g : Nat → Int32) (hd : Int32) (sz : Int32) (xs : List Int32) (mg : Nat → Int32) (s17 : Slot) (T127 : State) (h127 : Heap) (Ls127 : List Loc), (Stand p l e room_1 s m #[(.int p0), (.int p1), (.int p2), (.int p3), (.int p4), (.int p5)] below meth c T127 Ls127 6 22) → (T127.heap = h127) → (Fr n0 Ls127) → (n0 ≤ h127.size) → (Keep h0 h127 []) → (PI Z h127 b1 .int 2 (own_l [(p0 &&& (3 : Int32)), (p1 &&& (3 : Int32))])) → (PI Z h127 b7 .int 3 (own_l [(p3 &&& (3 : Int32)), (p4 &&& (3 : Int32)), (p5 &&& (3 : Int32))])) → (Exa Z h127 b23 "com/example/lootpath/lootpath/solve/CityQueue") → (Fld Z h127 b23 "com/example/lootpath/lootpath/solve/CityQueue" "cities" "[I" (.ref ca31)) → (Fld Z h127 b23 "com/example/lootpath/lootpath/solve/CityQueue" "waiting" "[Z" (.ref wa31)) → (Fld Z h127 b23 "com/example/lootpath/lootpath/solve/CityQueue" "head" "I" (.int hd)) → (Fld Z h127 b23 "com/example/lootpath/lootpath/solve/CityQueue" "size" "I" (.int sz)) → (PI Z h127 ca31 .int (4 : Int32).toNatClampNeg f) → (PI Z h127 wa31 .boolean (4 : Int32).toNatClampNeg g) → (PI Z h127 b19 .int 5 mg) → (Rep ((4 : Int32).toNatClampNeg) f g hd sz xs) → (MA mg xs) → (One s17) → (xs.length ≤ 0) → Go p.tables e below G (T127.setTop (mkF m 362 #[.val (.int p0), .val (.int p1), .val (.int p2), .val (.int p3), .val (.int p4), .val (.int p5), .val (.int (p0 &&& (3 : Int32))), .val (.int (p1 &&& (3 : Int32))), .val (.int (p3 &&& (3 : Int32))), .val (.int (p4 &&& (3 : Int32))), .val (.int (p5 &&& (3 : Int32))), .val (.int (p2 &&& (3 : Int32))), .val (.ref b1), .val (.ref b7), .val (.ref b19), .val (.ref b23), .val (.int (1 : Int32)), s17] [])) := by
              intro f g hd sz xs mg s17 T127 h127 Ls127 X127 e127 N127 Z127 K127 F127_0 F127_1 F127_2 F127_3 F127_4 F127_5 F127_6 F127_7 F127_8 F127_9 hR hM hs17 hL
              refine go (u' := T127.setTop (mkF m 364 #[.val (.int p0), .val (.int p1), .val (.int p2), .val (.int p3), .val (.int p4), .val (.int p5), .val (.int (p0 &&& (3 : Int32))), .val (.int (p1 &&& (3 : Int32))), .val (.int (p3 &&& (3 : Int32))), .val (.int (p4 &&& (3 : Int32))), .val (.int (p5 &&& (3 : Int32))), .val (.int (p2 &&& (3 : Int32))), .val (.ref b1), .val (.ref b7), .val (.ref b19), .val (.ref b23), .val (.int (1 : Int32)), s17] [(.ref b23)])) (fun _ ks_ => XS.aload X127.here hx rfl (hb hby at_362) rfl rfl ks_) ?_
              obtain ⟨cq128, kq128, q128a, q128b, q128c⟩ := isOf hZ e127 F127_2
              obtain ⟨_, _, ⟨T128, L128, k128, n128⟩, -, X128, ⟨Lc128, hQ128, l128, y128, z128⟩, st128⟩ := X127.virtualBack hx (y := (⟨"com/example/lootpath/lootpath/solve/CityQueue", "isEmpty", "()Z"⟩ : MethodName)) (z := (⟨"com/example/lootpath/lootpath/solve/CityQueue", "isEmpty", "()Z"⟩ : MethodName)) hown (mvT hZ (ww hw 36 rfl)) (mvT hZ (ww hw 37 rfl)) (notFace_of_selects (args := #[]) (mvT hZ (ww hw 39 rfl))) (mvT hZ (ww hw 39 rfl)) (mvT hZ (ww hw 38 rfl)) (by decide) (backOf (W := 0) (rm7 l Z a0 hw [] b23 sz h127 n0 Z127 F127_6) hZ (ww hw 40 rfl) (ww hw 3 rfl) (by decide) (by decide)) q128a q128c (g := (mkF m 364 #[.val (.int p0), .val (.int p1), .val (.int p2), .val (.int p3), .val (.int p4), .val (.int p5), .val (.int (p0 &&& (3 : Int32))), .val (.int (p1 &&& (3 : Int32))), .val (.int (p3 &&& (3 : Int32))), .val (.int (p4 &&& (3 : Int32))), .val (.int (p5 &&& (3 : Int32))), .val (.int (p2 &&& (3 : Int32))), .val (.ref b1), .val (.ref b7), .val (.ref b19), .val (.ref b23), .val (.int (1 : Int32)), s17] [(.ref b23)])) rfl (by rw [hml]; rfl) (Steps.refl _) (argsL := []) (rest := []) (lenOf pd__40__41_Z rfl) rfl (by show 2 * 0 + _ ≤ _; exact Nat.le_of_eq rfl) (hb hby at_364) (fun _ _ => ⟨rfl, e127, (by decide : 6 + 0 ≤ _), (by decide : 22 + 0 ≤ _)⟩)
              dsimp only [Pt.U, Pt.locs, Pt.cells, Pt.slots] at X128 l128 y128 z128 st128 hQ128
              subst l128 y128 z128
              obtain ⟨rfl, N128q, eq128⟩ := hQ128
              have N128 := Fr.app N127 N128q
              refine goT (u' := T128.setTop (mkF m 367 #[.val (.int p0), .val (.int p1), .val (.int p2), .val (.int p3), .val (.int p4), .val (.int p5), .val (.int (p0 &&& (3 : Int32))), .val (.int (p1 &&& (3 : Int32))), .val (.int (p3 &&& (3 : Int32))), .val (.int (p4 &&& (3 : Int32))), .val (.int (p5 &&& (3 : Int32))), .val (.int (p2 &&& (3 : Int32))), .val (.ref b1), .val (.ref b7), .val (.ref b19), .val (.ref b23), .val (.int (1 : Int32)), s17] [(.int (B (sz = (0 : Int32))))])) st128 ?_
              refine go (u' := T128.setTop (mkF m 369 #[.val (.int p0), .val (.int p1), .val (.int p2), .val (.int p3), .val (.int p4), .val (.int p5), .val (.int (p0 &&& (3 : Int32))), .val (.int (p1 &&& (3 : Int32))), .val (.int (p3 &&& (3 : Int32))), .val (.int (p4 &&& (3 : Int32))), .val (.int (p5 &&& (3 : Int32))), .val (.int (p2 &&& (3 : Int32))), .val (.ref b1), .val (.ref b7), .val (.ref b19), .val (.ref b23), .val (.int (1 : Int32)), .val (.int (B (sz = (0 : Int32))))] [])) (fun _ ks_ => XS.istoreS X128.here hx rfl (hb hby at_367) rfl  rfl hs17 ks_) ?_
              refine go (u' := T128.setTop (mkF m 371 #[.val (.int p0), .val (.int p1), .val (.int p2), .val (.int p3), .val (.int p4), .val (.int p5), .val (.int (p0 &&& (3 : Int32))), .val (.int (p1 &&& (3 : Int32))), .val (.int (p3 &&& (3 : Int32))), .val (.int (p4 &&& (3 : Int32))), .val (.int (p5 &&& (3 : Int32))), .val (.int (p2 &&& (3 : Int32))), .val (.ref b1), .val (.ref b7), .val (.ref b19), .val (.ref b23), .val (.int (1 : Int32)), .val (.int (B (sz = (0 : Int32))))] [(.int (1 : Int32))])) (fun _ ks_ => XS.iload X128.here hx rfl (hb hby at_369) rfl  ks_) ?_
              refine go (u' := T128.setTop (mkF m 374 #[.val (.int p0), .val (.int p1), .val (.int p2), .val (.int p3), .val (.int p4), .val (.int p5), .val (.int (p0 &&& (3 : Int32))), .val (.int (p1 &&& (3 : Int32))), .val (.int (p3 &&& (3 : Int32))), .val (.int (p4 &&& (3 : Int32))), .val (.int (p5 &&& (3 : Int32))), .val (.int (p2 &&& (3 : Int32))), .val (.ref b1), .val (.ref b7), .val (.ref b19), .val (.ref b23), .val (.int (1 : Int32)), .val (.int (B (sz = (0 : Int32))))] [])) (fun _ ks_ => XS.ifNo X128.here hx rfl (hb hby at_371) rfl ((if0 _ _).trans (feq (show ¬ ((1 : Int32) = (0 : Int32)) from (by decide))).1) ks_) ?_
              refine go (u' := T128.setTop (mkF m 376 #[.val (.int p0), .val (.int p1), .val (.int p2), .val (.int p3), .val (.int p4), .val (.int p5), .val (.int (p0 &&& (3 : Int32))), .val (.int (p1 &&& (3 : Int32))), .val (.int (p3 &&& (3 : Int32))), .val (.int (p4 &&& (3 : Int32))), .val (.int (p5 &&& (3 : Int32))), .val (.int (p2 &&& (3 : Int32))), .val (.ref b1), .val (.ref b7), .val (.ref b19), .val (.ref b23), .val (.int (1 : Int32)), .val (.int (B (sz = (0 : Int32))))] [(.int (B (sz = (0 : Int32))))])) (fun _ ks_ => XS.iload X128.here hx rfl (hb hby at_374) rfl  ks_) ?_
              refine go (u' := T128.setTop (mkF m 379 #[.val (.int p0), .val (.int p1), .val (.int p2), .val (.int p3), .val (.int p4), .val (.int p5), .val (.int (p0 &&& (3 : Int32))), .val (.int (p1 &&& (3 : Int32))), .val (.int (p3 &&& (3 : Int32))), .val (.int (p4 &&& (3 : Int32))), .val (.int (p5 &&& (3 : Int32))), .val (.int (p2 &&& (3 : Int32))), .val (.ref b1), .val (.ref b7), .val (.ref b19), .val (.ref b23), .val (.int (1 : Int32)), .val (.int (B (sz = (0 : Int32))))] [])) (fun _ ks_ => XS.ifNo X128.here hx rfl (hb hby at_376) rfl (bT (show (sz = (0 : Int32)) from (hR.empty.mpr (List.length_eq_zero_iff.mp (Nat.le_zero.mp hL))))).2 ks_) ?_
              refine go (u' := T128.setTop (mkF m 380 #[.val (.int p0), .val (.int p1), .val (.int p2), .val (.int p3), .val (.int p4), .val (.int p5), .val (.int (p0 &&& (3 : Int32))), .val (.int (p1 &&& (3 : Int32))), .val (.int (p3 &&& (3 : Int32))), .val (.int (p4 &&& (3 : Int32))), .val (.int (p5 &&& (3 : Int32))), .val (.int (p2 &&& (3 : Int32))), .val (.ref b1), .val (.ref b7), .val (.ref b19), .val (.ref b23), .val (.int (1 : Int32)), .val (.int (B (sz = (0 : Int32))))] [(.int (1 : Int32))])) (fun _ ks_ => XS.iconst X128.here hx rfl (hb hby at_379) ks_) ?_
              refine go (u' := T128.setTop (mkF m 384 #[.val (.int p0), .val (.int p1), .val (.int p2), .val (.int p3), .val (.int p4), .val (.int p5), .val (.int (p0 &&& (3 : Int32))), .val (.int (p1 &&& (3 : Int32))), .val (.int (p3 &&& (3 : Int32))), .val (.int (p4 &&& (3 : Int32))), .val (.int (p5 &&& (3 : Int32))), .val (.int (p2 &&& (3 : Int32))), .val (.ref b1), .val (.ref b7), .val (.ref b19), .val (.ref b23), .val (.int (1 : Int32)), .val (.int (B (sz = (0 : Int32))))] [(.int (1 : Int32))])) (fun _ ks_ => XS.goto X128.here hx rfl (pc0 := 380) (pc' := 384) rfl (hb hby at_380) (by decide) (by decide) ks_) ?_
              rw [hG]
              refine gN X128 hx hlk (t := .boolean) hret (by simp) rfl (hb hby at_384) ?_ (Nat.le_of_ble_eq_true rfl) (Nat.le_of_ble_eq_true rfl)
              show Q_rm0 Z p0 p1 p2 p3 p4 p5 h0 n0 (some (.int (1 : Int32))) T128.heap _
              rw [eq128]
              exact ⟨rfl, N128⟩
            refine go (u' := T126.setTop (mkF m 328 #[.val (.int p0), .val (.int p1), .val (.int p2), .val (.int p3), .val (.int p4), .val (.int p5), .val (.int (p0 &&& (3 : Int32))), .val (.int (p1 &&& (3 : Int32))), .val (.int (p3 &&& (3 : Int32))), .val (.int (p4 &&& (3 : Int32))), .val (.int (p5 &&& (3 : Int32))), .val (.int (p2 &&& (3 : Int32))), .val (.ref b1), .val (.ref b7), .val (.ref b19), .val (.ref b23), .val (.int (1 : Int32)), s17] [(.ref b19)])) (fun _ ks_ => XS.aload X126.here hx rfl (hb hby at_326) rfl rfl ks_) ?_
            refine go (u' := T126.setTop (mkF m 329 #[.val (.int p0), .val (.int p1), .val (.int p2), .val (.int p3), .val (.int p4), .val (.int p5), .val (.int (p0 &&& (3 : Int32))), .val (.int (p1 &&& (3 : Int32))), .val (.int (p3 &&& (3 : Int32))), .val (.int (p4 &&& (3 : Int32))), .val (.int (p5 &&& (3 : Int32))), .val (.int (p2 &&& (3 : Int32))), .val (.ref b1), .val (.ref b7), .val (.ref b19), .val (.ref b23), .val (.int (1 : Int32)), s17] [(.int (4 : Int32)), (.ref b19)])) (fun _ ks_ => XS.iconst X126.here hx rfl (hb hby at_328) ks_) ?_
            refine go (u' := T126.setTop (mkF m 330 #[.val (.int p0), .val (.int p1), .val (.int p2), .val (.int p3), .val (.int p4), .val (.int p5), .val (.int (p0 &&& (3 : Int32))), .val (.int (p1 &&& (3 : Int32))), .val (.int (p3 &&& (3 : Int32))), .val (.int (p4 &&& (3 : Int32))), .val (.int (p5 &&& (3 : Int32))), .val (.int (p2 &&& (3 : Int32))), .val (.ref b1), .val (.ref b7), .val (.ref b19), .val (.ref b23), .val (.int (1 : Int32)), s17] [(.int (mg (4 : Int32).toNatClampNeg))])) (own_iaload X126 hx hZ e126 F126_9 (j := (4 : Int32)) (v := (mg (4 : Int32).toNatClampNeg)) (by decide) (by decide) rfl (f := (mkF m 329 #[.val (.int p0), .val (.int p1), .val (.int p2), .val (.int p3), .val (.int p4), .val (.int p5), .val (.int (p0 &&& (3 : Int32))), .val (.int (p1 &&& (3 : Int32))), .val (.int (p3 &&& (3 : Int32))), .val (.int (p4 &&& (3 : Int32))), .val (.int (p5 &&& (3 : Int32))), .val (.int (p2 &&& (3 : Int32))), .val (.ref b1), .val (.ref b7), .val (.ref b19), .val (.ref b23), .val (.int (1 : Int32)), s17] [(.int (4 : Int32)), (.ref b19)])) rfl rfl (hb hby at_329)) ?_
            by_cases c330_1 : (0 : Int32) < (mg (4 : Int32).toNatClampNeg)
            ·
              refine go (u' := T126.setTop (mkF m 333 #[.val (.int p0), .val (.int p1), .val (.int p2), .val (.int p3), .val (.int p4), .val (.int p5), .val (.int (p0 &&& (3 : Int32))), .val (.int (p1 &&& (3 : Int32))), .val (.int (p3 &&& (3 : Int32))), .val (.int (p4 &&& (3 : Int32))), .val (.int (p5 &&& (3 : Int32))), .val (.int (p2 &&& (3 : Int32))), .val (.ref b1), .val (.ref b7), .val (.ref b19), .val (.ref b23), .val (.int (1 : Int32)), s17] [])) (fun _ ks_ => XS.ifNo X126.here hx rfl (hb hby at_330) rfl ((if0 _ _).trans (tlt c330_1).2.2.2) ks_) ?_
              refine go (u' := T126.setTop (mkF m 335 #[.val (.int p0), .val (.int p1), .val (.int p2), .val (.int p3), .val (.int p4), .val (.int p5), .val (.int (p0 &&& (3 : Int32))), .val (.int (p1 &&& (3 : Int32))), .val (.int (p3 &&& (3 : Int32))), .val (.int (p4 &&& (3 : Int32))), .val (.int (p5 &&& (3 : Int32))), .val (.int (p2 &&& (3 : Int32))), .val (.ref b1), .val (.ref b7), .val (.ref b19), .val (.ref b23), .val (.int (1 : Int32)), s17] [(.ref b23)])) (fun _ ks_ => XS.aload X126.here hx rfl (hb hby at_333) rfl rfl ks_) ?_
              obtain ⟨y330, ys330, rfl⟩ := hM.cons c330_1
              obtain ⟨cq129, kq129, q129a, q129b, q129c⟩ := isOf hZ e126 F126_2
              obtain ⟨_, _, ⟨T129, L129, k129, n129⟩, -, X129, ⟨Lc129, hQ129, l129, y129, z129⟩, st129⟩ := X126.virtualBack hx (y := (⟨"com/example/lootpath/lootpath/solve/CityQueue", "take", "()I"⟩ : MethodName)) (z := (⟨"com/example/lootpath/lootpath/solve/CityQueue", "take", "()I"⟩ : MethodName)) hown (mvT hZ (ww hw 28 rfl)) (mvT hZ (ww hw 29 rfl)) (notFace_of_selects (args := #[]) (mvT hZ (ww hw 31 rfl))) (mvT hZ (ww hw 31 rfl)) (mvT hZ (ww hw 30 rfl)) (by decide) (backOf (W := 0) (rm5 l Z a0 hw [] b23 ca31 wa31 hd sz (4 : Int32).toNatClampNeg f g y330 ys330 h126 n0 Z126 g_b23 g_ca31 g_wa31 ne_b23_ca31 ne_b23_wa31 nca_31 F126_2 F126_3 F126_4 F126_5 F126_6 F126_7 F126_8 hR) hZ (ww hw 32 rfl) (ww hw 3 rfl) (by decide) (by decide)) q129a q129c (g := (mkF m 335 #[.val (.int p0), .val (.int p1), .val (.int p2), .val (.int p3), .val (.int p4), .val (.int p5), .val (.int (p0 &&& (3 : Int32))), .val (.int (p1 &&& (3 : Int32))), .val (.int (p3 &&& (3 : Int32))), .val (.int (p4 &&& (3 : Int32))), .val (.int (p5 &&& (3 : Int32))), .val (.int (p2 &&& (3 : Int32))), .val (.ref b1), .val (.ref b7), .val (.ref b19), .val (.ref b23), .val (.int (1 : Int32)), s17] [(.ref b23)])) rfl (by rw [hml]; rfl) (Steps.refl _) (argsL := []) (rest := []) (lenOf pd__40__41_I rfl) rfl (by show 2 * 0 + _ ≤ _; exact Nat.le_of_eq rfl) (hb hby at_335) (fun _ _ => ⟨rfl, e126, (by decide : 6 + 0 ≤ _), (by decide : 22 + 0 ≤ _)⟩)
              dsimp only [Pt.U, Pt.locs, Pt.cells, Pt.slots] at X129 l129 y129 z129 st129 hQ129
              subst l129 y129 z129
              obtain ⟨g1129, hd1129, sz1129, rfl, N129q, Kq129, Fa130, Fa131, Fa132, Fa133, Fa134, Fa135, Fa136, hR1_129⟩ := hQ129
              have N129 := Fr.app N126 N129q
              have K129 : Keep h0 T129.heap [] := K126.trans Kq129 (allS (P := fun x => x ∈ [] ∨ h0.size ≤ x) (Or.inr sz_b23) (allS (P := fun x => x ∈ [] ∨ h0.size ≤ x) (Or.inr sz_ca31) (allS (P := fun x => x ∈ [] ∨ h0.size ≤ x) (Or.inr sz_wa31) all0)))
              have Z129 : n0 ≤ T129.heap.size := Nat.le_trans Z126 Kq129.1
              have Fa137 : PI Z T129.heap b1 .int 2 (own_l [(p0 &&& (3 : Int32)), (p1 &&& (3 : Int32))]) := F126_0.keep Kq129 (ninS ne_b1_b23 (ninS ne_b1_ca31 (ninS ne_b1_wa31 nin0)))
              have Fa138 : PI Z T129.heap b7 .int 3 (own_l [(p3 &&& (3 : Int32)), (p4 &&& (3 : Int32)), (p5 &&& (3 : Int32))]) := F126_1.keep Kq129 (ninS ne_b7_b23 (ninS ne_b7_ca31 (ninS ne_b7_wa31 nin0)))
              have Fa139 : Exa Z T129.heap b23 "com/example/lootpath/lootpath/solve/CityQueue" := F126_2.keep Kq129
              have Fa140 : PI Z T129.heap b19 .int 5 mg := F126_9.keep Kq129 (ninS ne_b19_b23 (ninS ne_b19_ca31 (ninS ne_b19_wa31 nin0)))
              refine goT (u' := T129.setTop (mkF m 338 #[.val (.int p0), .val (.int p1), .val (.int p2), .val (.int p3), .val (.int p4), .val (.int p5), .val (.int (p0 &&& (3 : Int32))), .val (.int (p1 &&& (3 : Int32))), .val (.int (p3 &&& (3 : Int32))), .val (.int (p4 &&& (3 : Int32))), .val (.int (p5 &&& (3 : Int32))), .val (.int (p2 &&& (3 : Int32))), .val (.ref b1), .val (.ref b7), .val (.ref b19), .val (.ref b23), .val (.int (1 : Int32)), s17] [(.int y330)])) st129 ?_
              refine go (u' := T129.setTop (mkF m 340 #[.val (.int p0), .val (.int p1), .val (.int p2), .val (.int p3), .val (.int p4), .val (.int p5), .val (.int (p0 &&& (3 : Int32))), .val (.int (p1 &&& (3 : Int32))), .val (.int (p3 &&& (3 : Int32))), .val (.int (p4 &&& (3 : Int32))), .val (.int (p5 &&& (3 : Int32))), .val (.int (p2 &&& (3 : Int32))), .val (.ref b1), .val (.ref b7), .val (.ref b19), .val (.ref b23), .val (.int (1 : Int32)), .val (.int y330)] [])) (fun _ ks_ => XS.istoreS X129.here hx rfl (hb hby at_338) rfl  rfl hs17 ks_) ?_
              refine go (u' := T129.setTop (mkF m 342 #[.val (.int p0), .val (.int p1), .val (.int p2), .val (.int p3), .val (.int p4), .val (.int p5), .val (.int (p0 &&& (3 : Int32))), .val (.int (p1 &&& (3 : Int32))), .val (.int (p3 &&& (3 : Int32))), .val (.int (p4 &&& (3 : Int32))), .val (.int (p5 &&& (3 : Int32))), .val (.int (p2 &&& (3 : Int32))), .val (.ref b1), .val (.ref b7), .val (.ref b19), .val (.ref b23), .val (.int (1 : Int32)), .val (.int y330)] [(.int (1 : Int32))])) (fun _ ks_ => XS.iload X129.here hx rfl (hb hby at_340) rfl  ks_) ?_
              refine go (u' := T129.setTop (mkF m 345 #[.val (.int p0), .val (.int p1), .val (.int p2), .val (.int p3), .val (.int p4), .val (.int p5), .val (.int (p0 &&& (3 : Int32))), .val (.int (p1 &&& (3 : Int32))), .val (.int (p3 &&& (3 : Int32))), .val (.int (p4 &&& (3 : Int32))), .val (.int (p5 &&& (3 : Int32))), .val (.int (p2 &&& (3 : Int32))), .val (.ref b1), .val (.ref b7), .val (.ref b19), .val (.ref b23), .val (.int (1 : Int32)), .val (.int y330)] [])) (fun _ ks_ => XS.ifNo X129.here hx rfl (hb hby at_342) rfl ((if0 _ _).trans (feq (show ¬ ((1 : Int32) = (0 : Int32)) from (by decide))).1) ks_) ?_
              refine go (u' := T129.setTop (mkF m 347 #[.val (.int p0), .val (.int p1), .val (.int p2), .val (.int p3), .val (.int p4), .val (.int p5), .val (.int (p0 &&& (3 : Int32))), .val (.int (p1 &&& (3 : Int32))), .val (.int (p3 &&& (3 : Int32))), .val (.int (p4 &&& (3 : Int32))), .val (.int (p5 &&& (3 : Int32))), .val (.int (p2 &&& (3 : Int32))), .val (.ref b1), .val (.ref b7), .val (.ref b19), .val (.ref b23), .val (.int (1 : Int32)), .val (.int y330)] [(.int y330)])) (fun _ ks_ => XS.iload X129.here hx rfl (hb hby at_345) rfl  ks_) ?_
              refine go (u' := T129.setTop (mkF m 349 #[.val (.int p0), .val (.int p1), .val (.int p2), .val (.int p3), .val (.int p4), .val (.int p5), .val (.int (p0 &&& (3 : Int32))), .val (.int (p1 &&& (3 : Int32))), .val (.int (p3 &&& (3 : Int32))), .val (.int (p4 &&& (3 : Int32))), .val (.int (p5 &&& (3 : Int32))), .val (.int (p2 &&& (3 : Int32))), .val (.ref b1), .val (.ref b7), .val (.ref b19), .val (.ref b23), .val (.int (1 : Int32)), .val (.int y330)] [(.ref b19), (.int y330)])) (fun _ ks_ => XS.aload X129.here hx rfl (hb hby at_347) rfl rfl ks_) ?_
              obtain ⟨_, _, ⟨T141, L141, k141, n141⟩, -, X141, ⟨Lc141, hQ141, l141, y141, z141⟩, st141⟩ := Jvm.LawKit.callS X129 hx (y := (⟨"com/example/lootpath/lootpath/solve/CityQueueAddPinLaw", "pop", "([I)I"⟩ : MethodName)) hown (mvT hZ (ww hw 33 rfl)) (mvT hZ (ww hw 34 rfl)) (mvT hZ (ww hw 26 rfl)) (mvT hZ (ww hw 35 rfl)) (by decide) (backOf (W := 1) (rm6 l Z a0 hw [] b19 mg y330 ys330 T129.heap n0 Z129 g_b19 Fa140 hM) hZ (ww hw 35 rfl) (ww hw 26 rfl) (by decide) (by decide)) (g := (mkF m 349 #[.val (.int p0), .val (.int p1), .val (.int p2), .val (.int p3), .val (.int p4), .val (.int p5), .val (.int (p0 &&& (3 : Int32))), .val (.int (p1 &&& (3 : Int32))), .val (.int (p3 &&& (3 : Int32))), .val (.int (p4 &&& (3 : Int32))), .val (.int (p5 &&& (3 : Int32))), .val (.int (p2 &&& (3 : Int32))), .val (.ref b1), .val (.ref b7), .val (.ref b19), .val (.ref b23), .val (.int (1 : Int32)), .val (.int y330)] [(.ref b19), (.int y330)])) rfl (by rw [hml]; rfl) (argsL := [(.ref b19)]) (rest := [(.int y330)]) (lenOf pd__40__91_I_41_I rfl) rfl (by show 2 * 0 + _ ≤ _; exact Nat.le_of_eq rfl) (hb hby at_349) (fun _ _ => ⟨rfl, (rfl : T129.heap = _), (by decide : 6 + 0 ≤ _), (by decide : 22 + 0 ≤ _)⟩)
              dsimp only [Pt.U, Pt.locs, Pt.cells, Pt.slots] at X141 l141 y141 z141 st141 hQ141
              subst l141 y141 z141
              obtain ⟨g1141, rfl, N141q, Kq141, Fa142, hM1_141⟩ := hQ141
              have N141 := Fr.app N129 N141q
              have K141 : Keep h0 T141.heap [] := K129.trans Kq141 (allS (P := fun x => x ∈ [] ∨ h0.size ≤ x) (Or.inr sz_b19) all0)
              have Z141 : n0 ≤ T141.heap.size := Nat.le_trans Z129 Kq141.1
              have Fa143 : PI Z T141.heap b1 .int 2 (own_l [(p0 &&& (3 : Int32)), (p1 &&& (3 : Int32))]) := Fa137.keep Kq141 (ninS ne_b1_b19 nin0)
              have Fa144 : PI Z T141.heap b7 .int 3 (own_l [(p3 &&& (3 : Int32)), (p4 &&& (3 : Int32)), (p5 &&& (3 : Int32))]) := Fa138.keep Kq141 (ninS ne_b7_b19 nin0)
              have Fa145 : Exa Z T141.heap b23 "com/example/lootpath/lootpath/solve/CityQueue" := Fa130.keep Kq141
              have Fa146 : Fld Z T141.heap b23 "com/example/lootpath/lootpath/solve/CityQueue" "cities" "[I" (.ref ca31) := Fa131.keep Kq141 (ninS (Ne.symm ne_b19_b23) nin0)
              have Fa147 : Fld Z T141.heap b23 "com/example/lootpath/lootpath/solve/CityQueue" "waiting" "[Z" (.ref wa31) := Fa132.keep Kq141 (ninS (Ne.symm ne_b19_b23) nin0)
              have Fa148 : Fld Z T141.heap b23 "com/example/lootpath/lootpath/solve/CityQueue" "head" "I" (.int hd1129) := Fa133.keep Kq141 (ninS (Ne.symm ne_b19_b23) nin0)
              have Fa149 : Fld Z T141.heap b23 "com/example/lootpath/lootpath/solve/CityQueue" "size" "I" (.int sz1129) := Fa134.keep Kq141 (ninS (Ne.symm ne_b19_b23) nin0)
              have Fa150 : PI Z T141.heap ca31 .int (4 : Int32).toNatClampNeg f := Fa135.keep Kq141 (ninS (Ne.symm ne_b19_ca31) nin0)
              have Fa151 : PI Z T141.heap wa31 .boolean (4 : Int32).toNatClampNeg g1129 := Fa136.keep Kq141 (ninS (Ne.symm ne_b19_wa31) nin0)
              refine go (u' := T141.setTop (mkF m 352 #[.val (.int p0), .val (.int p1), .val (.int p2), .val (.int p3), .val (.int p4), .val (.int p5), .val (.int (p0 &&& (3 : Int32))), .val (.int (p1 &&& (3 : Int32))), .val (.int (p3 &&& (3 : Int32))), .val (.int (p4 &&& (3 : Int32))), .val (.int (p5 &&& (3 : Int32))), .val (.int (p2 &&& (3 : Int32))), .val (.ref b1), .val (.ref b7), .val (.ref b19), .val (.ref b23), .val (.int (1 : Int32)), .val (.int y330)] [(.int y330), (.int y330)])) st141 ?_
              refine go (u' := T141.setTop (mkF m 355 #[.val (.int p0), .val (.int p1), .val (.int p2), .val (.int p3), .val (.int p4), .val (.int p5), .val (.int (p0 &&& (3 : Int32))), .val (.int (p1 &&& (3 : Int32))), .val (.int (p3 &&& (3 : Int32))), .val (.int (p4 &&& (3 : Int32))), .val (.int (p5 &&& (3 : Int32))), .val (.int (p2 &&& (3 : Int32))), .val (.ref b1), .val (.ref b7), .val (.ref b19), .val (.ref b23), .val (.int (1 : Int32)), .val (.int y330)] [])) (fun _ ks_ => XS.icmpNo X141.here hx rfl (hb hby at_352) rfl (teq rfl).2 ks_) ?_
              refine go (u' := T141.setTop (mkF m 356 #[.val (.int p0), .val (.int p1), .val (.int p2), .val (.int p3), .val (.int p4), .val (.int p5), .val (.int (p0 &&& (3 : Int32))), .val (.int (p1 &&& (3 : Int32))), .val (.int (p3 &&& (3 : Int32))), .val (.int (p4 &&& (3 : Int32))), .val (.int (p5 &&& (3 : Int32))), .val (.int (p2 &&& (3 : Int32))), .val (.ref b1), .val (.ref b7), .val (.ref b19), .val (.ref b23), .val (.int (1 : Int32)), .val (.int y330)] [(.int (1 : Int32))])) (fun _ ks_ => XS.iconst X141.here hx rfl (hb hby at_355) ks_) ?_
              refine go (u' := T141.setTop (mkF m 360 #[.val (.int p0), .val (.int p1), .val (.int p2), .val (.int p3), .val (.int p4), .val (.int p5), .val (.int (p0 &&& (3 : Int32))), .val (.int (p1 &&& (3 : Int32))), .val (.int (p3 &&& (3 : Int32))), .val (.int (p4 &&& (3 : Int32))), .val (.int (p5 &&& (3 : Int32))), .val (.int (p2 &&& (3 : Int32))), .val (.ref b1), .val (.ref b7), .val (.ref b19), .val (.ref b23), .val (.int (1 : Int32)), .val (.int y330)] [(.int (1 : Int32))])) (fun _ ks_ => XS.goto X141.here hx rfl (pc0 := 356) (pc' := 360) rfl (hb hby at_356) (by decide) (by decide) ks_) ?_
              refine go (u' := T141.setTop (mkF m 362 #[.val (.int p0), .val (.int p1), .val (.int p2), .val (.int p3), .val (.int p4), .val (.int p5), .val (.int (p0 &&& (3 : Int32))), .val (.int (p1 &&& (3 : Int32))), .val (.int (p3 &&& (3 : Int32))), .val (.int (p4 &&& (3 : Int32))), .val (.int (p5 &&& (3 : Int32))), .val (.int (p2 &&& (3 : Int32))), .val (.ref b1), .val (.ref b7), .val (.ref b19), .val (.ref b23), .val (.int (1 : Int32)), .val (.int y330)] [])) (fun _ ks_ => XS.istore X141.here hx rfl (hb hby at_360) rfl  (l' := #[.val (.int p0), .val (.int p1), .val (.int p2), .val (.int p3), .val (.int p4), .val (.int p5), .val (.int (p0 &&& (3 : Int32))), .val (.int (p1 &&& (3 : Int32))), .val (.int (p3 &&& (3 : Int32))), .val (.int (p4 &&& (3 : Int32))), .val (.int (p5 &&& (3 : Int32))), .val (.int (p2 &&& (3 : Int32))), .val (.ref b1), .val (.ref b7), .val (.ref b19), .val (.ref b23), .val (.int (1 : Int32)), .val (.int y330)]) rfl ks_) ?_
              exact C362_6 f g1129 hd1129 sz1129 ys330 g1141 (.val (.int y330)) _ _ _ X141 (rfl : T141.heap = _) N141 Z141 K141 Fa143 Fa144 Fa145 Fa146 Fa147 Fa148 Fa149 Fa150 Fa151 Fa142 hR1_129 hM1_141 (One.val rfl) (by have q := hL; simp only [List.length_cons] at q; omega)
            ·
              refine go (u' := T126.setTop (mkF m 362 #[.val (.int p0), .val (.int p1), .val (.int p2), .val (.int p3), .val (.int p4), .val (.int p5), .val (.int (p0 &&& (3 : Int32))), .val (.int (p1 &&& (3 : Int32))), .val (.int (p3 &&& (3 : Int32))), .val (.int (p4 &&& (3 : Int32))), .val (.int (p5 &&& (3 : Int32))), .val (.int (p2 &&& (3 : Int32))), .val (.ref b1), .val (.ref b7), .val (.ref b19), .val (.ref b23), .val (.int (1 : Int32)), s17] [])) (fun _ ks_ => XS.ifYes X126.here hx rfl (pc0 := 330) (pc' := 362) rfl (hb hby at_330) rfl ((if0 _ _).trans (flt c330_1).2.2.2) (by decide) (by decide) ks_) ?_
              exact C362_6 f g hd sz xs mg s17 _ _ _ X126 e126 N126 Z126 K126 F126_0 F126_1 F126_2 F126_3 F126_4 F126_5 F126_6 F126_7 F126_8 F126_9 hR hM hs17 (by have q := hM.nil c330_1; omega)
          refine go (u' := T125.setTop (mkF m 292 #[.val (.int p0), .val (.int p1), .val (.int p2), .val (.int p3), .val (.int p4), .val (.int p5), .val (.int (p0 &&& (3 : Int32))), .val (.int (p1 &&& (3 : Int32))), .val (.int (p3 &&& (3 : Int32))), .val (.int (p4 &&& (3 : Int32))), .val (.int (p5 &&& (3 : Int32))), .val (.int (p2 &&& (3 : Int32))), .val (.ref b1), .val (.ref b7), .val (.ref b19), .val (.ref b23), .val (.int (1 : Int32)), s17] [(.ref b19)])) (fun _ ks_ => XS.aload X125.here hx rfl (hb hby at_290) rfl rfl ks_) ?_
          refine go (u' := T125.setTop (mkF m 293 #[.val (.int p0), .val (.int p1), .val (.int p2), .val (.int p3), .val (.int p4), .val (.int p5), .val (.int (p0 &&& (3 : Int32))), .val (.int (p1 &&& (3 : Int32))), .val (.int (p3 &&& (3 : Int32))), .val (.int (p4 &&& (3 : Int32))), .val (.int (p5 &&& (3 : Int32))), .val (.int (p2 &&& (3 : Int32))), .val (.ref b1), .val (.ref b7), .val (.ref b19), .val (.ref b23), .val (.int (1 : Int32)), s17] [(.int (4 : Int32)), (.ref b19)])) (fun _ ks_ => XS.iconst X125.here hx rfl (hb hby at_292) ks_) ?_
          refine go (u' := T125.setTop (mkF m 294 #[.val (.int p0), .val (.int p1), .val (.int p2), .val (.int p3), .val (.int p4), .val (.int p5), .val (.int (p0 &&& (3 : Int32))), .val (.int (p1 &&& (3 : Int32))), .val (.int (p3 &&& (3 : Int32))), .val (.int (p4 &&& (3 : Int32))), .val (.int (p5 &&& (3 : Int32))), .val (.int (p2 &&& (3 : Int32))), .val (.ref b1), .val (.ref b7), .val (.ref b19), .val (.ref b23), .val (.int (1 : Int32)), s17] [(.int (mg (4 : Int32).toNatClampNeg))])) (own_iaload X125 hx hZ e125 F125_9 (j := (4 : Int32)) (v := (mg (4 : Int32).toNatClampNeg)) (by decide) (by decide) rfl (f := (mkF m 293 #[.val (.int p0), .val (.int p1), .val (.int p2), .val (.int p3), .val (.int p4), .val (.int p5), .val (.int (p0 &&& (3 : Int32))), .val (.int (p1 &&& (3 : Int32))), .val (.int (p3 &&& (3 : Int32))), .val (.int (p4 &&& (3 : Int32))), .val (.int (p5 &&& (3 : Int32))), .val (.int (p2 &&& (3 : Int32))), .val (.ref b1), .val (.ref b7), .val (.ref b19), .val (.ref b23), .val (.int (1 : Int32)), s17] [(.int (4 : Int32)), (.ref b19)])) rfl rfl (hb hby at_293)) ?_
          by_cases c294_2 : (0 : Int32) < (mg (4 : Int32).toNatClampNeg)
          ·
            refine go (u' := T125.setTop (mkF m 297 #[.val (.int p0), .val (.int p1), .val (.int p2), .val (.int p3), .val (.int p4), .val (.int p5), .val (.int (p0 &&& (3 : Int32))), .val (.int (p1 &&& (3 : Int32))), .val (.int (p3 &&& (3 : Int32))), .val (.int (p4 &&& (3 : Int32))), .val (.int (p5 &&& (3 : Int32))), .val (.int (p2 &&& (3 : Int32))), .val (.ref b1), .val (.ref b7), .val (.ref b19), .val (.ref b23), .val (.int (1 : Int32)), s17] [])) (fun _ ks_ => XS.ifNo X125.here hx rfl (hb hby at_294) rfl ((if0 _ _).trans (tlt c294_2).2.2.2) ks_) ?_
            refine go (u' := T125.setTop (mkF m 299 #[.val (.int p0), .val (.int p1), .val (.int p2), .val (.int p3), .val (.int p4), .val (.int p5), .val (.int (p0 &&& (3 : Int32))), .val (.int (p1 &&& (3 : Int32))), .val (.int (p3 &&& (3 : Int32))), .val (.int (p4 &&& (3 : Int32))), .val (.int (p5 &&& (3 : Int32))), .val (.int (p2 &&& (3 : Int32))), .val (.ref b1), .val (.ref b7), .val (.ref b19), .val (.ref b23), .val (.int (1 : Int32)), s17] [(.ref b23)])) (fun _ ks_ => XS.aload X125.here hx rfl (hb hby at_297) rfl rfl ks_) ?_
            obtain ⟨y294, ys294, rfl⟩ := hM.cons c294_2
            obtain ⟨cq152, kq152, q152a, q152b, q152c⟩ := isOf hZ e125 F125_2
            obtain ⟨_, _, ⟨T152, L152, k152, n152⟩, -, X152, ⟨Lc152, hQ152, l152, y152, z152⟩, st152⟩ := X125.virtualBack hx (y := (⟨"com/example/lootpath/lootpath/solve/CityQueue", "take", "()I"⟩ : MethodName)) (z := (⟨"com/example/lootpath/lootpath/solve/CityQueue", "take", "()I"⟩ : MethodName)) hown (mvT hZ (ww hw 28 rfl)) (mvT hZ (ww hw 29 rfl)) (notFace_of_selects (args := #[]) (mvT hZ (ww hw 31 rfl))) (mvT hZ (ww hw 31 rfl)) (mvT hZ (ww hw 30 rfl)) (by decide) (backOf (W := 0) (rm5 l Z a0 hw [] b23 ca31 wa31 hd sz (4 : Int32).toNatClampNeg f g y294 ys294 h125 n0 Z125 g_b23 g_ca31 g_wa31 ne_b23_ca31 ne_b23_wa31 nca_31 F125_2 F125_3 F125_4 F125_5 F125_6 F125_7 F125_8 hR) hZ (ww hw 32 rfl) (ww hw 3 rfl) (by decide) (by decide)) q152a q152c (g := (mkF m 299 #[.val (.int p0), .val (.int p1), .val (.int p2), .val (.int p3), .val (.int p4), .val (.int p5), .val (.int (p0 &&& (3 : Int32))), .val (.int (p1 &&& (3 : Int32))), .val (.int (p3 &&& (3 : Int32))), .val (.int (p4 &&& (3 : Int32))), .val (.int (p5 &&& (3 : Int32))), .val (.int (p2 &&& (3 : Int32))), .val (.ref b1), .val (.ref b7), .val (.ref b19), .val (.ref b23), .val (.int (1 : Int32)), s17] [(.ref b23)])) rfl (by rw [hml]; rfl) (Steps.refl _) (argsL := []) (rest := []) (lenOf pd__40__41_I rfl) rfl (by show 2 * 0 + _ ≤ _; exact Nat.le_of_eq rfl) (hb hby at_299) (fun _ _ => ⟨rfl, e125, (by decide : 6 + 0 ≤ _), (by decide : 22 + 0 ≤ _)⟩)
            dsimp only [Pt.U, Pt.locs, Pt.cells, Pt.slots] at X152 l152 y152 z152 st152 hQ152
            subst l152 y152 z152
            obtain ⟨g1152, hd1152, sz1152, rfl, N152q, Kq152, Fa153, Fa154, Fa155, Fa156, Fa157, Fa158, Fa159, hR1_152⟩ := hQ152
            have N152 := Fr.app N125 N152q
            have K152 : Keep h0 T152.heap [] := K125.trans Kq152 (allS (P := fun x => x ∈ [] ∨ h0.size ≤ x) (Or.inr sz_b23) (allS (P := fun x => x ∈ [] ∨ h0.size ≤ x) (Or.inr sz_ca31) (allS (P := fun x => x ∈ [] ∨ h0.size ≤ x) (Or.inr sz_wa31) all0)))
            have Z152 : n0 ≤ T152.heap.size := Nat.le_trans Z125 Kq152.1
            have Fa160 : PI Z T152.heap b1 .int 2 (own_l [(p0 &&& (3 : Int32)), (p1 &&& (3 : Int32))]) := F125_0.keep Kq152 (ninS ne_b1_b23 (ninS ne_b1_ca31 (ninS ne_b1_wa31 nin0)))
            have Fa161 : PI Z T152.heap b7 .int 3 (own_l [(p3 &&& (3 : Int32)), (p4 &&& (3 : Int32)), (p5 &&& (3 : Int32))]) := F125_1.keep Kq152 (ninS ne_b7_b23 (ninS ne_b7_ca31 (ninS ne_b7_wa31 nin0)))
            have Fa162 : Exa Z T152.heap b23 "com/example/lootpath/lootpath/solve/CityQueue" := F125_2.keep Kq152
            have Fa163 : PI Z T152.heap b19 .int 5 mg := F125_9.keep Kq152 (ninS ne_b19_b23 (ninS ne_b19_ca31 (ninS ne_b19_wa31 nin0)))
            refine goT (u' := T152.setTop (mkF m 302 #[.val (.int p0), .val (.int p1), .val (.int p2), .val (.int p3), .val (.int p4), .val (.int p5), .val (.int (p0 &&& (3 : Int32))), .val (.int (p1 &&& (3 : Int32))), .val (.int (p3 &&& (3 : Int32))), .val (.int (p4 &&& (3 : Int32))), .val (.int (p5 &&& (3 : Int32))), .val (.int (p2 &&& (3 : Int32))), .val (.ref b1), .val (.ref b7), .val (.ref b19), .val (.ref b23), .val (.int (1 : Int32)), s17] [(.int y294)])) st152 ?_
            refine go (u' := T152.setTop (mkF m 304 #[.val (.int p0), .val (.int p1), .val (.int p2), .val (.int p3), .val (.int p4), .val (.int p5), .val (.int (p0 &&& (3 : Int32))), .val (.int (p1 &&& (3 : Int32))), .val (.int (p3 &&& (3 : Int32))), .val (.int (p4 &&& (3 : Int32))), .val (.int (p5 &&& (3 : Int32))), .val (.int (p2 &&& (3 : Int32))), .val (.ref b1), .val (.ref b7), .val (.ref b19), .val (.ref b23), .val (.int (1 : Int32)), .val (.int y294)] [])) (fun _ ks_ => XS.istoreS X152.here hx rfl (hb hby at_302) rfl  rfl hs17 ks_) ?_
            refine go (u' := T152.setTop (mkF m 306 #[.val (.int p0), .val (.int p1), .val (.int p2), .val (.int p3), .val (.int p4), .val (.int p5), .val (.int (p0 &&& (3 : Int32))), .val (.int (p1 &&& (3 : Int32))), .val (.int (p3 &&& (3 : Int32))), .val (.int (p4 &&& (3 : Int32))), .val (.int (p5 &&& (3 : Int32))), .val (.int (p2 &&& (3 : Int32))), .val (.ref b1), .val (.ref b7), .val (.ref b19), .val (.ref b23), .val (.int (1 : Int32)), .val (.int y294)] [(.int (1 : Int32))])) (fun _ ks_ => XS.iload X152.here hx rfl (hb hby at_304) rfl  ks_) ?_
            refine go (u' := T152.setTop (mkF m 309 #[.val (.int p0), .val (.int p1), .val (.int p2), .val (.int p3), .val (.int p4), .val (.int p5), .val (.int (p0 &&& (3 : Int32))), .val (.int (p1 &&& (3 : Int32))), .val (.int (p3 &&& (3 : Int32))), .val (.int (p4 &&& (3 : Int32))), .val (.int (p5 &&& (3 : Int32))), .val (.int (p2 &&& (3 : Int32))), .val (.ref b1), .val (.ref b7), .val (.ref b19), .val (.ref b23), .val (.int (1 : Int32)), .val (.int y294)] [])) (fun _ ks_ => XS.ifNo X152.here hx rfl (hb hby at_306) rfl ((if0 _ _).trans (feq (show ¬ ((1 : Int32) = (0 : Int32)) from (by decide))).1) ks_) ?_
            refine go (u' := T152.setTop (mkF m 311 #[.val (.int p0), .val (.int p1), .val (.int p2), .val (.int p3), .val (.int p4), .val (.int p5), .val (.int (p0 &&& (3 : Int32))), .val (.int (p1 &&& (3 : Int32))), .val (.int (p3 &&& (3 : Int32))), .val (.int (p4 &&& (3 : Int32))), .val (.int (p5 &&& (3 : Int32))), .val (.int (p2 &&& (3 : Int32))), .val (.ref b1), .val (.ref b7), .val (.ref b19), .val (.ref b23), .val (.int (1 : Int32)), .val (.int y294)] [(.int y294)])) (fun _ ks_ => XS.iload X152.here hx rfl (hb hby at_309) rfl  ks_) ?_
            refine go (u' := T152.setTop (mkF m 313 #[.val (.int p0), .val (.int p1), .val (.int p2), .val (.int p3), .val (.int p4), .val (.int p5), .val (.int (p0 &&& (3 : Int32))), .val (.int (p1 &&& (3 : Int32))), .val (.int (p3 &&& (3 : Int32))), .val (.int (p4 &&& (3 : Int32))), .val (.int (p5 &&& (3 : Int32))), .val (.int (p2 &&& (3 : Int32))), .val (.ref b1), .val (.ref b7), .val (.ref b19), .val (.ref b23), .val (.int (1 : Int32)), .val (.int y294)] [(.ref b19), (.int y294)])) (fun _ ks_ => XS.aload X152.here hx rfl (hb hby at_311) rfl rfl ks_) ?_
            obtain ⟨_, _, ⟨T164, L164, k164, n164⟩, -, X164, ⟨Lc164, hQ164, l164, y164, z164⟩, st164⟩ := Jvm.LawKit.callS X152 hx (y := (⟨"com/example/lootpath/lootpath/solve/CityQueueAddPinLaw", "pop", "([I)I"⟩ : MethodName)) hown (mvT hZ (ww hw 33 rfl)) (mvT hZ (ww hw 34 rfl)) (mvT hZ (ww hw 26 rfl)) (mvT hZ (ww hw 35 rfl)) (by decide) (backOf (W := 1) (rm6 l Z a0 hw [] b19 mg y294 ys294 T152.heap n0 Z152 g_b19 Fa163 hM) hZ (ww hw 35 rfl) (ww hw 26 rfl) (by decide) (by decide)) (g := (mkF m 313 #[.val (.int p0), .val (.int p1), .val (.int p2), .val (.int p3), .val (.int p4), .val (.int p5), .val (.int (p0 &&& (3 : Int32))), .val (.int (p1 &&& (3 : Int32))), .val (.int (p3 &&& (3 : Int32))), .val (.int (p4 &&& (3 : Int32))), .val (.int (p5 &&& (3 : Int32))), .val (.int (p2 &&& (3 : Int32))), .val (.ref b1), .val (.ref b7), .val (.ref b19), .val (.ref b23), .val (.int (1 : Int32)), .val (.int y294)] [(.ref b19), (.int y294)])) rfl (by rw [hml]; rfl) (argsL := [(.ref b19)]) (rest := [(.int y294)]) (lenOf pd__40__91_I_41_I rfl) rfl (by show 2 * 0 + _ ≤ _; exact Nat.le_of_eq rfl) (hb hby at_313) (fun _ _ => ⟨rfl, (rfl : T152.heap = _), (by decide : 6 + 0 ≤ _), (by decide : 22 + 0 ≤ _)⟩)
            dsimp only [Pt.U, Pt.locs, Pt.cells, Pt.slots] at X164 l164 y164 z164 st164 hQ164
            subst l164 y164 z164
            obtain ⟨g1164, rfl, N164q, Kq164, Fa165, hM1_164⟩ := hQ164
            have N164 := Fr.app N152 N164q
            have K164 : Keep h0 T164.heap [] := K152.trans Kq164 (allS (P := fun x => x ∈ [] ∨ h0.size ≤ x) (Or.inr sz_b19) all0)
            have Z164 : n0 ≤ T164.heap.size := Nat.le_trans Z152 Kq164.1
            have Fa166 : PI Z T164.heap b1 .int 2 (own_l [(p0 &&& (3 : Int32)), (p1 &&& (3 : Int32))]) := Fa160.keep Kq164 (ninS ne_b1_b19 nin0)
            have Fa167 : PI Z T164.heap b7 .int 3 (own_l [(p3 &&& (3 : Int32)), (p4 &&& (3 : Int32)), (p5 &&& (3 : Int32))]) := Fa161.keep Kq164 (ninS ne_b7_b19 nin0)
            have Fa168 : Exa Z T164.heap b23 "com/example/lootpath/lootpath/solve/CityQueue" := Fa153.keep Kq164
            have Fa169 : Fld Z T164.heap b23 "com/example/lootpath/lootpath/solve/CityQueue" "cities" "[I" (.ref ca31) := Fa154.keep Kq164 (ninS (Ne.symm ne_b19_b23) nin0)
            have Fa170 : Fld Z T164.heap b23 "com/example/lootpath/lootpath/solve/CityQueue" "waiting" "[Z" (.ref wa31) := Fa155.keep Kq164 (ninS (Ne.symm ne_b19_b23) nin0)
            have Fa171 : Fld Z T164.heap b23 "com/example/lootpath/lootpath/solve/CityQueue" "head" "I" (.int hd1152) := Fa156.keep Kq164 (ninS (Ne.symm ne_b19_b23) nin0)
            have Fa172 : Fld Z T164.heap b23 "com/example/lootpath/lootpath/solve/CityQueue" "size" "I" (.int sz1152) := Fa157.keep Kq164 (ninS (Ne.symm ne_b19_b23) nin0)
            have Fa173 : PI Z T164.heap ca31 .int (4 : Int32).toNatClampNeg f := Fa158.keep Kq164 (ninS (Ne.symm ne_b19_ca31) nin0)
            have Fa174 : PI Z T164.heap wa31 .boolean (4 : Int32).toNatClampNeg g1152 := Fa159.keep Kq164 (ninS (Ne.symm ne_b19_wa31) nin0)
            refine go (u' := T164.setTop (mkF m 316 #[.val (.int p0), .val (.int p1), .val (.int p2), .val (.int p3), .val (.int p4), .val (.int p5), .val (.int (p0 &&& (3 : Int32))), .val (.int (p1 &&& (3 : Int32))), .val (.int (p3 &&& (3 : Int32))), .val (.int (p4 &&& (3 : Int32))), .val (.int (p5 &&& (3 : Int32))), .val (.int (p2 &&& (3 : Int32))), .val (.ref b1), .val (.ref b7), .val (.ref b19), .val (.ref b23), .val (.int (1 : Int32)), .val (.int y294)] [(.int y294), (.int y294)])) st164 ?_
            refine go (u' := T164.setTop (mkF m 319 #[.val (.int p0), .val (.int p1), .val (.int p2), .val (.int p3), .val (.int p4), .val (.int p5), .val (.int (p0 &&& (3 : Int32))), .val (.int (p1 &&& (3 : Int32))), .val (.int (p3 &&& (3 : Int32))), .val (.int (p4 &&& (3 : Int32))), .val (.int (p5 &&& (3 : Int32))), .val (.int (p2 &&& (3 : Int32))), .val (.ref b1), .val (.ref b7), .val (.ref b19), .val (.ref b23), .val (.int (1 : Int32)), .val (.int y294)] [])) (fun _ ks_ => XS.icmpNo X164.here hx rfl (hb hby at_316) rfl (teq rfl).2 ks_) ?_
            refine go (u' := T164.setTop (mkF m 320 #[.val (.int p0), .val (.int p1), .val (.int p2), .val (.int p3), .val (.int p4), .val (.int p5), .val (.int (p0 &&& (3 : Int32))), .val (.int (p1 &&& (3 : Int32))), .val (.int (p3 &&& (3 : Int32))), .val (.int (p4 &&& (3 : Int32))), .val (.int (p5 &&& (3 : Int32))), .val (.int (p2 &&& (3 : Int32))), .val (.ref b1), .val (.ref b7), .val (.ref b19), .val (.ref b23), .val (.int (1 : Int32)), .val (.int y294)] [(.int (1 : Int32))])) (fun _ ks_ => XS.iconst X164.here hx rfl (hb hby at_319) ks_) ?_
            refine go (u' := T164.setTop (mkF m 324 #[.val (.int p0), .val (.int p1), .val (.int p2), .val (.int p3), .val (.int p4), .val (.int p5), .val (.int (p0 &&& (3 : Int32))), .val (.int (p1 &&& (3 : Int32))), .val (.int (p3 &&& (3 : Int32))), .val (.int (p4 &&& (3 : Int32))), .val (.int (p5 &&& (3 : Int32))), .val (.int (p2 &&& (3 : Int32))), .val (.ref b1), .val (.ref b7), .val (.ref b19), .val (.ref b23), .val (.int (1 : Int32)), .val (.int y294)] [(.int (1 : Int32))])) (fun _ ks_ => XS.goto X164.here hx rfl (pc0 := 320) (pc' := 324) rfl (hb hby at_320) (by decide) (by decide) ks_) ?_
            refine go (u' := T164.setTop (mkF m 326 #[.val (.int p0), .val (.int p1), .val (.int p2), .val (.int p3), .val (.int p4), .val (.int p5), .val (.int (p0 &&& (3 : Int32))), .val (.int (p1 &&& (3 : Int32))), .val (.int (p3 &&& (3 : Int32))), .val (.int (p4 &&& (3 : Int32))), .val (.int (p5 &&& (3 : Int32))), .val (.int (p2 &&& (3 : Int32))), .val (.ref b1), .val (.ref b7), .val (.ref b19), .val (.ref b23), .val (.int (1 : Int32)), .val (.int y294)] [])) (fun _ ks_ => XS.istore X164.here hx rfl (hb hby at_324) rfl  (l' := #[.val (.int p0), .val (.int p1), .val (.int p2), .val (.int p3), .val (.int p4), .val (.int p5), .val (.int (p0 &&& (3 : Int32))), .val (.int (p1 &&& (3 : Int32))), .val (.int (p3 &&& (3 : Int32))), .val (.int (p4 &&& (3 : Int32))), .val (.int (p5 &&& (3 : Int32))), .val (.int (p2 &&& (3 : Int32))), .val (.ref b1), .val (.ref b7), .val (.ref b19), .val (.ref b23), .val (.int (1 : Int32)), .val (.int y294)]) rfl ks_) ?_
            exact C326_5 f g1152 hd1152 sz1152 ys294 g1164 (.val (.int y294)) _ _ _ X164 (rfl : T164.heap = _) N164 Z164 K164 Fa166 Fa167 Fa168 Fa169 Fa170 Fa171 Fa172 Fa173 Fa174 Fa165 hR1_152 hM1_164 (One.val rfl) (by have q := hL; simp only [List.length_cons] at q; omega)
          ·
            refine go (u' := T125.setTop (mkF m 326 #[.val (.int p0), .val (.int p1), .val (.int p2), .val (.int p3), .val (.int p4), .val (.int p5), .val (.int (p0 &&& (3 : Int32))), .val (.int (p1 &&& (3 : Int32))), .val (.int (p3 &&& (3 : Int32))), .val (.int (p4 &&& (3 : Int32))), .val (.int (p5 &&& (3 : Int32))), .val (.int (p2 &&& (3 : Int32))), .val (.ref b1), .val (.ref b7), .val (.ref b19), .val (.ref b23), .val (.int (1 : Int32)), s17] [])) (fun _ ks_ => XS.ifYes X125.here hx rfl (pc0 := 294) (pc' := 326) rfl (hb hby at_294) rfl ((if0 _ _).trans (flt c294_2).2.2.2) (by decide) (by decide) ks_) ?_
            exact C326_5 f g hd sz xs mg s17 _ _ _ X125 e125 N125 Z125 K125 F125_0 F125_1 F125_2 F125_3 F125_4 F125_5 F125_6 F125_7 F125_8 F125_9 hR hM hs17 (by have q := hM.nil c294_2; omega)
        refine go (u' := T124.setTop (mkF m 256 #[.val (.int p0), .val (.int p1), .val (.int p2), .val (.int p3), .val (.int p4), .val (.int p5), .val (.int (p0 &&& (3 : Int32))), .val (.int (p1 &&& (3 : Int32))), .val (.int (p3 &&& (3 : Int32))), .val (.int (p4 &&& (3 : Int32))), .val (.int (p5 &&& (3 : Int32))), .val (.int (p2 &&& (3 : Int32))), .val (.ref b1), .val (.ref b7), .val (.ref b19), .val (.ref b23), .val (.int (1 : Int32)), s17] [(.ref b19)])) (fun _ ks_ => XS.aload X124.here hx rfl (hb hby at_254) rfl rfl ks_) ?_
        refine go (u' := T124.setTop (mkF m 257 #[.val (.int p0), .val (.int p1), .val (.int p2), .val (.int p3), .val (.int p4), .val (.int p5), .val (.int (p0 &&& (3 : Int32))), .val (.int (p1 &&& (3 : Int32))), .val (.int (p3 &&& (3 : Int32))), .val (.int (p4 &&& (3 : Int32))), .val (.int (p5 &&& (3 : Int32))), .val (.int (p2 &&& (3 : Int32))), .val (.ref b1), .val (.ref b7), .val (.ref b19), .val (.ref b23), .val (.int (1 : Int32)), s17] [(.int (4 : Int32)), (.ref b19)])) (fun _ ks_ => XS.iconst X124.here hx rfl (hb hby at_256) ks_) ?_
        refine go (u' := T124.setTop (mkF m 258 #[.val (.int p0), .val (.int p1), .val (.int p2), .val (.int p3), .val (.int p4), .val (.int p5), .val (.int (p0 &&& (3 : Int32))), .val (.int (p1 &&& (3 : Int32))), .val (.int (p3 &&& (3 : Int32))), .val (.int (p4 &&& (3 : Int32))), .val (.int (p5 &&& (3 : Int32))), .val (.int (p2 &&& (3 : Int32))), .val (.ref b1), .val (.ref b7), .val (.ref b19), .val (.ref b23), .val (.int (1 : Int32)), s17] [(.int (mg (4 : Int32).toNatClampNeg))])) (own_iaload X124 hx hZ e124 F124_9 (j := (4 : Int32)) (v := (mg (4 : Int32).toNatClampNeg)) (by decide) (by decide) rfl (f := (mkF m 257 #[.val (.int p0), .val (.int p1), .val (.int p2), .val (.int p3), .val (.int p4), .val (.int p5), .val (.int (p0 &&& (3 : Int32))), .val (.int (p1 &&& (3 : Int32))), .val (.int (p3 &&& (3 : Int32))), .val (.int (p4 &&& (3 : Int32))), .val (.int (p5 &&& (3 : Int32))), .val (.int (p2 &&& (3 : Int32))), .val (.ref b1), .val (.ref b7), .val (.ref b19), .val (.ref b23), .val (.int (1 : Int32)), s17] [(.int (4 : Int32)), (.ref b19)])) rfl rfl (hb hby at_257)) ?_
        by_cases c258_3 : (0 : Int32) < (mg (4 : Int32).toNatClampNeg)
        ·
          refine go (u' := T124.setTop (mkF m 261 #[.val (.int p0), .val (.int p1), .val (.int p2), .val (.int p3), .val (.int p4), .val (.int p5), .val (.int (p0 &&& (3 : Int32))), .val (.int (p1 &&& (3 : Int32))), .val (.int (p3 &&& (3 : Int32))), .val (.int (p4 &&& (3 : Int32))), .val (.int (p5 &&& (3 : Int32))), .val (.int (p2 &&& (3 : Int32))), .val (.ref b1), .val (.ref b7), .val (.ref b19), .val (.ref b23), .val (.int (1 : Int32)), s17] [])) (fun _ ks_ => XS.ifNo X124.here hx rfl (hb hby at_258) rfl ((if0 _ _).trans (tlt c258_3).2.2.2) ks_) ?_
          refine go (u' := T124.setTop (mkF m 263 #[.val (.int p0), .val (.int p1), .val (.int p2), .val (.int p3), .val (.int p4), .val (.int p5), .val (.int (p0 &&& (3 : Int32))), .val (.int (p1 &&& (3 : Int32))), .val (.int (p3 &&& (3 : Int32))), .val (.int (p4 &&& (3 : Int32))), .val (.int (p5 &&& (3 : Int32))), .val (.int (p2 &&& (3 : Int32))), .val (.ref b1), .val (.ref b7), .val (.ref b19), .val (.ref b23), .val (.int (1 : Int32)), s17] [(.ref b23)])) (fun _ ks_ => XS.aload X124.here hx rfl (hb hby at_261) rfl rfl ks_) ?_
          obtain ⟨y258, ys258, rfl⟩ := hM.cons c258_3
          obtain ⟨cq175, kq175, q175a, q175b, q175c⟩ := isOf hZ e124 F124_2
          obtain ⟨_, _, ⟨T175, L175, k175, n175⟩, -, X175, ⟨Lc175, hQ175, l175, y175, z175⟩, st175⟩ := X124.virtualBack hx (y := (⟨"com/example/lootpath/lootpath/solve/CityQueue", "take", "()I"⟩ : MethodName)) (z := (⟨"com/example/lootpath/lootpath/solve/CityQueue", "take", "()I"⟩ : MethodName)) hown (mvT hZ (ww hw 28 rfl)) (mvT hZ (ww hw 29 rfl)) (notFace_of_selects (args := #[]) (mvT hZ (ww hw 31 rfl))) (mvT hZ (ww hw 31 rfl)) (mvT hZ (ww hw 30 rfl)) (by decide) (backOf (W := 0) (rm5 l Z a0 hw [] b23 ca31 wa31 hd sz (4 : Int32).toNatClampNeg f g y258 ys258 h124 n0 Z124 g_b23 g_ca31 g_wa31 ne_b23_ca31 ne_b23_wa31 nca_31 F124_2 F124_3 F124_4 F124_5 F124_6 F124_7 F124_8 hR) hZ (ww hw 32 rfl) (ww hw 3 rfl) (by decide) (by decide)) q175a q175c (g := (mkF m 263 #[.val (.int p0), .val (.int p1), .val (.int p2), .val (.int p3), .val (.int p4), .val (.int p5), .val (.int (p0 &&& (3 : Int32))), .val (.int (p1 &&& (3 : Int32))), .val (.int (p3 &&& (3 : Int32))), .val (.int (p4 &&& (3 : Int32))), .val (.int (p5 &&& (3 : Int32))), .val (.int (p2 &&& (3 : Int32))), .val (.ref b1), .val (.ref b7), .val (.ref b19), .val (.ref b23), .val (.int (1 : Int32)), s17] [(.ref b23)])) rfl (by rw [hml]; rfl) (Steps.refl _) (argsL := []) (rest := []) (lenOf pd__40__41_I rfl) rfl (by show 2 * 0 + _ ≤ _; exact Nat.le_of_eq rfl) (hb hby at_263) (fun _ _ => ⟨rfl, e124, (by decide : 6 + 0 ≤ _), (by decide : 22 + 0 ≤ _)⟩)
          dsimp only [Pt.U, Pt.locs, Pt.cells, Pt.slots] at X175 l175 y175 z175 st175 hQ175
          subst l175 y175 z175
          obtain ⟨g1175, hd1175, sz1175, rfl, N175q, Kq175, Fa176, Fa177, Fa178, Fa179, Fa180, Fa181, Fa182, hR1_175⟩ := hQ175
          have N175 := Fr.app N124 N175q
          have K175 : Keep h0 T175.heap [] := K124.trans Kq175 (allS (P := fun x => x ∈ [] ∨ h0.size ≤ x) (Or.inr sz_b23) (allS (P := fun x => x ∈ [] ∨ h0.size ≤ x) (Or.inr sz_ca31) (allS (P := fun x => x ∈ [] ∨ h0.size ≤ x) (Or.inr sz_wa31) all0)))
          have Z175 : n0 ≤ T175.heap.size := Nat.le_trans Z124 Kq175.1
          have Fa183 : PI Z T175.heap b1 .int 2 (own_l [(p0 &&& (3 : Int32)), (p1 &&& (3 : Int32))]) := F124_0.keep Kq175 (ninS ne_b1_b23 (ninS ne_b1_ca31 (ninS ne_b1_wa31 nin0)))
          have Fa184 : PI Z T175.heap b7 .int 3 (own_l [(p3 &&& (3 : Int32)), (p4 &&& (3 : Int32)), (p5 &&& (3 : Int32))]) := F124_1.keep Kq175 (ninS ne_b7_b23 (ninS ne_b7_ca31 (ninS ne_b7_wa31 nin0)))
          have Fa185 : Exa Z T175.heap b23 "com/example/lootpath/lootpath/solve/CityQueue" := F124_2.keep Kq175
          have Fa186 : PI Z T175.heap b19 .int 5 mg := F124_9.keep Kq175 (ninS ne_b19_b23 (ninS ne_b19_ca31 (ninS ne_b19_wa31 nin0)))
          refine goT (u' := T175.setTop (mkF m 266 #[.val (.int p0), .val (.int p1), .val (.int p2), .val (.int p3), .val (.int p4), .val (.int p5), .val (.int (p0 &&& (3 : Int32))), .val (.int (p1 &&& (3 : Int32))), .val (.int (p3 &&& (3 : Int32))), .val (.int (p4 &&& (3 : Int32))), .val (.int (p5 &&& (3 : Int32))), .val (.int (p2 &&& (3 : Int32))), .val (.ref b1), .val (.ref b7), .val (.ref b19), .val (.ref b23), .val (.int (1 : Int32)), s17] [(.int y258)])) st175 ?_
          refine go (u' := T175.setTop (mkF m 268 #[.val (.int p0), .val (.int p1), .val (.int p2), .val (.int p3), .val (.int p4), .val (.int p5), .val (.int (p0 &&& (3 : Int32))), .val (.int (p1 &&& (3 : Int32))), .val (.int (p3 &&& (3 : Int32))), .val (.int (p4 &&& (3 : Int32))), .val (.int (p5 &&& (3 : Int32))), .val (.int (p2 &&& (3 : Int32))), .val (.ref b1), .val (.ref b7), .val (.ref b19), .val (.ref b23), .val (.int (1 : Int32)), .val (.int y258)] [])) (fun _ ks_ => XS.istoreS X175.here hx rfl (hb hby at_266) rfl  rfl hs17 ks_) ?_
          refine go (u' := T175.setTop (mkF m 270 #[.val (.int p0), .val (.int p1), .val (.int p2), .val (.int p3), .val (.int p4), .val (.int p5), .val (.int (p0 &&& (3 : Int32))), .val (.int (p1 &&& (3 : Int32))), .val (.int (p3 &&& (3 : Int32))), .val (.int (p4 &&& (3 : Int32))), .val (.int (p5 &&& (3 : Int32))), .val (.int (p2 &&& (3 : Int32))), .val (.ref b1), .val (.ref b7), .val (.ref b19), .val (.ref b23), .val (.int (1 : Int32)), .val (.int y258)] [(.int (1 : Int32))])) (fun _ ks_ => XS.iload X175.here hx rfl (hb hby at_268) rfl  ks_) ?_
          refine go (u' := T175.setTop (mkF m 273 #[.val (.int p0), .val (.int p1), .val (.int p2), .val (.int p3), .val (.int p4), .val (.int p5), .val (.int (p0 &&& (3 : Int32))), .val (.int (p1 &&& (3 : Int32))), .val (.int (p3 &&& (3 : Int32))), .val (.int (p4 &&& (3 : Int32))), .val (.int (p5 &&& (3 : Int32))), .val (.int (p2 &&& (3 : Int32))), .val (.ref b1), .val (.ref b7), .val (.ref b19), .val (.ref b23), .val (.int (1 : Int32)), .val (.int y258)] [])) (fun _ ks_ => XS.ifNo X175.here hx rfl (hb hby at_270) rfl ((if0 _ _).trans (feq (show ¬ ((1 : Int32) = (0 : Int32)) from (by decide))).1) ks_) ?_
          refine go (u' := T175.setTop (mkF m 275 #[.val (.int p0), .val (.int p1), .val (.int p2), .val (.int p3), .val (.int p4), .val (.int p5), .val (.int (p0 &&& (3 : Int32))), .val (.int (p1 &&& (3 : Int32))), .val (.int (p3 &&& (3 : Int32))), .val (.int (p4 &&& (3 : Int32))), .val (.int (p5 &&& (3 : Int32))), .val (.int (p2 &&& (3 : Int32))), .val (.ref b1), .val (.ref b7), .val (.ref b19), .val (.ref b23), .val (.int (1 : Int32)), .val (.int y258)] [(.int y258)])) (fun _ ks_ => XS.iload X175.here hx rfl (hb hby at_273) rfl  ks_) ?_
          refine go (u' := T175.setTop (mkF m 277 #[.val (.int p0), .val (.int p1), .val (.int p2), .val (.int p3), .val (.int p4), .val (.int p5), .val (.int (p0 &&& (3 : Int32))), .val (.int (p1 &&& (3 : Int32))), .val (.int (p3 &&& (3 : Int32))), .val (.int (p4 &&& (3 : Int32))), .val (.int (p5 &&& (3 : Int32))), .val (.int (p2 &&& (3 : Int32))), .val (.ref b1), .val (.ref b7), .val (.ref b19), .val (.ref b23), .val (.int (1 : Int32)), .val (.int y258)] [(.ref b19), (.int y258)])) (fun _ ks_ => XS.aload X175.here hx rfl (hb hby at_275) rfl rfl ks_) ?_
          obtain ⟨_, _, ⟨T187, L187, k187, n187⟩, -, X187, ⟨Lc187, hQ187, l187, y187, z187⟩, st187⟩ := Jvm.LawKit.callS X175 hx (y := (⟨"com/example/lootpath/lootpath/solve/CityQueueAddPinLaw", "pop", "([I)I"⟩ : MethodName)) hown (mvT hZ (ww hw 33 rfl)) (mvT hZ (ww hw 34 rfl)) (mvT hZ (ww hw 26 rfl)) (mvT hZ (ww hw 35 rfl)) (by decide) (backOf (W := 1) (rm6 l Z a0 hw [] b19 mg y258 ys258 T175.heap n0 Z175 g_b19 Fa186 hM) hZ (ww hw 35 rfl) (ww hw 26 rfl) (by decide) (by decide)) (g := (mkF m 277 #[.val (.int p0), .val (.int p1), .val (.int p2), .val (.int p3), .val (.int p4), .val (.int p5), .val (.int (p0 &&& (3 : Int32))), .val (.int (p1 &&& (3 : Int32))), .val (.int (p3 &&& (3 : Int32))), .val (.int (p4 &&& (3 : Int32))), .val (.int (p5 &&& (3 : Int32))), .val (.int (p2 &&& (3 : Int32))), .val (.ref b1), .val (.ref b7), .val (.ref b19), .val (.ref b23), .val (.int (1 : Int32)), .val (.int y258)] [(.ref b19), (.int y258)])) rfl (by rw [hml]; rfl) (argsL := [(.ref b19)]) (rest := [(.int y258)]) (lenOf pd__40__91_I_41_I rfl) rfl (by show 2 * 0 + _ ≤ _; exact Nat.le_of_eq rfl) (hb hby at_277) (fun _ _ => ⟨rfl, (rfl : T175.heap = _), (by decide : 6 + 0 ≤ _), (by decide : 22 + 0 ≤ _)⟩)
          dsimp only [Pt.U, Pt.locs, Pt.cells, Pt.slots] at X187 l187 y187 z187 st187 hQ187
          subst l187 y187 z187
          obtain ⟨g1187, rfl, N187q, Kq187, Fa188, hM1_187⟩ := hQ187
          have N187 := Fr.app N175 N187q
          have K187 : Keep h0 T187.heap [] := K175.trans Kq187 (allS (P := fun x => x ∈ [] ∨ h0.size ≤ x) (Or.inr sz_b19) all0)
          have Z187 : n0 ≤ T187.heap.size := Nat.le_trans Z175 Kq187.1
          have Fa189 : PI Z T187.heap b1 .int 2 (own_l [(p0 &&& (3 : Int32)), (p1 &&& (3 : Int32))]) := Fa183.keep Kq187 (ninS ne_b1_b19 nin0)
          have Fa190 : PI Z T187.heap b7 .int 3 (own_l [(p3 &&& (3 : Int32)), (p4 &&& (3 : Int32)), (p5 &&& (3 : Int32))]) := Fa184.keep Kq187 (ninS ne_b7_b19 nin0)
          have Fa191 : Exa Z T187.heap b23 "com/example/lootpath/lootpath/solve/CityQueue" := Fa176.keep Kq187
          have Fa192 : Fld Z T187.heap b23 "com/example/lootpath/lootpath/solve/CityQueue" "cities" "[I" (.ref ca31) := Fa177.keep Kq187 (ninS (Ne.symm ne_b19_b23) nin0)
          have Fa193 : Fld Z T187.heap b23 "com/example/lootpath/lootpath/solve/CityQueue" "waiting" "[Z" (.ref wa31) := Fa178.keep Kq187 (ninS (Ne.symm ne_b19_b23) nin0)
          have Fa194 : Fld Z T187.heap b23 "com/example/lootpath/lootpath/solve/CityQueue" "head" "I" (.int hd1175) := Fa179.keep Kq187 (ninS (Ne.symm ne_b19_b23) nin0)
          have Fa195 : Fld Z T187.heap b23 "com/example/lootpath/lootpath/solve/CityQueue" "size" "I" (.int sz1175) := Fa180.keep Kq187 (ninS (Ne.symm ne_b19_b23) nin0)
          have Fa196 : PI Z T187.heap ca31 .int (4 : Int32).toNatClampNeg f := Fa181.keep Kq187 (ninS (Ne.symm ne_b19_ca31) nin0)
          have Fa197 : PI Z T187.heap wa31 .boolean (4 : Int32).toNatClampNeg g1175 := Fa182.keep Kq187 (ninS (Ne.symm ne_b19_wa31) nin0)
          refine go (u' := T187.setTop (mkF m 280 #[.val (.int p0), .val (.int p1), .val (.int p2), .val (.int p3), .val (.int p4), .val (.int p5), .val (.int (p0 &&& (3 : Int32))), .val (.int (p1 &&& (3 : Int32))), .val (.int (p3 &&& (3 : Int32))), .val (.int (p4 &&& (3 : Int32))), .val (.int (p5 &&& (3 : Int32))), .val (.int (p2 &&& (3 : Int32))), .val (.ref b1), .val (.ref b7), .val (.ref b19), .val (.ref b23), .val (.int (1 : Int32)), .val (.int y258)] [(.int y258), (.int y258)])) st187 ?_
          refine go (u' := T187.setTop (mkF m 283 #[.val (.int p0), .val (.int p1), .val (.int p2), .val (.int p3), .val (.int p4), .val (.int p5), .val (.int (p0 &&& (3 : Int32))), .val (.int (p1 &&& (3 : Int32))), .val (.int (p3 &&& (3 : Int32))), .val (.int (p4 &&& (3 : Int32))), .val (.int (p5 &&& (3 : Int32))), .val (.int (p2 &&& (3 : Int32))), .val (.ref b1), .val (.ref b7), .val (.ref b19), .val (.ref b23), .val (.int (1 : Int32)), .val (.int y258)] [])) (fun _ ks_ => XS.icmpNo X187.here hx rfl (hb hby at_280) rfl (teq rfl).2 ks_) ?_
          refine go (u' := T187.setTop (mkF m 284 #[.val (.int p0), .val (.int p1), .val (.int p2), .val (.int p3), .val (.int p4), .val (.int p5), .val (.int (p0 &&& (3 : Int32))), .val (.int (p1 &&& (3 : Int32))), .val (.int (p3 &&& (3 : Int32))), .val (.int (p4 &&& (3 : Int32))), .val (.int (p5 &&& (3 : Int32))), .val (.int (p2 &&& (3 : Int32))), .val (.ref b1), .val (.ref b7), .val (.ref b19), .val (.ref b23), .val (.int (1 : Int32)), .val (.int y258)] [(.int (1 : Int32))])) (fun _ ks_ => XS.iconst X187.here hx rfl (hb hby at_283) ks_) ?_
          refine go (u' := T187.setTop (mkF m 288 #[.val (.int p0), .val (.int p1), .val (.int p2), .val (.int p3), .val (.int p4), .val (.int p5), .val (.int (p0 &&& (3 : Int32))), .val (.int (p1 &&& (3 : Int32))), .val (.int (p3 &&& (3 : Int32))), .val (.int (p4 &&& (3 : Int32))), .val (.int (p5 &&& (3 : Int32))), .val (.int (p2 &&& (3 : Int32))), .val (.ref b1), .val (.ref b7), .val (.ref b19), .val (.ref b23), .val (.int (1 : Int32)), .val (.int y258)] [(.int (1 : Int32))])) (fun _ ks_ => XS.goto X187.here hx rfl (pc0 := 284) (pc' := 288) rfl (hb hby at_284) (by decide) (by decide) ks_) ?_
          refine go (u' := T187.setTop (mkF m 290 #[.val (.int p0), .val (.int p1), .val (.int p2), .val (.int p3), .val (.int p4), .val (.int p5), .val (.int (p0 &&& (3 : Int32))), .val (.int (p1 &&& (3 : Int32))), .val (.int (p3 &&& (3 : Int32))), .val (.int (p4 &&& (3 : Int32))), .val (.int (p5 &&& (3 : Int32))), .val (.int (p2 &&& (3 : Int32))), .val (.ref b1), .val (.ref b7), .val (.ref b19), .val (.ref b23), .val (.int (1 : Int32)), .val (.int y258)] [])) (fun _ ks_ => XS.istore X187.here hx rfl (hb hby at_288) rfl  (l' := #[.val (.int p0), .val (.int p1), .val (.int p2), .val (.int p3), .val (.int p4), .val (.int p5), .val (.int (p0 &&& (3 : Int32))), .val (.int (p1 &&& (3 : Int32))), .val (.int (p3 &&& (3 : Int32))), .val (.int (p4 &&& (3 : Int32))), .val (.int (p5 &&& (3 : Int32))), .val (.int (p2 &&& (3 : Int32))), .val (.ref b1), .val (.ref b7), .val (.ref b19), .val (.ref b23), .val (.int (1 : Int32)), .val (.int y258)]) rfl ks_) ?_
          exact C290_4 f g1175 hd1175 sz1175 ys258 g1187 (.val (.int y258)) _ _ _ X187 (rfl : T187.heap = _) N187 Z187 K187 Fa189 Fa190 Fa191 Fa192 Fa193 Fa194 Fa195 Fa196 Fa197 Fa188 hR1_175 hM1_187 (One.val rfl) (by have q := hL; simp only [List.length_cons] at q; omega)
        ·
          refine go (u' := T124.setTop (mkF m 290 #[.val (.int p0), .val (.int p1), .val (.int p2), .val (.int p3), .val (.int p4), .val (.int p5), .val (.int (p0 &&& (3 : Int32))), .val (.int (p1 &&& (3 : Int32))), .val (.int (p3 &&& (3 : Int32))), .val (.int (p4 &&& (3 : Int32))), .val (.int (p5 &&& (3 : Int32))), .val (.int (p2 &&& (3 : Int32))), .val (.ref b1), .val (.ref b7), .val (.ref b19), .val (.ref b23), .val (.int (1 : Int32)), s17] [])) (fun _ ks_ => XS.ifYes X124.here hx rfl (pc0 := 258) (pc' := 290) rfl (hb hby at_258) rfl ((if0 _ _).trans (flt c258_3).2.2.2) (by decide) (by decide) ks_) ?_
          exact C290_4 f g hd sz xs mg s17 _ _ _ X124 e124 N124 Z124 K124 F124_0 F124_1 F124_2 F124_3 F124_4 F124_5 F124_6 F124_7 F124_8 F124_9 hR hM hs17 (by have q := hM.nil c258_3; omega)
      refine go (u' := T113.setTop (mkF m 220 #[.val (.int p0), .val (.int p1), .val (.int p2), .val (.int p3), .val (.int p4), .val (.int p5), .val (.int (p0 &&& (3 : Int32))), .val (.int (p1 &&& (3 : Int32))), .val (.int (p3 &&& (3 : Int32))), .val (.int (p4 &&& (3 : Int32))), .val (.int (p5 &&& (3 : Int32))), .val (.int (p2 &&& (3 : Int32))), .val (.ref b1), .val (.ref b7), .val (.ref b19), .val (.ref b23), .val (.int (1 : Int32)), s17] [(.ref b19)])) (fun _ ks_ => XS.aload X113.here hx rfl (hb hby at_218) rfl rfl ks_) ?_
      refine go (u' := T113.setTop (mkF m 221 #[.val (.int p0), .val (.int p1), .val (.int p2), .val (.int p3), .val (.int p4), .val (.int p5), .val (.int (p0 &&& (3 : Int32))), .val (.int (p1 &&& (3 : Int32))), .val (.int (p3 &&& (3 : Int32))), .val (.int (p4 &&& (3 : Int32))), .val (.int (p5 &&& (3 : Int32))), .val (.int (p2 &&& (3 : Int32))), .val (.ref b1), .val (.ref b7), .val (.ref b19), .val (.ref b23), .val (.int (1 : Int32)), s17] [(.int (4 : Int32)), (.ref b19)])) (fun _ ks_ => XS.iconst X113.here hx rfl (hb hby at_220) ks_) ?_
      refine go (u' := T113.setTop (mkF m 222 #[.val (.int p0), .val (.int p1), .val (.int p2), .val (.int p3), .val (.int p4), .val (.int p5), .val (.int (p0 &&& (3 : Int32))), .val (.int (p1 &&& (3 : Int32))), .val (.int (p3 &&& (3 : Int32))), .val (.int (p4 &&& (3 : Int32))), .val (.int (p5 &&& (3 : Int32))), .val (.int (p2 &&& (3 : Int32))), .val (.ref b1), .val (.ref b7), .val (.ref b19), .val (.ref b23), .val (.int (1 : Int32)), s17] [(.int (g1113 (4 : Int32).toNatClampNeg))])) (own_iaload X113 hx hZ (rfl : T113.heap = _) Fa114 (j := (4 : Int32)) (v := (g1113 (4 : Int32).toNatClampNeg)) (by decide) (by decide) rfl (f := (mkF m 221 #[.val (.int p0), .val (.int p1), .val (.int p2), .val (.int p3), .val (.int p4), .val (.int p5), .val (.int (p0 &&& (3 : Int32))), .val (.int (p1 &&& (3 : Int32))), .val (.int (p3 &&& (3 : Int32))), .val (.int (p4 &&& (3 : Int32))), .val (.int (p5 &&& (3 : Int32))), .val (.int (p2 &&& (3 : Int32))), .val (.ref b1), .val (.ref b7), .val (.ref b19), .val (.ref b23), .val (.int (1 : Int32)), s17] [(.int (4 : Int32)), (.ref b19)])) rfl rfl (hb hby at_221)) ?_
      by_cases c222_4 : (0 : Int32) < (g1113 (4 : Int32).toNatClampNeg)
      ·
        refine go (u' := T113.setTop (mkF m 225 #[.val (.int p0), .val (.int p1), .val (.int p2), .val (.int p3), .val (.int p4), .val (.int p5), .val (.int (p0 &&& (3 : Int32))), .val (.int (p1 &&& (3 : Int32))), .val (.int (p3 &&& (3 : Int32))), .val (.int (p4 &&& (3 : Int32))), .val (.int (p5 &&& (3 : Int32))), .val (.int (p2 &&& (3 : Int32))), .val (.ref b1), .val (.ref b7), .val (.ref b19), .val (.ref b23), .val (.int (1 : Int32)), s17] [])) (fun _ ks_ => XS.ifNo X113.here hx rfl (hb hby at_222) rfl ((if0 _ _).trans (tlt c222_4).2.2.2) ks_) ?_
        refine go (u' := T113.setTop (mkF m 227 #[.val (.int p0), .val (.int p1), .val (.int p2), .val (.int p3), .val (.int p4), .val (.int p5), .val (.int (p0 &&& (3 : Int32))), .val (.int (p1 &&& (3 : Int32))), .val (.int (p3 &&& (3 : Int32))), .val (.int (p4 &&& (3 : Int32))), .val (.int (p5 &&& (3 : Int32))), .val (.int (p2 &&& (3 : Int32))), .val (.ref b1), .val (.ref b7), .val (.ref b19), .val (.ref b23), .val (.int (1 : Int32)), s17] [(.ref b23)])) (fun _ ks_ => XS.aload X113.here hx rfl (hb hby at_225) rfl rfl ks_) ?_
        obtain ⟨y222, ys222, rfl⟩ := hM254.cons c222_4
        obtain ⟨cq198, kq198, q198a, q198b, q198c⟩ := isOf hZ (rfl : T113.heap = _) Fa117
        obtain ⟨_, _, ⟨T198, L198, k198, n198⟩, -, X198, ⟨Lc198, hQ198, l198, y198, z198⟩, st198⟩ := X113.virtualBack hx (y := (⟨"com/example/lootpath/lootpath/solve/CityQueue", "take", "()I"⟩ : MethodName)) (z := (⟨"com/example/lootpath/lootpath/solve/CityQueue", "take", "()I"⟩ : MethodName)) hown (mvT hZ (ww hw 28 rfl)) (mvT hZ (ww hw 29 rfl)) (notFace_of_selects (args := #[]) (mvT hZ (ww hw 31 rfl))) (mvT hZ (ww hw 31 rfl)) (mvT hZ (ww hw 30 rfl)) (by decide) (backOf (W := 0) (rm5 l Z a0 hw [] b23 ca31 wa31 hd sz179 (4 : Int32).toNatClampNeg f179 g179 y222 ys222 T113.heap n0 Z113 g_b23 g_ca31 g_wa31 ne_b23_ca31 ne_b23_wa31 nca_31 Fa117 Fa118 Fa119 Fa120 Fa121 Fa122 Fa123 hR254) hZ (ww hw 32 rfl) (ww hw 3 rfl) (by decide) (by decide)) q198a q198c (g := (mkF m 227 #[.val (.int p0), .val (.int p1), .val (.int p2), .val (.int p3), .val (.int p4), .val (.int p5), .val (.int (p0 &&& (3 : Int32))), .val (.int (p1 &&& (3 : Int32))), .val (.int (p3 &&& (3 : Int32))), .val (.int (p4 &&& (3 : Int32))), .val (.int (p5 &&& (3 : Int32))), .val (.int (p2 &&& (3 : Int32))), .val (.ref b1), .val (.ref b7), .val (.ref b19), .val (.ref b23), .val (.int (1 : Int32)), s17] [(.ref b23)])) rfl (by rw [hml]; rfl) (Steps.refl _) (argsL := []) (rest := []) (lenOf pd__40__41_I rfl) rfl (by show 2 * 0 + _ ≤ _; exact Nat.le_of_eq rfl) (hb hby at_227) (fun _ _ => ⟨rfl, (rfl : T113.heap = _), (by decide : 6 + 0 ≤ _), (by decide : 22 + 0 ≤ _)⟩)
        dsimp only [Pt.U, Pt.locs, Pt.cells, Pt.slots] at X198 l198 y198 z198 st198 hQ198
        subst l198 y198 z198
        obtain ⟨g1198, hd1198, sz1198, rfl, N198q, Kq198, Fa199, Fa200, Fa201, Fa202, Fa203, Fa204, Fa205, hR1_198⟩ := hQ198
        have N198 := Fr.app N113 N198q
        have K198 : Keep h0 T198.heap [] := K113.trans Kq198 (allS (P := fun x => x ∈ [] ∨ h0.size ≤ x) (Or.inr sz_b23) (allS (P := fun x => x ∈ [] ∨ h0.size ≤ x) (Or.inr sz_ca31) (allS (P := fun x => x ∈ [] ∨ h0.size ≤ x) (Or.inr sz_wa31) all0)))
        have Z198 : n0 ≤ T198.heap.size := Nat.le_trans Z113 Kq198.1
        have Fa206 : PI Z T198.heap b1 .int 2 (own_l [(p0 &&& (3 : Int32)), (p1 &&& (3 : Int32))]) := Fa115.keep Kq198 (ninS ne_b1_b23 (ninS ne_b1_ca31 (ninS ne_b1_wa31 nin0)))
        have Fa207 : PI Z T198.heap b7 .int 3 (own_l [(p3 &&& (3 : Int32)), (p4 &&& (3 : Int32)), (p5 &&& (3 : Int32))]) := Fa116.keep Kq198 (ninS ne_b7_b23 (ninS ne_b7_ca31 (ninS ne_b7_wa31 nin0)))
        have Fa208 : Exa Z T198.heap b23 "com/example/lootpath/lootpath/solve/CityQueue" := Fa117.keep Kq198
        have Fa209 : PI Z T198.heap b19 .int 5 g1113 := Fa114.keep Kq198 (ninS ne_b19_b23 (ninS ne_b19_ca31 (ninS ne_b19_wa31 nin0)))
        refine goT (u' := T198.setTop (mkF m 230 #[.val (.int p0), .val (.int p1), .val (.int p2), .val (.int p3), .val (.int p4), .val (.int p5), .val (.int (p0 &&& (3 : Int32))), .val (.int (p1 &&& (3 : Int32))), .val (.int (p3 &&& (3 : Int32))), .val (.int (p4 &&& (3 : Int32))), .val (.int (p5 &&& (3 : Int32))), .val (.int (p2 &&& (3 : Int32))), .val (.ref b1), .val (.ref b7), .val (.ref b19), .val (.ref b23), .val (.int (1 : Int32)), s17] [(.int y222)])) st198 ?_
        refine go (u' := T198.setTop (mkF m 232 #[.val (.int p0), .val (.int p1), .val (.int p2), .val (.int p3), .val (.int p4), .val (.int p5), .val (.int (p0 &&& (3 : Int32))), .val (.int (p1 &&& (3 : Int32))), .val (.int (p3 &&& (3 : Int32))), .val (.int (p4 &&& (3 : Int32))), .val (.int (p5 &&& (3 : Int32))), .val (.int (p2 &&& (3 : Int32))), .val (.ref b1), .val (.ref b7), .val (.ref b19), .val (.ref b23), .val (.int (1 : Int32)), .val (.int y222)] [])) (fun _ ks_ => XS.istoreS X198.here hx rfl (hb hby at_230) rfl  rfl hs17 ks_) ?_
        refine go (u' := T198.setTop (mkF m 234 #[.val (.int p0), .val (.int p1), .val (.int p2), .val (.int p3), .val (.int p4), .val (.int p5), .val (.int (p0 &&& (3 : Int32))), .val (.int (p1 &&& (3 : Int32))), .val (.int (p3 &&& (3 : Int32))), .val (.int (p4 &&& (3 : Int32))), .val (.int (p5 &&& (3 : Int32))), .val (.int (p2 &&& (3 : Int32))), .val (.ref b1), .val (.ref b7), .val (.ref b19), .val (.ref b23), .val (.int (1 : Int32)), .val (.int y222)] [(.int (1 : Int32))])) (fun _ ks_ => XS.iload X198.here hx rfl (hb hby at_232) rfl  ks_) ?_
        refine go (u' := T198.setTop (mkF m 237 #[.val (.int p0), .val (.int p1), .val (.int p2), .val (.int p3), .val (.int p4), .val (.int p5), .val (.int (p0 &&& (3 : Int32))), .val (.int (p1 &&& (3 : Int32))), .val (.int (p3 &&& (3 : Int32))), .val (.int (p4 &&& (3 : Int32))), .val (.int (p5 &&& (3 : Int32))), .val (.int (p2 &&& (3 : Int32))), .val (.ref b1), .val (.ref b7), .val (.ref b19), .val (.ref b23), .val (.int (1 : Int32)), .val (.int y222)] [])) (fun _ ks_ => XS.ifNo X198.here hx rfl (hb hby at_234) rfl ((if0 _ _).trans (feq (show ¬ ((1 : Int32) = (0 : Int32)) from (by decide))).1) ks_) ?_
        refine go (u' := T198.setTop (mkF m 239 #[.val (.int p0), .val (.int p1), .val (.int p2), .val (.int p3), .val (.int p4), .val (.int p5), .val (.int (p0 &&& (3 : Int32))), .val (.int (p1 &&& (3 : Int32))), .val (.int (p3 &&& (3 : Int32))), .val (.int (p4 &&& (3 : Int32))), .val (.int (p5 &&& (3 : Int32))), .val (.int (p2 &&& (3 : Int32))), .val (.ref b1), .val (.ref b7), .val (.ref b19), .val (.ref b23), .val (.int (1 : Int32)), .val (.int y222)] [(.int y222)])) (fun _ ks_ => XS.iload X198.here hx rfl (hb hby at_237) rfl  ks_) ?_
        refine go (u' := T198.setTop (mkF m 241 #[.val (.int p0), .val (.int p1), .val (.int p2), .val (.int p3), .val (.int p4), .val (.int p5), .val (.int (p0 &&& (3 : Int32))), .val (.int (p1 &&& (3 : Int32))), .val (.int (p3 &&& (3 : Int32))), .val (.int (p4 &&& (3 : Int32))), .val (.int (p5 &&& (3 : Int32))), .val (.int (p2 &&& (3 : Int32))), .val (.ref b1), .val (.ref b7), .val (.ref b19), .val (.ref b23), .val (.int (1 : Int32)), .val (.int y222)] [(.ref b19), (.int y222)])) (fun _ ks_ => XS.aload X198.here hx rfl (hb hby at_239) rfl rfl ks_) ?_
        obtain ⟨_, _, ⟨T210, L210, k210, n210⟩, -, X210, ⟨Lc210, hQ210, l210, y210, z210⟩, st210⟩ := Jvm.LawKit.callS X198 hx (y := (⟨"com/example/lootpath/lootpath/solve/CityQueueAddPinLaw", "pop", "([I)I"⟩ : MethodName)) hown (mvT hZ (ww hw 33 rfl)) (mvT hZ (ww hw 34 rfl)) (mvT hZ (ww hw 26 rfl)) (mvT hZ (ww hw 35 rfl)) (by decide) (backOf (W := 1) (rm6 l Z a0 hw [] b19 g1113 y222 ys222 T198.heap n0 Z198 g_b19 Fa209 hM254) hZ (ww hw 35 rfl) (ww hw 26 rfl) (by decide) (by decide)) (g := (mkF m 241 #[.val (.int p0), .val (.int p1), .val (.int p2), .val (.int p3), .val (.int p4), .val (.int p5), .val (.int (p0 &&& (3 : Int32))), .val (.int (p1 &&& (3 : Int32))), .val (.int (p3 &&& (3 : Int32))), .val (.int (p4 &&& (3 : Int32))), .val (.int (p5 &&& (3 : Int32))), .val (.int (p2 &&& (3 : Int32))), .val (.ref b1), .val (.ref b7), .val (.ref b19), .val (.ref b23), .val (.int (1 : Int32)), .val (.int y222)] [(.ref b19), (.int y222)])) rfl (by rw [hml]; rfl) (argsL := [(.ref b19)]) (rest := [(.int y222)]) (lenOf pd__40__91_I_41_I rfl) rfl (by show 2 * 0 + _ ≤ _; exact Nat.le_of_eq rfl) (hb hby at_241) (fun _ _ => ⟨rfl, (rfl : T198.heap = _), (by decide : 6 + 0 ≤ _), (by decide : 22 + 0 ≤ _)⟩)
        dsimp only [Pt.U, Pt.locs, Pt.cells, Pt.slots] at X210 l210 y210 z210 st210 hQ210
        subst l210 y210 z210
        obtain ⟨g1210, rfl, N210q, Kq210, Fa211, hM1_210⟩ := hQ210
        have N210 := Fr.app N198 N210q
        have K210 : Keep h0 T210.heap [] := K198.trans Kq210 (allS (P := fun x => x ∈ [] ∨ h0.size ≤ x) (Or.inr sz_b19) all0)
        have Z210 : n0 ≤ T210.heap.size := Nat.le_trans Z198 Kq210.1
        have Fa212 : PI Z T210.heap b1 .int 2 (own_l [(p0 &&& (3 : Int32)), (p1 &&& (3 : Int32))]) := Fa206.keep Kq210 (ninS ne_b1_b19 nin0)
        have Fa213 : PI Z T210.heap b7 .int 3 (own_l [(p3 &&& (3 : Int32)), (p4 &&& (3 : Int32)), (p5 &&& (3 : Int32))]) := Fa207.keep Kq210 (ninS ne_b7_b19 nin0)
        have Fa214 : Exa Z T210.heap b23 "com/example/lootpath/lootpath/solve/CityQueue" := Fa199.keep Kq210
        have Fa215 : Fld Z T210.heap b23 "com/example/lootpath/lootpath/solve/CityQueue" "cities" "[I" (.ref ca31) := Fa200.keep Kq210 (ninS (Ne.symm ne_b19_b23) nin0)
        have Fa216 : Fld Z T210.heap b23 "com/example/lootpath/lootpath/solve/CityQueue" "waiting" "[Z" (.ref wa31) := Fa201.keep Kq210 (ninS (Ne.symm ne_b19_b23) nin0)
        have Fa217 : Fld Z T210.heap b23 "com/example/lootpath/lootpath/solve/CityQueue" "head" "I" (.int hd1198) := Fa202.keep Kq210 (ninS (Ne.symm ne_b19_b23) nin0)
        have Fa218 : Fld Z T210.heap b23 "com/example/lootpath/lootpath/solve/CityQueue" "size" "I" (.int sz1198) := Fa203.keep Kq210 (ninS (Ne.symm ne_b19_b23) nin0)
        have Fa219 : PI Z T210.heap ca31 .int (4 : Int32).toNatClampNeg f179 := Fa204.keep Kq210 (ninS (Ne.symm ne_b19_ca31) nin0)
        have Fa220 : PI Z T210.heap wa31 .boolean (4 : Int32).toNatClampNeg g1198 := Fa205.keep Kq210 (ninS (Ne.symm ne_b19_wa31) nin0)
        refine go (u' := T210.setTop (mkF m 244 #[.val (.int p0), .val (.int p1), .val (.int p2), .val (.int p3), .val (.int p4), .val (.int p5), .val (.int (p0 &&& (3 : Int32))), .val (.int (p1 &&& (3 : Int32))), .val (.int (p3 &&& (3 : Int32))), .val (.int (p4 &&& (3 : Int32))), .val (.int (p5 &&& (3 : Int32))), .val (.int (p2 &&& (3 : Int32))), .val (.ref b1), .val (.ref b7), .val (.ref b19), .val (.ref b23), .val (.int (1 : Int32)), .val (.int y222)] [(.int y222), (.int y222)])) st210 ?_
        refine go (u' := T210.setTop (mkF m 247 #[.val (.int p0), .val (.int p1), .val (.int p2), .val (.int p3), .val (.int p4), .val (.int p5), .val (.int (p0 &&& (3 : Int32))), .val (.int (p1 &&& (3 : Int32))), .val (.int (p3 &&& (3 : Int32))), .val (.int (p4 &&& (3 : Int32))), .val (.int (p5 &&& (3 : Int32))), .val (.int (p2 &&& (3 : Int32))), .val (.ref b1), .val (.ref b7), .val (.ref b19), .val (.ref b23), .val (.int (1 : Int32)), .val (.int y222)] [])) (fun _ ks_ => XS.icmpNo X210.here hx rfl (hb hby at_244) rfl (teq rfl).2 ks_) ?_
        refine go (u' := T210.setTop (mkF m 248 #[.val (.int p0), .val (.int p1), .val (.int p2), .val (.int p3), .val (.int p4), .val (.int p5), .val (.int (p0 &&& (3 : Int32))), .val (.int (p1 &&& (3 : Int32))), .val (.int (p3 &&& (3 : Int32))), .val (.int (p4 &&& (3 : Int32))), .val (.int (p5 &&& (3 : Int32))), .val (.int (p2 &&& (3 : Int32))), .val (.ref b1), .val (.ref b7), .val (.ref b19), .val (.ref b23), .val (.int (1 : Int32)), .val (.int y222)] [(.int (1 : Int32))])) (fun _ ks_ => XS.iconst X210.here hx rfl (hb hby at_247) ks_) ?_
        refine go (u' := T210.setTop (mkF m 252 #[.val (.int p0), .val (.int p1), .val (.int p2), .val (.int p3), .val (.int p4), .val (.int p5), .val (.int (p0 &&& (3 : Int32))), .val (.int (p1 &&& (3 : Int32))), .val (.int (p3 &&& (3 : Int32))), .val (.int (p4 &&& (3 : Int32))), .val (.int (p5 &&& (3 : Int32))), .val (.int (p2 &&& (3 : Int32))), .val (.ref b1), .val (.ref b7), .val (.ref b19), .val (.ref b23), .val (.int (1 : Int32)), .val (.int y222)] [(.int (1 : Int32))])) (fun _ ks_ => XS.goto X210.here hx rfl (pc0 := 248) (pc' := 252) rfl (hb hby at_248) (by decide) (by decide) ks_) ?_
        refine go (u' := T210.setTop (mkF m 254 #[.val (.int p0), .val (.int p1), .val (.int p2), .val (.int p3), .val (.int p4), .val (.int p5), .val (.int (p0 &&& (3 : Int32))), .val (.int (p1 &&& (3 : Int32))), .val (.int (p3 &&& (3 : Int32))), .val (.int (p4 &&& (3 : Int32))), .val (.int (p5 &&& (3 : Int32))), .val (.int (p2 &&& (3 : Int32))), .val (.ref b1), .val (.ref b7), .val (.ref b19), .val (.ref b23), .val (.int (1 : Int32)), .val (.int y222)] [])) (fun _ ks_ => XS.istore X210.here hx rfl (hb hby at_252) rfl  (l' := #[.val (.int p0), .val (.int p1), .val (.int p2), .val (.int p3), .val (.int p4), .val (.int p5), .val (.int (p0 &&& (3 : Int32))), .val (.int (p1 &&& (3 : Int32))), .val (.int (p3 &&& (3 : Int32))), .val (.int (p4 &&& (3 : Int32))), .val (.int (p5 &&& (3 : Int32))), .val (.int (p2 &&& (3 : Int32))), .val (.ref b1), .val (.ref b7), .val (.ref b19), .val (.ref b23), .val (.int (1 : Int32)), .val (.int y222)]) rfl ks_) ?_
        exact C254_3 f179 g1198 hd1198 sz1198 ys222 g1210 (.val (.int y222)) _ _ _ X210 (rfl : T210.heap = _) N210 Z210 K210 Fa212 Fa213 Fa214 Fa215 Fa216 Fa217 Fa218 Fa219 Fa220 Fa211 hR1_198 hM1_210 (One.val rfl) (by have q := hL254; simp only [List.length_cons] at q; omega)
      ·
        refine go (u' := T113.setTop (mkF m 254 #[.val (.int p0), .val (.int p1), .val (.int p2), .val (.int p3), .val (.int p4), .val (.int p5), .val (.int (p0 &&& (3 : Int32))), .val (.int (p1 &&& (3 : Int32))), .val (.int (p3 &&& (3 : Int32))), .val (.int (p4 &&& (3 : Int32))), .val (.int (p5 &&& (3 : Int32))), .val (.int (p2 &&& (3 : Int32))), .val (.ref b1), .val (.ref b7), .val (.ref b19), .val (.ref b23), .val (.int (1 : Int32)), s17] [])) (fun _ ks_ => XS.ifYes X113.here hx rfl (pc0 := 222) (pc' := 254) rfl (hb hby at_222) rfl ((if0 _ _).trans (flt c222_4).2.2.2) (by decide) (by decide) ks_) ?_
        exact C254_3 f179 g179 hd sz179 xa254 g1113 s17 _ _ _ X113 (rfl : T113.heap = _) N113 Z113 K113 Fa115 Fa116 Fa117 Fa118 Fa119 Fa120 Fa121 Fa122 Fa123 Fa114 hR254 hM254 hs17 (by have q := hM254.nil c222_4; omega)
    refine go (u' := T77.setTop (mkF m 150 #[.val (.int p0), .val (.int p1), .val (.int p2), .val (.int p3), .val (.int p4), .val (.int p5), .val (.int (p0 &&& (3 : Int32))), .val (.int (p1 &&& (3 : Int32))), .val (.int (p3 &&& (3 : Int32))), .val (.int (p4 &&& (3 : Int32))), .val (.int (p5 &&& (3 : Int32))), .val (.int (p2 &&& (3 : Int32))), .val (.ref b1), .val (.ref b7), .val (.ref b19), .val (.ref b23), .val (.int (1 : Int32)), s17] [(.int (p2 &&& (3 : Int32)))])) (fun _ ks_ => XS.iload X77.here hx rfl (hb hby at_148) rfl  ks_) ?_
    refine go (u' := T77.setTop (mkF m 151 #[.val (.int p0), .val (.int p1), .val (.int p2), .val (.int p3), .val (.int p4), .val (.int p5), .val (.int (p0 &&& (3 : Int32))), .val (.int (p1 &&& (3 : Int32))), .val (.int (p3 &&& (3 : Int32))), .val (.int (p4 &&& (3 : Int32))), .val (.int (p5 &&& (3 : Int32))), .val (.int (p2 &&& (3 : Int32))), .val (.ref b1), .val (.ref b7), .val (.ref b19), .val (.ref b23), .val (.int (1 : Int32)), s17] [(.int (2 : Int32)), (.int (p2 &&& (3 : Int32)))])) (fun _ ks_ => XS.iconst X77.here hx rfl (hb hby at_150) ks_) ?_
    by_cases c151_5 : (p2 &&& (3 : Int32)) < (2 : Int32)
    ·
      refine go (u' := T77.setTop (mkF m 190 #[.val (.int p0), .val (.int p1), .val (.int p2), .val (.int p3), .val (.int p4), .val (.int p5), .val (.int (p0 &&& (3 : Int32))), .val (.int (p1 &&& (3 : Int32))), .val (.int (p3 &&& (3 : Int32))), .val (.int (p4 &&& (3 : Int32))), .val (.int (p5 &&& (3 : Int32))), .val (.int (p2 &&& (3 : Int32))), .val (.ref b1), .val (.ref b7), .val (.ref b19), .val (.ref b23), .val (.int (1 : Int32)), s17] [])) (fun _ ks_ => XS.icmpYes X77.here hx rfl (pc0 := 151) (pc' := 190) rfl (hb hby at_151) rfl (tlt c151_5).1 (by decide) (by decide) ks_) ?_
      exact C190_2 f g hd sz xs mg s17 _ _ _ X77 e77 N77 Z77 K77 F77_0 F77_1 F77_2 F77_3 F77_4 F77_5 F77_6 F77_7 F77_8 F77_9 hR hM hs17
    ·
      refine go (u' := T77.setTop (mkF m 154 #[.val (.int p0), .val (.int p1), .val (.int p2), .val (.int p3), .val (.int p4), .val (.int p5), .val (.int (p0 &&& (3 : Int32))), .val (.int (p1 &&& (3 : Int32))), .val (.int (p3 &&& (3 : Int32))), .val (.int (p4 &&& (3 : Int32))), .val (.int (p5 &&& (3 : Int32))), .val (.int (p2 &&& (3 : Int32))), .val (.ref b1), .val (.ref b7), .val (.ref b19), .val (.ref b23), .val (.int (1 : Int32)), s17] [])) (fun _ ks_ => XS.icmpNo X77.here hx rfl (hb hby at_151) rfl (flt c151_5).1 ks_) ?_
      refine go (u' := T77.setTop (mkF m 156 #[.val (.int p0), .val (.int p1), .val (.int p2), .val (.int p3), .val (.int p4), .val (.int p5), .val (.int (p0 &&& (3 : Int32))), .val (.int (p1 &&& (3 : Int32))), .val (.int (p3 &&& (3 : Int32))), .val (.int (p4 &&& (3 : Int32))), .val (.int (p5 &&& (3 : Int32))), .val (.int (p2 &&& (3 : Int32))), .val (.ref b1), .val (.ref b7), .val (.ref b19), .val (.ref b23), .val (.int (1 : Int32)), s17] [(.ref b19)])) (fun _ ks_ => XS.aload X77.here hx rfl (hb hby at_154) rfl rfl ks_) ?_
      refine go (u' := T77.setTop (mkF m 157 #[.val (.int p0), .val (.int p1), .val (.int p2), .val (.int p3), .val (.int p4), .val (.int p5), .val (.int (p0 &&& (3 : Int32))), .val (.int (p1 &&& (3 : Int32))), .val (.int (p3 &&& (3 : Int32))), .val (.int (p4 &&& (3 : Int32))), .val (.int (p5 &&& (3 : Int32))), .val (.int (p2 &&& (3 : Int32))), .val (.ref b1), .val (.ref b7), .val (.ref b19), .val (.ref b23), .val (.int (1 : Int32)), s17] [(.int (4 : Int32)), (.ref b19)])) (fun _ ks_ => XS.iconst X77.here hx rfl (hb hby at_156) ks_) ?_
      refine go (u' := T77.setTop (mkF m 158 #[.val (.int p0), .val (.int p1), .val (.int p2), .val (.int p3), .val (.int p4), .val (.int p5), .val (.int (p0 &&& (3 : Int32))), .val (.int (p1 &&& (3 : Int32))), .val (.int (p3 &&& (3 : Int32))), .val (.int (p4 &&& (3 : Int32))), .val (.int (p5 &&& (3 : Int32))), .val (.int (p2 &&& (3 : Int32))), .val (.ref b1), .val (.ref b7), .val (.ref b19), .val (.ref b23), .val (.int (1 : Int32)), s17] [(.int (mg (4 : Int32).toNatClampNeg))])) (own_iaload X77 hx hZ e77 F77_9 (j := (4 : Int32)) (v := (mg (4 : Int32).toNatClampNeg)) (by decide) (by decide) rfl (f := (mkF m 157 #[.val (.int p0), .val (.int p1), .val (.int p2), .val (.int p3), .val (.int p4), .val (.int p5), .val (.int (p0 &&& (3 : Int32))), .val (.int (p1 &&& (3 : Int32))), .val (.int (p3 &&& (3 : Int32))), .val (.int (p4 &&& (3 : Int32))), .val (.int (p5 &&& (3 : Int32))), .val (.int (p2 &&& (3 : Int32))), .val (.ref b1), .val (.ref b7), .val (.ref b19), .val (.ref b23), .val (.int (1 : Int32)), s17] [(.int (4 : Int32)), (.ref b19)])) rfl rfl (hb hby at_157)) ?_
      by_cases c158_6 : (0 : Int32) < (mg (4 : Int32).toNatClampNeg)
      ·
        refine go (u' := T77.setTop (mkF m 161 #[.val (.int p0), .val (.int p1), .val (.int p2), .val (.int p3), .val (.int p4), .val (.int p5), .val (.int (p0 &&& (3 : Int32))), .val (.int (p1 &&& (3 : Int32))), .val (.int (p3 &&& (3 : Int32))), .val (.int (p4 &&& (3 : Int32))), .val (.int (p5 &&& (3 : Int32))), .val (.int (p2 &&& (3 : Int32))), .val (.ref b1), .val (.ref b7), .val (.ref b19), .val (.ref b23), .val (.int (1 : Int32)), s17] [])) (fun _ ks_ => XS.ifNo X77.here hx rfl (hb hby at_158) rfl ((if0 _ _).trans (tlt c158_6).2.2.2) ks_) ?_
        refine go (u' := T77.setTop (mkF m 163 #[.val (.int p0), .val (.int p1), .val (.int p2), .val (.int p3), .val (.int p4), .val (.int p5), .val (.int (p0 &&& (3 : Int32))), .val (.int (p1 &&& (3 : Int32))), .val (.int (p3 &&& (3 : Int32))), .val (.int (p4 &&& (3 : Int32))), .val (.int (p5 &&& (3 : Int32))), .val (.int (p2 &&& (3 : Int32))), .val (.ref b1), .val (.ref b7), .val (.ref b19), .val (.ref b23), .val (.int (1 : Int32)), s17] [(.ref b23)])) (fun _ ks_ => XS.aload X77.here hx rfl (hb hby at_161) rfl rfl ks_) ?_
        obtain ⟨y158, ys158, rfl⟩ := hM.cons c158_6
        obtain ⟨cq221, kq221, q221a, q221b, q221c⟩ := isOf hZ e77 F77_2
        obtain ⟨_, _, ⟨T221, L221, k221, n221⟩, -, X221, ⟨Lc221, hQ221, l221, y221, z221⟩, st221⟩ := X77.virtualBack hx (y := (⟨"com/example/lootpath/lootpath/solve/CityQueue", "take", "()I"⟩ : MethodName)) (z := (⟨"com/example/lootpath/lootpath/solve/CityQueue", "take", "()I"⟩ : MethodName)) hown (mvT hZ (ww hw 28 rfl)) (mvT hZ (ww hw 29 rfl)) (notFace_of_selects (args := #[]) (mvT hZ (ww hw 31 rfl))) (mvT hZ (ww hw 31 rfl)) (mvT hZ (ww hw 30 rfl)) (by decide) (backOf (W := 0) (rm5 l Z a0 hw [] b23 ca31 wa31 hd sz (4 : Int32).toNatClampNeg f g y158 ys158 h77 n0 Z77 g_b23 g_ca31 g_wa31 ne_b23_ca31 ne_b23_wa31 nca_31 F77_2 F77_3 F77_4 F77_5 F77_6 F77_7 F77_8 hR) hZ (ww hw 32 rfl) (ww hw 3 rfl) (by decide) (by decide)) q221a q221c (g := (mkF m 163 #[.val (.int p0), .val (.int p1), .val (.int p2), .val (.int p3), .val (.int p4), .val (.int p5), .val (.int (p0 &&& (3 : Int32))), .val (.int (p1 &&& (3 : Int32))), .val (.int (p3 &&& (3 : Int32))), .val (.int (p4 &&& (3 : Int32))), .val (.int (p5 &&& (3 : Int32))), .val (.int (p2 &&& (3 : Int32))), .val (.ref b1), .val (.ref b7), .val (.ref b19), .val (.ref b23), .val (.int (1 : Int32)), s17] [(.ref b23)])) rfl (by rw [hml]; rfl) (Steps.refl _) (argsL := []) (rest := []) (lenOf pd__40__41_I rfl) rfl (by show 2 * 0 + _ ≤ _; exact Nat.le_of_eq rfl) (hb hby at_163) (fun _ _ => ⟨rfl, e77, (by decide : 6 + 0 ≤ _), (by decide : 22 + 0 ≤ _)⟩)
        dsimp only [Pt.U, Pt.locs, Pt.cells, Pt.slots] at X221 l221 y221 z221 st221 hQ221
        subst l221 y221 z221
        obtain ⟨g1221, hd1221, sz1221, rfl, N221q, Kq221, Fa222, Fa223, Fa224, Fa225, Fa226, Fa227, Fa228, hR1_221⟩ := hQ221
        have N221 := Fr.app N77 N221q
        have K221 : Keep h0 T221.heap [] := K77.trans Kq221 (allS (P := fun x => x ∈ [] ∨ h0.size ≤ x) (Or.inr sz_b23) (allS (P := fun x => x ∈ [] ∨ h0.size ≤ x) (Or.inr sz_ca31) (allS (P := fun x => x ∈ [] ∨ h0.size ≤ x) (Or.inr sz_wa31) all0)))
        have Z221 : n0 ≤ T221.heap.size := Nat.le_trans Z77 Kq221.1
        have Fa229 : PI Z T221.heap b1 .int 2 (own_l [(p0 &&& (3 : Int32)), (p1 &&& (3 : Int32))]) := F77_0.keep Kq221 (ninS ne_b1_b23 (ninS ne_b1_ca31 (ninS ne_b1_wa31 nin0)))
        have Fa230 : PI Z T221.heap b7 .int 3 (own_l [(p3 &&& (3 : Int32)), (p4 &&& (3 : Int32)), (p5 &&& (3 : Int32))]) := F77_1.keep Kq221 (ninS ne_b7_b23 (ninS ne_b7_ca31 (ninS ne_b7_wa31 nin0)))
        have Fa231 : Exa Z T221.heap b23 "com/example/lootpath/lootpath/solve/CityQueue" := F77_2.keep Kq221
        have Fa232 : PI Z T221.heap b19 .int 5 mg := F77_9.keep Kq221 (ninS ne_b19_b23 (ninS ne_b19_ca31 (ninS ne_b19_wa31 nin0)))
        refine goT (u' := T221.setTop (mkF m 166 #[.val (.int p0), .val (.int p1), .val (.int p2), .val (.int p3), .val (.int p4), .val (.int p5), .val (.int (p0 &&& (3 : Int32))), .val (.int (p1 &&& (3 : Int32))), .val (.int (p3 &&& (3 : Int32))), .val (.int (p4 &&& (3 : Int32))), .val (.int (p5 &&& (3 : Int32))), .val (.int (p2 &&& (3 : Int32))), .val (.ref b1), .val (.ref b7), .val (.ref b19), .val (.ref b23), .val (.int (1 : Int32)), s17] [(.int y158)])) st221 ?_
        refine go (u' := T221.setTop (mkF m 168 #[.val (.int p0), .val (.int p1), .val (.int p2), .val (.int p3), .val (.int p4), .val (.int p5), .val (.int (p0 &&& (3 : Int32))), .val (.int (p1 &&& (3 : Int32))), .val (.int (p3 &&& (3 : Int32))), .val (.int (p4 &&& (3 : Int32))), .val (.int (p5 &&& (3 : Int32))), .val (.int (p2 &&& (3 : Int32))), .val (.ref b1), .val (.ref b7), .val (.ref b19), .val (.ref b23), .val (.int (1 : Int32)), .val (.int y158)] [])) (fun _ ks_ => XS.istoreS X221.here hx rfl (hb hby at_166) rfl  rfl hs17 ks_) ?_
        refine go (u' := T221.setTop (mkF m 170 #[.val (.int p0), .val (.int p1), .val (.int p2), .val (.int p3), .val (.int p4), .val (.int p5), .val (.int (p0 &&& (3 : Int32))), .val (.int (p1 &&& (3 : Int32))), .val (.int (p3 &&& (3 : Int32))), .val (.int (p4 &&& (3 : Int32))), .val (.int (p5 &&& (3 : Int32))), .val (.int (p2 &&& (3 : Int32))), .val (.ref b1), .val (.ref b7), .val (.ref b19), .val (.ref b23), .val (.int (1 : Int32)), .val (.int y158)] [(.int (1 : Int32))])) (fun _ ks_ => XS.iload X221.here hx rfl (hb hby at_168) rfl  ks_) ?_
        refine go (u' := T221.setTop (mkF m 173 #[.val (.int p0), .val (.int p1), .val (.int p2), .val (.int p3), .val (.int p4), .val (.int p5), .val (.int (p0 &&& (3 : Int32))), .val (.int (p1 &&& (3 : Int32))), .val (.int (p3 &&& (3 : Int32))), .val (.int (p4 &&& (3 : Int32))), .val (.int (p5 &&& (3 : Int32))), .val (.int (p2 &&& (3 : Int32))), .val (.ref b1), .val (.ref b7), .val (.ref b19), .val (.ref b23), .val (.int (1 : Int32)), .val (.int y158)] [])) (fun _ ks_ => XS.ifNo X221.here hx rfl (hb hby at_170) rfl ((if0 _ _).trans (feq (show ¬ ((1 : Int32) = (0 : Int32)) from (by decide))).1) ks_) ?_
        refine go (u' := T221.setTop (mkF m 175 #[.val (.int p0), .val (.int p1), .val (.int p2), .val (.int p3), .val (.int p4), .val (.int p5), .val (.int (p0 &&& (3 : Int32))), .val (.int (p1 &&& (3 : Int32))), .val (.int (p3 &&& (3 : Int32))), .val (.int (p4 &&& (3 : Int32))), .val (.int (p5 &&& (3 : Int32))), .val (.int (p2 &&& (3 : Int32))), .val (.ref b1), .val (.ref b7), .val (.ref b19), .val (.ref b23), .val (.int (1 : Int32)), .val (.int y158)] [(.int y158)])) (fun _ ks_ => XS.iload X221.here hx rfl (hb hby at_173) rfl  ks_) ?_
        refine go (u' := T221.setTop (mkF m 177 #[.val (.int p0), .val (.int p1), .val (.int p2), .val (.int p3), .val (.int p4), .val (.int p5), .val (.int (p0 &&& (3 : Int32))), .val (.int (p1 &&& (3 : Int32))), .val (.int (p3 &&& (3 : Int32))), .val (.int (p4 &&& (3 : Int32))), .val (.int (p5 &&& (3 : Int32))), .val (.int (p2 &&& (3 : Int32))), .val (.ref b1), .val (.ref b7), .val (.ref b19), .val (.ref b23), .val (.int (1 : Int32)), .val (.int y158)] [(.ref b19), (.int y158)])) (fun _ ks_ => XS.aload X221.here hx rfl (hb hby at_175) rfl rfl ks_) ?_
        obtain ⟨_, _, ⟨T233, L233, k233, n233⟩, -, X233, ⟨Lc233, hQ233, l233, y233, z233⟩, st233⟩ := Jvm.LawKit.callS X221 hx (y := (⟨"com/example/lootpath/lootpath/solve/CityQueueAddPinLaw", "pop", "([I)I"⟩ : MethodName)) hown (mvT hZ (ww hw 33 rfl)) (mvT hZ (ww hw 34 rfl)) (mvT hZ (ww hw 26 rfl)) (mvT hZ (ww hw 35 rfl)) (by decide) (backOf (W := 1) (rm6 l Z a0 hw [] b19 mg y158 ys158 T221.heap n0 Z221 g_b19 Fa232 hM) hZ (ww hw 35 rfl) (ww hw 26 rfl) (by decide) (by decide)) (g := (mkF m 177 #[.val (.int p0), .val (.int p1), .val (.int p2), .val (.int p3), .val (.int p4), .val (.int p5), .val (.int (p0 &&& (3 : Int32))), .val (.int (p1 &&& (3 : Int32))), .val (.int (p3 &&& (3 : Int32))), .val (.int (p4 &&& (3 : Int32))), .val (.int (p5 &&& (3 : Int32))), .val (.int (p2 &&& (3 : Int32))), .val (.ref b1), .val (.ref b7), .val (.ref b19), .val (.ref b23), .val (.int (1 : Int32)), .val (.int y158)] [(.ref b19), (.int y158)])) rfl (by rw [hml]; rfl) (argsL := [(.ref b19)]) (rest := [(.int y158)]) (lenOf pd__40__91_I_41_I rfl) rfl (by show 2 * 0 + _ ≤ _; exact Nat.le_of_eq rfl) (hb hby at_177) (fun _ _ => ⟨rfl, (rfl : T221.heap = _), (by decide : 6 + 0 ≤ _), (by decide : 22 + 0 ≤ _)⟩)
        dsimp only [Pt.U, Pt.locs, Pt.cells, Pt.slots] at X233 l233 y233 z233 st233 hQ233
        subst l233 y233 z233
        obtain ⟨g1233, rfl, N233q, Kq233, Fa234, hM1_233⟩ := hQ233
        have N233 := Fr.app N221 N233q
        have K233 : Keep h0 T233.heap [] := K221.trans Kq233 (allS (P := fun x => x ∈ [] ∨ h0.size ≤ x) (Or.inr sz_b19) all0)
        have Z233 : n0 ≤ T233.heap.size := Nat.le_trans Z221 Kq233.1
        have Fa235 : PI Z T233.heap b1 .int 2 (own_l [(p0 &&& (3 : Int32)), (p1 &&& (3 : Int32))]) := Fa229.keep Kq233 (ninS ne_b1_b19 nin0)
        have Fa236 : PI Z T233.heap b7 .int 3 (own_l [(p3 &&& (3 : Int32)), (p4 &&& (3 : Int32)), (p5 &&& (3 : Int32))]) := Fa230.keep Kq233 (ninS ne_b7_b19 nin0)
        have Fa237 : Exa Z T233.heap b23 "com/example/lootpath/lootpath/solve/CityQueue" := Fa222.keep Kq233
        have Fa238 : Fld Z T233.heap b23 "com/example/lootpath/lootpath/solve/CityQueue" "cities" "[I" (.ref ca31) := Fa223.keep Kq233 (ninS (Ne.symm ne_b19_b23) nin0)
        have Fa239 : Fld Z T233.heap b23 "com/example/lootpath/lootpath/solve/CityQueue" "waiting" "[Z" (.ref wa31) := Fa224.keep Kq233 (ninS (Ne.symm ne_b19_b23) nin0)
        have Fa240 : Fld Z T233.heap b23 "com/example/lootpath/lootpath/solve/CityQueue" "head" "I" (.int hd1221) := Fa225.keep Kq233 (ninS (Ne.symm ne_b19_b23) nin0)
        have Fa241 : Fld Z T233.heap b23 "com/example/lootpath/lootpath/solve/CityQueue" "size" "I" (.int sz1221) := Fa226.keep Kq233 (ninS (Ne.symm ne_b19_b23) nin0)
        have Fa242 : PI Z T233.heap ca31 .int (4 : Int32).toNatClampNeg f := Fa227.keep Kq233 (ninS (Ne.symm ne_b19_ca31) nin0)
        have Fa243 : PI Z T233.heap wa31 .boolean (4 : Int32).toNatClampNeg g1221 := Fa228.keep Kq233 (ninS (Ne.symm ne_b19_wa31) nin0)
        refine go (u' := T233.setTop (mkF m 180 #[.val (.int p0), .val (.int p1), .val (.int p2), .val (.int p3), .val (.int p4), .val (.int p5), .val (.int (p0 &&& (3 : Int32))), .val (.int (p1 &&& (3 : Int32))), .val (.int (p3 &&& (3 : Int32))), .val (.int (p4 &&& (3 : Int32))), .val (.int (p5 &&& (3 : Int32))), .val (.int (p2 &&& (3 : Int32))), .val (.ref b1), .val (.ref b7), .val (.ref b19), .val (.ref b23), .val (.int (1 : Int32)), .val (.int y158)] [(.int y158), (.int y158)])) st233 ?_
        refine go (u' := T233.setTop (mkF m 183 #[.val (.int p0), .val (.int p1), .val (.int p2), .val (.int p3), .val (.int p4), .val (.int p5), .val (.int (p0 &&& (3 : Int32))), .val (.int (p1 &&& (3 : Int32))), .val (.int (p3 &&& (3 : Int32))), .val (.int (p4 &&& (3 : Int32))), .val (.int (p5 &&& (3 : Int32))), .val (.int (p2 &&& (3 : Int32))), .val (.ref b1), .val (.ref b7), .val (.ref b19), .val (.ref b23), .val (.int (1 : Int32)), .val (.int y158)] [])) (fun _ ks_ => XS.icmpNo X233.here hx rfl (hb hby at_180) rfl (teq rfl).2 ks_) ?_
        refine go (u' := T233.setTop (mkF m 184 #[.val (.int p0), .val (.int p1), .val (.int p2), .val (.int p3), .val (.int p4), .val (.int p5), .val (.int (p0 &&& (3 : Int32))), .val (.int (p1 &&& (3 : Int32))), .val (.int (p3 &&& (3 : Int32))), .val (.int (p4 &&& (3 : Int32))), .val (.int (p5 &&& (3 : Int32))), .val (.int (p2 &&& (3 : Int32))), .val (.ref b1), .val (.ref b7), .val (.ref b19), .val (.ref b23), .val (.int (1 : Int32)), .val (.int y158)] [(.int (1 : Int32))])) (fun _ ks_ => XS.iconst X233.here hx rfl (hb hby at_183) ks_) ?_
        refine go (u' := T233.setTop (mkF m 188 #[.val (.int p0), .val (.int p1), .val (.int p2), .val (.int p3), .val (.int p4), .val (.int p5), .val (.int (p0 &&& (3 : Int32))), .val (.int (p1 &&& (3 : Int32))), .val (.int (p3 &&& (3 : Int32))), .val (.int (p4 &&& (3 : Int32))), .val (.int (p5 &&& (3 : Int32))), .val (.int (p2 &&& (3 : Int32))), .val (.ref b1), .val (.ref b7), .val (.ref b19), .val (.ref b23), .val (.int (1 : Int32)), .val (.int y158)] [(.int (1 : Int32))])) (fun _ ks_ => XS.goto X233.here hx rfl (pc0 := 184) (pc' := 188) rfl (hb hby at_184) (by decide) (by decide) ks_) ?_
        refine go (u' := T233.setTop (mkF m 190 #[.val (.int p0), .val (.int p1), .val (.int p2), .val (.int p3), .val (.int p4), .val (.int p5), .val (.int (p0 &&& (3 : Int32))), .val (.int (p1 &&& (3 : Int32))), .val (.int (p3 &&& (3 : Int32))), .val (.int (p4 &&& (3 : Int32))), .val (.int (p5 &&& (3 : Int32))), .val (.int (p2 &&& (3 : Int32))), .val (.ref b1), .val (.ref b7), .val (.ref b19), .val (.ref b23), .val (.int (1 : Int32)), .val (.int y158)] [])) (fun _ ks_ => XS.istore X233.here hx rfl (hb hby at_188) rfl  (l' := #[.val (.int p0), .val (.int p1), .val (.int p2), .val (.int p3), .val (.int p4), .val (.int p5), .val (.int (p0 &&& (3 : Int32))), .val (.int (p1 &&& (3 : Int32))), .val (.int (p3 &&& (3 : Int32))), .val (.int (p4 &&& (3 : Int32))), .val (.int (p5 &&& (3 : Int32))), .val (.int (p2 &&& (3 : Int32))), .val (.ref b1), .val (.ref b7), .val (.ref b19), .val (.ref b23), .val (.int (1 : Int32)), .val (.int y158)]) rfl ks_) ?_
        exact C190_2 f g1221 hd1221 sz1221 ys158 g1233 (.val (.int y158)) _ _ _ X233 (rfl : T233.heap = _) N233 Z233 K233 Fa235 Fa236 Fa237 Fa238 Fa239 Fa240 Fa241 Fa242 Fa243 Fa234 hR1_221 hM1_233 (One.val rfl)
      ·
        refine go (u' := T77.setTop (mkF m 190 #[.val (.int p0), .val (.int p1), .val (.int p2), .val (.int p3), .val (.int p4), .val (.int p5), .val (.int (p0 &&& (3 : Int32))), .val (.int (p1 &&& (3 : Int32))), .val (.int (p3 &&& (3 : Int32))), .val (.int (p4 &&& (3 : Int32))), .val (.int (p5 &&& (3 : Int32))), .val (.int (p2 &&& (3 : Int32))), .val (.ref b1), .val (.ref b7), .val (.ref b19), .val (.ref b23), .val (.int (1 : Int32)), s17] [])) (fun _ ks_ => XS.ifYes X77.here hx rfl (pc0 := 158) (pc' := 190) rfl (hb hby at_158) rfl ((if0 _ _).trans (flt c158_6).2.2.2) (by decide) (by decide) ks_) ?_
        exact C190_2 f g hd sz xs mg s17 _ _ _ X77 e77 N77 Z77 K77 F77_0 F77_1 F77_2 F77_3 F77_4 F77_5 F77_6 F77_7 F77_8 F77_9 hR hM hs17
  refine go (u' := T66.setTop (mkF m 108 #[.val (.int p0), .val (.int p1), .val (.int p2), .val (.int p3), .val (.int p4), .val (.int p5), .val (.int (p0 &&& (3 : Int32))), .val (.int (p1 &&& (3 : Int32))), .val (.int (p3 &&& (3 : Int32))), .val (.int (p4 &&& (3 : Int32))), .val (.int (p5 &&& (3 : Int32))), .val (.int (p2 &&& (3 : Int32))), .val (.ref b1), .val (.ref b7), .val (.ref b19), .val (.ref b23), .val (.int (1 : Int32)), .unset] [(.int (p2 &&& (3 : Int32)))])) (fun _ ks_ => XS.iload X66.here hx rfl (hb hby at_106) rfl  ks_) ?_
  refine go (u' := T66.setTop (mkF m 109 #[.val (.int p0), .val (.int p1), .val (.int p2), .val (.int p3), .val (.int p4), .val (.int p5), .val (.int (p0 &&& (3 : Int32))), .val (.int (p1 &&& (3 : Int32))), .val (.int (p3 &&& (3 : Int32))), .val (.int (p4 &&& (3 : Int32))), .val (.int (p5 &&& (3 : Int32))), .val (.int (p2 &&& (3 : Int32))), .val (.ref b1), .val (.ref b7), .val (.ref b19), .val (.ref b23), .val (.int (1 : Int32)), .unset] [(.int (1 : Int32)), (.int (p2 &&& (3 : Int32)))])) (fun _ ks_ => XS.iconst X66.here hx rfl (hb hby at_108) ks_) ?_
  by_cases c109_7 : (p2 &&& (3 : Int32)) < (1 : Int32)
  ·
    refine go (u' := T66.setTop (mkF m 148 #[.val (.int p0), .val (.int p1), .val (.int p2), .val (.int p3), .val (.int p4), .val (.int p5), .val (.int (p0 &&& (3 : Int32))), .val (.int (p1 &&& (3 : Int32))), .val (.int (p3 &&& (3 : Int32))), .val (.int (p4 &&& (3 : Int32))), .val (.int (p5 &&& (3 : Int32))), .val (.int (p2 &&& (3 : Int32))), .val (.ref b1), .val (.ref b7), .val (.ref b19), .val (.ref b23), .val (.int (1 : Int32)), .unset] [])) (fun _ ks_ => XS.icmpYes X66.here hx rfl (pc0 := 109) (pc' := 148) rfl (hb hby at_109) rfl (tlt c109_7).1 (by decide) (by decide) ks_) ?_
    exact C148_1 f143 g143 ((0 : Int32)) sz143 xa148 g166 .unset _ _ _ X66 (rfl : T66.heap = _) N66 Z66 K66 Fa68 Fa69 Fa70 Fa71 Fa72 Fa73 Fa74 Fa75 Fa76 Fa67 hR148 hM148 One.u
  ·
    refine go (u' := T66.setTop (mkF m 112 #[.val (.int p0), .val (.int p1), .val (.int p2), .val (.int p3), .val (.int p4), .val (.int p5), .val (.int (p0 &&& (3 : Int32))), .val (.int (p1 &&& (3 : Int32))), .val (.int (p3 &&& (3 : Int32))), .val (.int (p4 &&& (3 : Int32))), .val (.int (p5 &&& (3 : Int32))), .val (.int (p2 &&& (3 : Int32))), .val (.ref b1), .val (.ref b7), .val (.ref b19), .val (.ref b23), .val (.int (1 : Int32)), .unset] [])) (fun _ ks_ => XS.icmpNo X66.here hx rfl (hb hby at_109) rfl (flt c109_7).1 ks_) ?_
    refine go (u' := T66.setTop (mkF m 114 #[.val (.int p0), .val (.int p1), .val (.int p2), .val (.int p3), .val (.int p4), .val (.int p5), .val (.int (p0 &&& (3 : Int32))), .val (.int (p1 &&& (3 : Int32))), .val (.int (p3 &&& (3 : Int32))), .val (.int (p4 &&& (3 : Int32))), .val (.int (p5 &&& (3 : Int32))), .val (.int (p2 &&& (3 : Int32))), .val (.ref b1), .val (.ref b7), .val (.ref b19), .val (.ref b23), .val (.int (1 : Int32)), .unset] [(.ref b19)])) (fun _ ks_ => XS.aload X66.here hx rfl (hb hby at_112) rfl rfl ks_) ?_
    refine go (u' := T66.setTop (mkF m 115 #[.val (.int p0), .val (.int p1), .val (.int p2), .val (.int p3), .val (.int p4), .val (.int p5), .val (.int (p0 &&& (3 : Int32))), .val (.int (p1 &&& (3 : Int32))), .val (.int (p3 &&& (3 : Int32))), .val (.int (p4 &&& (3 : Int32))), .val (.int (p5 &&& (3 : Int32))), .val (.int (p2 &&& (3 : Int32))), .val (.ref b1), .val (.ref b7), .val (.ref b19), .val (.ref b23), .val (.int (1 : Int32)), .unset] [(.int (4 : Int32)), (.ref b19)])) (fun _ ks_ => XS.iconst X66.here hx rfl (hb hby at_114) ks_) ?_
    refine go (u' := T66.setTop (mkF m 116 #[.val (.int p0), .val (.int p1), .val (.int p2), .val (.int p3), .val (.int p4), .val (.int p5), .val (.int (p0 &&& (3 : Int32))), .val (.int (p1 &&& (3 : Int32))), .val (.int (p3 &&& (3 : Int32))), .val (.int (p4 &&& (3 : Int32))), .val (.int (p5 &&& (3 : Int32))), .val (.int (p2 &&& (3 : Int32))), .val (.ref b1), .val (.ref b7), .val (.ref b19), .val (.ref b23), .val (.int (1 : Int32)), .unset] [(.int (g166 (4 : Int32).toNatClampNeg))])) (own_iaload X66 hx hZ (rfl : T66.heap = _) Fa67 (j := (4 : Int32)) (v := (g166 (4 : Int32).toNatClampNeg)) (by decide) (by decide) rfl (f := (mkF m 115 #[.val (.int p0), .val (.int p1), .val (.int p2), .val (.int p3), .val (.int p4), .val (.int p5), .val (.int (p0 &&& (3 : Int32))), .val (.int (p1 &&& (3 : Int32))), .val (.int (p3 &&& (3 : Int32))), .val (.int (p4 &&& (3 : Int32))), .val (.int (p5 &&& (3 : Int32))), .val (.int (p2 &&& (3 : Int32))), .val (.ref b1), .val (.ref b7), .val (.ref b19), .val (.ref b23), .val (.int (1 : Int32)), .unset] [(.int (4 : Int32)), (.ref b19)])) rfl rfl (hb hby at_115)) ?_
    by_cases c116_8 : (0 : Int32) < (g166 (4 : Int32).toNatClampNeg)
    ·
      refine go (u' := T66.setTop (mkF m 119 #[.val (.int p0), .val (.int p1), .val (.int p2), .val (.int p3), .val (.int p4), .val (.int p5), .val (.int (p0 &&& (3 : Int32))), .val (.int (p1 &&& (3 : Int32))), .val (.int (p3 &&& (3 : Int32))), .val (.int (p4 &&& (3 : Int32))), .val (.int (p5 &&& (3 : Int32))), .val (.int (p2 &&& (3 : Int32))), .val (.ref b1), .val (.ref b7), .val (.ref b19), .val (.ref b23), .val (.int (1 : Int32)), .unset] [])) (fun _ ks_ => XS.ifNo X66.here hx rfl (hb hby at_116) rfl ((if0 _ _).trans (tlt c116_8).2.2.2) ks_) ?_
      refine go (u' := T66.setTop (mkF m 121 #[.val (.int p0), .val (.int p1), .val (.int p2), .val (.int p3), .val (.int p4), .val (.int p5), .val (.int (p0 &&& (3 : Int32))), .val (.int (p1 &&& (3 : Int32))), .val (.int (p3 &&& (3 : Int32))), .val (.int (p4 &&& (3 : Int32))), .val (.int (p5 &&& (3 : Int32))), .val (.int (p2 &&& (3 : Int32))), .val (.ref b1), .val (.ref b7), .val (.ref b19), .val (.ref b23), .val (.int (1 : Int32)), .unset] [(.ref b23)])) (fun _ ks_ => XS.aload X66.here hx rfl (hb hby at_119) rfl rfl ks_) ?_
      obtain ⟨y116, ys116, rfl⟩ := hM148.cons c116_8
      obtain ⟨cq244, kq244, q244a, q244b, q244c⟩ := isOf hZ (rfl : T66.heap = _) Fa70
      obtain ⟨_, _, ⟨T244, L244, k244, n244⟩, -, X244, ⟨Lc244, hQ244, l244, y244, z244⟩, st244⟩ := X66.virtualBack hx (y := (⟨"com/example/lootpath/lootpath/solve/CityQueue", "take", "()I"⟩ : MethodName)) (z := (⟨"com/example/lootpath/lootpath/solve/CityQueue", "take", "()I"⟩ : MethodName)) hown (mvT hZ (ww hw 28 rfl)) (mvT hZ (ww hw 29 rfl)) (notFace_of_selects (args := #[]) (mvT hZ (ww hw 31 rfl))) (mvT hZ (ww hw 31 rfl)) (mvT hZ (ww hw 30 rfl)) (by decide) (backOf (W := 0) (rm5 l Z a0 hw [] b23 ca31 wa31 (0 : Int32) sz143 (4 : Int32).toNatClampNeg f143 g143 y116 ys116 T66.heap n0 Z66 g_b23 g_ca31 g_wa31 ne_b23_ca31 ne_b23_wa31 nca_31 Fa70 Fa71 Fa72 Fa73 Fa74 Fa75 Fa76 hR148) hZ (ww hw 32 rfl) (ww hw 3 rfl) (by decide) (by decide)) q244a q244c (g := (mkF m 121 #[.val (.int p0), .val (.int p1), .val (.int p2), .val (.int p3), .val (.int p4), .val (.int p5), .val (.int (p0 &&& (3 : Int32))), .val (.int (p1 &&& (3 : Int32))), .val (.int (p3 &&& (3 : Int32))), .val (.int (p4 &&& (3 : Int32))), .val (.int (p5 &&& (3 : Int32))), .val (.int (p2 &&& (3 : Int32))), .val (.ref b1), .val (.ref b7), .val (.ref b19), .val (.ref b23), .val (.int (1 : Int32)), .unset] [(.ref b23)])) rfl (by rw [hml]; rfl) (Steps.refl _) (argsL := []) (rest := []) (lenOf pd__40__41_I rfl) rfl (by show 2 * 0 + _ ≤ _; exact Nat.le_of_eq rfl) (hb hby at_121) (fun _ _ => ⟨rfl, (rfl : T66.heap = _), (by decide : 6 + 0 ≤ _), (by decide : 22 + 0 ≤ _)⟩)
      dsimp only [Pt.U, Pt.locs, Pt.cells, Pt.slots] at X244 l244 y244 z244 st244 hQ244
      subst l244 y244 z244
      obtain ⟨g1244, hd1244, sz1244, rfl, N244q, Kq244, Fa245, Fa246, Fa247, Fa248, Fa249, Fa250, Fa251, hR1_244⟩ := hQ244
      have N244 := Fr.app N66 N244q
      have K244 : Keep h0 T244.heap [] := K66.trans Kq244 (allS (P := fun x => x ∈ [] ∨ h0.size ≤ x) (Or.inr sz_b23) (allS (P := fun x => x ∈ [] ∨ h0.size ≤ x) (Or.inr sz_ca31) (allS (P := fun x => x ∈ [] ∨ h0.size ≤ x) (Or.inr sz_wa31) all0)))
      have Z244 : n0 ≤ T244.heap.size := Nat.le_trans Z66 Kq244.1
      have Fa252 : PI Z T244.heap b1 .int 2 (own_l [(p0 &&& (3 : Int32)), (p1 &&& (3 : Int32))]) := Fa68.keep Kq244 (ninS ne_b1_b23 (ninS ne_b1_ca31 (ninS ne_b1_wa31 nin0)))
      have Fa253 : PI Z T244.heap b7 .int 3 (own_l [(p3 &&& (3 : Int32)), (p4 &&& (3 : Int32)), (p5 &&& (3 : Int32))]) := Fa69.keep Kq244 (ninS ne_b7_b23 (ninS ne_b7_ca31 (ninS ne_b7_wa31 nin0)))
      have Fa254 : Exa Z T244.heap b23 "com/example/lootpath/lootpath/solve/CityQueue" := Fa70.keep Kq244
      have Fa255 : PI Z T244.heap b19 .int 5 g166 := Fa67.keep Kq244 (ninS ne_b19_b23 (ninS ne_b19_ca31 (ninS ne_b19_wa31 nin0)))
      refine goT (u' := T244.setTop (mkF m 124 #[.val (.int p0), .val (.int p1), .val (.int p2), .val (.int p3), .val (.int p4), .val (.int p5), .val (.int (p0 &&& (3 : Int32))), .val (.int (p1 &&& (3 : Int32))), .val (.int (p3 &&& (3 : Int32))), .val (.int (p4 &&& (3 : Int32))), .val (.int (p5 &&& (3 : Int32))), .val (.int (p2 &&& (3 : Int32))), .val (.ref b1), .val (.ref b7), .val (.ref b19), .val (.ref b23), .val (.int (1 : Int32)), .unset] [(.int y116)])) st244 ?_
      refine go (u' := T244.setTop (mkF m 126 #[.val (.int p0), .val (.int p1), .val (.int p2), .val (.int p3), .val (.int p4), .val (.int p5), .val (.int (p0 &&& (3 : Int32))), .val (.int (p1 &&& (3 : Int32))), .val (.int (p3 &&& (3 : Int32))), .val (.int (p4 &&& (3 : Int32))), .val (.int (p5 &&& (3 : Int32))), .val (.int (p2 &&& (3 : Int32))), .val (.ref b1), .val (.ref b7), .val (.ref b19), .val (.ref b23), .val (.int (1 : Int32)), .val (.int y116)] [])) (fun _ ks_ => XS.istore X244.here hx rfl (hb hby at_124) rfl  (l' := #[.val (.int p0), .val (.int p1), .val (.int p2), .val (.int p3), .val (.int p4), .val (.int p5), .val (.int (p0 &&& (3 : Int32))), .val (.int (p1 &&& (3 : Int32))), .val (.int (p3 &&& (3 : Int32))), .val (.int (p4 &&& (3 : Int32))), .val (.int (p5 &&& (3 : Int32))), .val (.int (p2 &&& (3 : Int32))), .val (.ref b1), .val (.ref b7), .val (.ref b19), .val (.ref b23), .val (.int (1 : Int32)), .val (.int y116)]) rfl ks_) ?_
      refine go (u' := T244.setTop (mkF m 128 #[.val (.int p0), .val (.int p1), .val (.int p2), .val (.int p3), .val (.int p4), .val (.int p5), .val (.int (p0 &&& (3 : Int32))), .val (.int (p1 &&& (3 : Int32))), .val (.int (p3 &&& (3 : Int32))), .val (.int (p4 &&& (3 : Int32))), .val (.int (p5 &&& (3 : Int32))), .val (.int (p2 &&& (3 : Int32))), .val (.ref b1), .val (.ref b7), .val (.ref b19), .val (.ref b23), .val (.int (1 : Int32)), .val (.int y116)] [(.int (1 : Int32))])) (fun _ ks_ => XS.iload X244.here hx rfl (hb hby at_126) rfl  ks_) ?_
      refine go (u' := T244.setTop (mkF m 131 #[.val (.int p0), .val (.int p1), .val (.int p2), .val (.int p3), .val (.int p4), .val (.int p5), .val (.int (p0 &&& (3 : Int32))), .val (.int (p1 &&& (3 : Int32))), .val (.int (p3 &&& (3 : Int32))), .val (.int (p4 &&& (3 : Int32))), .val (.int (p5 &&& (3 : Int32))), .val (.int (p2 &&& (3 : Int32))), .val (.ref b1), .val (.ref b7), .val (.ref b19), .val (.ref b23), .val (.int (1 : Int32)), .val (.int y116)] [])) (fun _ ks_ => XS.ifNo X244.here hx rfl (hb hby at_128) rfl ((if0 _ _).trans (feq (show ¬ ((1 : Int32) = (0 : Int32)) from (by decide))).1) ks_) ?_
      refine go (u' := T244.setTop (mkF m 133 #[.val (.int p0), .val (.int p1), .val (.int p2), .val (.int p3), .val (.int p4), .val (.int p5), .val (.int (p0 &&& (3 : Int32))), .val (.int (p1 &&& (3 : Int32))), .val (.int (p3 &&& (3 : Int32))), .val (.int (p4 &&& (3 : Int32))), .val (.int (p5 &&& (3 : Int32))), .val (.int (p2 &&& (3 : Int32))), .val (.ref b1), .val (.ref b7), .val (.ref b19), .val (.ref b23), .val (.int (1 : Int32)), .val (.int y116)] [(.int y116)])) (fun _ ks_ => XS.iload X244.here hx rfl (hb hby at_131) rfl  ks_) ?_
      refine go (u' := T244.setTop (mkF m 135 #[.val (.int p0), .val (.int p1), .val (.int p2), .val (.int p3), .val (.int p4), .val (.int p5), .val (.int (p0 &&& (3 : Int32))), .val (.int (p1 &&& (3 : Int32))), .val (.int (p3 &&& (3 : Int32))), .val (.int (p4 &&& (3 : Int32))), .val (.int (p5 &&& (3 : Int32))), .val (.int (p2 &&& (3 : Int32))), .val (.ref b1), .val (.ref b7), .val (.ref b19), .val (.ref b23), .val (.int (1 : Int32)), .val (.int y116)] [(.ref b19), (.int y116)])) (fun _ ks_ => XS.aload X244.here hx rfl (hb hby at_133) rfl rfl ks_) ?_
      obtain ⟨_, _, ⟨T256, L256, k256, n256⟩, -, X256, ⟨Lc256, hQ256, l256, y256, z256⟩, st256⟩ := Jvm.LawKit.callS X244 hx (y := (⟨"com/example/lootpath/lootpath/solve/CityQueueAddPinLaw", "pop", "([I)I"⟩ : MethodName)) hown (mvT hZ (ww hw 33 rfl)) (mvT hZ (ww hw 34 rfl)) (mvT hZ (ww hw 26 rfl)) (mvT hZ (ww hw 35 rfl)) (by decide) (backOf (W := 1) (rm6 l Z a0 hw [] b19 g166 y116 ys116 T244.heap n0 Z244 g_b19 Fa255 hM148) hZ (ww hw 35 rfl) (ww hw 26 rfl) (by decide) (by decide)) (g := (mkF m 135 #[.val (.int p0), .val (.int p1), .val (.int p2), .val (.int p3), .val (.int p4), .val (.int p5), .val (.int (p0 &&& (3 : Int32))), .val (.int (p1 &&& (3 : Int32))), .val (.int (p3 &&& (3 : Int32))), .val (.int (p4 &&& (3 : Int32))), .val (.int (p5 &&& (3 : Int32))), .val (.int (p2 &&& (3 : Int32))), .val (.ref b1), .val (.ref b7), .val (.ref b19), .val (.ref b23), .val (.int (1 : Int32)), .val (.int y116)] [(.ref b19), (.int y116)])) rfl (by rw [hml]; rfl) (argsL := [(.ref b19)]) (rest := [(.int y116)]) (lenOf pd__40__91_I_41_I rfl) rfl (by show 2 * 0 + _ ≤ _; exact Nat.le_of_eq rfl) (hb hby at_135) (fun _ _ => ⟨rfl, (rfl : T244.heap = _), (by decide : 6 + 0 ≤ _), (by decide : 22 + 0 ≤ _)⟩)
      dsimp only [Pt.U, Pt.locs, Pt.cells, Pt.slots] at X256 l256 y256 z256 st256 hQ256
      subst l256 y256 z256
      obtain ⟨g1256, rfl, N256q, Kq256, Fa257, hM1_256⟩ := hQ256
      have N256 := Fr.app N244 N256q
      have K256 : Keep h0 T256.heap [] := K244.trans Kq256 (allS (P := fun x => x ∈ [] ∨ h0.size ≤ x) (Or.inr sz_b19) all0)
      have Z256 : n0 ≤ T256.heap.size := Nat.le_trans Z244 Kq256.1
      have Fa258 : PI Z T256.heap b1 .int 2 (own_l [(p0 &&& (3 : Int32)), (p1 &&& (3 : Int32))]) := Fa252.keep Kq256 (ninS ne_b1_b19 nin0)
      have Fa259 : PI Z T256.heap b7 .int 3 (own_l [(p3 &&& (3 : Int32)), (p4 &&& (3 : Int32)), (p5 &&& (3 : Int32))]) := Fa253.keep Kq256 (ninS ne_b7_b19 nin0)
      have Fa260 : Exa Z T256.heap b23 "com/example/lootpath/lootpath/solve/CityQueue" := Fa245.keep Kq256
      have Fa261 : Fld Z T256.heap b23 "com/example/lootpath/lootpath/solve/CityQueue" "cities" "[I" (.ref ca31) := Fa246.keep Kq256 (ninS (Ne.symm ne_b19_b23) nin0)
      have Fa262 : Fld Z T256.heap b23 "com/example/lootpath/lootpath/solve/CityQueue" "waiting" "[Z" (.ref wa31) := Fa247.keep Kq256 (ninS (Ne.symm ne_b19_b23) nin0)
      have Fa263 : Fld Z T256.heap b23 "com/example/lootpath/lootpath/solve/CityQueue" "head" "I" (.int hd1244) := Fa248.keep Kq256 (ninS (Ne.symm ne_b19_b23) nin0)
      have Fa264 : Fld Z T256.heap b23 "com/example/lootpath/lootpath/solve/CityQueue" "size" "I" (.int sz1244) := Fa249.keep Kq256 (ninS (Ne.symm ne_b19_b23) nin0)
      have Fa265 : PI Z T256.heap ca31 .int (4 : Int32).toNatClampNeg f143 := Fa250.keep Kq256 (ninS (Ne.symm ne_b19_ca31) nin0)
      have Fa266 : PI Z T256.heap wa31 .boolean (4 : Int32).toNatClampNeg g1244 := Fa251.keep Kq256 (ninS (Ne.symm ne_b19_wa31) nin0)
      refine go (u' := T256.setTop (mkF m 138 #[.val (.int p0), .val (.int p1), .val (.int p2), .val (.int p3), .val (.int p4), .val (.int p5), .val (.int (p0 &&& (3 : Int32))), .val (.int (p1 &&& (3 : Int32))), .val (.int (p3 &&& (3 : Int32))), .val (.int (p4 &&& (3 : Int32))), .val (.int (p5 &&& (3 : Int32))), .val (.int (p2 &&& (3 : Int32))), .val (.ref b1), .val (.ref b7), .val (.ref b19), .val (.ref b23), .val (.int (1 : Int32)), .val (.int y116)] [(.int y116), (.int y116)])) st256 ?_
      refine go (u' := T256.setTop (mkF m 141 #[.val (.int p0), .val (.int p1), .val (.int p2), .val (.int p3), .val (.int p4), .val (.int p5), .val (.int (p0 &&& (3 : Int32))), .val (.int (p1 &&& (3 : Int32))), .val (.int (p3 &&& (3 : Int32))), .val (.int (p4 &&& (3 : Int32))), .val (.int (p5 &&& (3 : Int32))), .val (.int (p2 &&& (3 : Int32))), .val (.ref b1), .val (.ref b7), .val (.ref b19), .val (.ref b23), .val (.int (1 : Int32)), .val (.int y116)] [])) (fun _ ks_ => XS.icmpNo X256.here hx rfl (hb hby at_138) rfl (teq rfl).2 ks_) ?_
      refine go (u' := T256.setTop (mkF m 142 #[.val (.int p0), .val (.int p1), .val (.int p2), .val (.int p3), .val (.int p4), .val (.int p5), .val (.int (p0 &&& (3 : Int32))), .val (.int (p1 &&& (3 : Int32))), .val (.int (p3 &&& (3 : Int32))), .val (.int (p4 &&& (3 : Int32))), .val (.int (p5 &&& (3 : Int32))), .val (.int (p2 &&& (3 : Int32))), .val (.ref b1), .val (.ref b7), .val (.ref b19), .val (.ref b23), .val (.int (1 : Int32)), .val (.int y116)] [(.int (1 : Int32))])) (fun _ ks_ => XS.iconst X256.here hx rfl (hb hby at_141) ks_) ?_
      refine go (u' := T256.setTop (mkF m 146 #[.val (.int p0), .val (.int p1), .val (.int p2), .val (.int p3), .val (.int p4), .val (.int p5), .val (.int (p0 &&& (3 : Int32))), .val (.int (p1 &&& (3 : Int32))), .val (.int (p3 &&& (3 : Int32))), .val (.int (p4 &&& (3 : Int32))), .val (.int (p5 &&& (3 : Int32))), .val (.int (p2 &&& (3 : Int32))), .val (.ref b1), .val (.ref b7), .val (.ref b19), .val (.ref b23), .val (.int (1 : Int32)), .val (.int y116)] [(.int (1 : Int32))])) (fun _ ks_ => XS.goto X256.here hx rfl (pc0 := 142) (pc' := 146) rfl (hb hby at_142) (by decide) (by decide) ks_) ?_
      refine go (u' := T256.setTop (mkF m 148 #[.val (.int p0), .val (.int p1), .val (.int p2), .val (.int p3), .val (.int p4), .val (.int p5), .val (.int (p0 &&& (3 : Int32))), .val (.int (p1 &&& (3 : Int32))), .val (.int (p3 &&& (3 : Int32))), .val (.int (p4 &&& (3 : Int32))), .val (.int (p5 &&& (3 : Int32))), .val (.int (p2 &&& (3 : Int32))), .val (.ref b1), .val (.ref b7), .val (.ref b19), .val (.ref b23), .val (.int (1 : Int32)), .val (.int y116)] [])) (fun _ ks_ => XS.istore X256.here hx rfl (hb hby at_146) rfl  (l' := #[.val (.int p0), .val (.int p1), .val (.int p2), .val (.int p3), .val (.int p4), .val (.int p5), .val (.int (p0 &&& (3 : Int32))), .val (.int (p1 &&& (3 : Int32))), .val (.int (p3 &&& (3 : Int32))), .val (.int (p4 &&& (3 : Int32))), .val (.int (p5 &&& (3 : Int32))), .val (.int (p2 &&& (3 : Int32))), .val (.ref b1), .val (.ref b7), .val (.ref b19), .val (.ref b23), .val (.int (1 : Int32)), .val (.int y116)]) rfl ks_) ?_
      exact C148_1 f143 g1244 hd1244 sz1244 ys116 g1256 (.val (.int y116)) _ _ _ X256 (rfl : T256.heap = _) N256 Z256 K256 Fa258 Fa259 Fa260 Fa261 Fa262 Fa263 Fa264 Fa265 Fa266 Fa257 hR1_244 hM1_256 (One.val rfl)
    ·
      refine go (u' := T66.setTop (mkF m 148 #[.val (.int p0), .val (.int p1), .val (.int p2), .val (.int p3), .val (.int p4), .val (.int p5), .val (.int (p0 &&& (3 : Int32))), .val (.int (p1 &&& (3 : Int32))), .val (.int (p3 &&& (3 : Int32))), .val (.int (p4 &&& (3 : Int32))), .val (.int (p5 &&& (3 : Int32))), .val (.int (p2 &&& (3 : Int32))), .val (.ref b1), .val (.ref b7), .val (.ref b19), .val (.ref b23), .val (.int (1 : Int32)), .unset] [])) (fun _ ks_ => XS.ifYes X66.here hx rfl (pc0 := 116) (pc' := 148) rfl (hb hby at_116) rfl ((if0 _ _).trans (flt c116_8).2.2.2) (by decide) (by decide) ks_) ?_
      exact C148_1 f143 g143 ((0 : Int32)) sz143 xa148 g166 .unset _ _ _ X66 (rfl : T66.heap = _) N66 Z66 K66 Fa68 Fa69 Fa70 Fa71 Fa72 Fa73 Fa74 Fa75 Fa76 Fa67 hR148 hM148 One.u
set_option maxRecDepth 65536 in
set_option maxHeartbeats 40000000 in
theorem comes_1 {Post : Tables → Env → Array Value → State → Outcome → State → Prop} (hpost : ∀ tb e args s v u, (limb_1_1.after args s (.returned v) u = true ∧ limb_1_2.after args s (.returned v) u = true ∧ True) → FrameEnd s (.returned v) u (Jvm.fieldLocs frame_1_writes args s ++ Jvm.arrayLocs frame_1_arrays args s ++ Jvm.staticLocs frame_1_statics s) 24 128 → Post tb e args s (.returned v) u) :
    ArmFor flags0 classFile x code maxLocals ret World_1 tables_1 room_1 Calls_1 rest_1 Pre_1 Post := by
  intro l hfl _ _ p e ha hc hk s m args below hf hA hF happ hP
  obtain ⟨hcalls, hrest, hpre⟩ := hP
  obtain ⟨-, -, -, hnamed, -, -, -, hat⟩ := (Spec.applies_iff hf).mp happ
  obtain ⟨hg, hn⟩ := and_e (Cond.before_iff.mp (show (Jvm.Cond.and given_1 narrow_1).before args s = true from hpre))
  obtain ⟨hcount, r0⟩ := and_e hg
  obtain ⟨a0, r1⟩ := and_e r0
  obtain ⟨a1, r2⟩ := and_e r1
  obtain ⟨a2, r3⟩ := and_e r2
  obtain ⟨a3, r4⟩ := and_e r3
  obtain ⟨a4, r5⟩ := and_e r4
  obtain ⟨w0, w1, w2, w3, w4, w5, rfl⟩ : ∃ w0 w1 w2 w3 w4 w5 : Value, args = #[w0, w1, w2, w3, w4, w5] := by
    have hs : args.size = 6 := by simpa [Cond.value, given_1] using hcount
    obtain ⟨L⟩ := args
    match L, hs with
    | [w0, w1, w2, w3, w4, w5], _ => exact ⟨w0, w1, w2, w3, w4, w5, rfl⟩
  have hw := fun d (hd : d ∈ tables_1) => atoms_spec (ws := Jvm.Cond.code x code maxLocals ret :: tables_1) hat d (List.mem_cons_of_mem _ hd)
  have hfit : Fit s := fun {y c} hc i hi => by
    obtain ⟨ha, rfl⟩ := Array.getElem?_eq_some_iff.mp hc
    have q := List.all_eq_true.mp ((Array.all_eq_true_iff_forall_mem.mp hF) _ (Array.getElem_mem ha)) i (List.mem_range.mpr hi)
    simpa [Array.getElem?_eq_getElem hi] using q
  obtain ⟨x0, e0⟩ := is_v a0
  obtain rfl : w0 = (.int x0) := Option.some.inj e0
  obtain ⟨x1, e1⟩ := is_v a1
  obtain rfl : w1 = (.int x1) := Option.some.inj e1
  obtain ⟨x2, e2⟩ := is_v a2
  obtain rfl : w2 = (.int x2) := Option.some.inj e2
  obtain ⟨x3, e3⟩ := is_v a3
  obtain rfl : w3 = (.int x3) := Option.some.inj e3
  obtain ⟨x4, e4⟩ := is_v a4
  obtain rfl : w4 = (.int x4) := Option.some.inj e4
  obtain ⟨x5, e5⟩ := is_v r5
  obtain rfl : w5 = (.int x5) := Option.some.inj e5
  obtain ⟨n, o, h1, h2, h3, _, L, rfl, ⟨rfl, N⟩, hq⟩ := rm0 l s _ hw tables_1 x0 x1 x2 x3 x4 x5 s.heap s.heap.size (Nat.le_refl _)  p e ha hc hk s m _ below hf ((Spec.applies_iff_loose hf).mp happ).1 ⟨rfl, State.Warmed39.refl s, rfl⟩ trivial
  refine ⟨n, _, h1, h2, h3, hpost _ _ _ _ _ _ ⟨Cond.after_iff.mpr rfl, Cond.after_iff.mpr (eq_i res_at (Term.int_eval (1)) rfl), trivial⟩ ⟨hq.1, hq.2.1, (hq.2.2.sift fun y hy => Or.inr (N y hy)).mono (by decide) (by decide)⟩⟩
theorem main_1_1 : Claimed_1_1 := comes_1 fun _ _ _ _ _ _ h hF => ⟨h.1, hF⟩
theorem main_1_2 : Claimed_1_2 := comes_1 fun _ _ _ _ _ _ h hF => ⟨h.2.1, hF⟩
end Jvm.Pilot.@@N@@
namespace Jvm.Pilot.@@N@@
open Jvm Jvm.ClassFile Sem Op Lib Jvm.Free Jvm.Stand Jvm.Pilot.@@N@@.Jvm.D
/-! MADE BY PROGRAM (witnessworld.py) out of the Statement's table words and the real class files: 11 classes; the members and pool entries that the words name. The judged class is class 1, her method 3. -/
namespace start1
open Jvm.ClassFile
def u (s : String) : CpInfo := .utf8 (stringToUtf16 s)
/-- a pool by its gaps: so many unusable entries, then the entry; so many at the end -/
def gap : Nat → List CpInfo → List CpInfo
  | 0, r => r
  | n + 1, r => .unusable :: gap n r
def poolList (es : List (Nat × CpInfo)) (last : Nat) : List CpInfo := es.foldr (fun e r => gap e.1 (e.2 :: r)) (gap last [])
def pool (es : List (Nat × CpInfo)) (last : Nat) : Array CpInfo := ⟨poolList es last⟩
def fileOf (pool : Array CpInfo) (this : Nat) (attrs : Array Attribute := #[]) (ms : Array MethodInfo := #[]) (fl : Nat := 33) (sup : Nat := 0) (ifs : Array Nat := #[]) (fds : Array FieldInfo := #[]) : ClassFile where
  minorVersion := 0
  majorVersion := 65
  constantPool := pool
  accessFlags := fl
  thisClass := this
  superClass := sup
  interfaces := ifs
  fields := fds
  methods := ms
  attributes := attrs
def plain (name : String) (sup : Option ClassId) : Class where
  name := name
  kind := .ordinary
  loader := none
  accessFlags := 33
  super := sup
  interfaces := #[]
  cf := none
  fields := #[]
  methods := #[]
  instanceTypes := #[]
  staticTypes := #[]
  resolved := #[]
  callSites := []
  init := .initialized
  statics := none
  mirror := none

def pool0 : Array CpInfo := pool [(5, u "<init>"), (0, u "()V"), (1, .class_ 10), (1, u "java/lang/Object")] 113

def k0c0 : Code := { maxStack := 0, maxLocals := 1, code := object_method_1_code, exceptionTable := #[], attributes := #[] }
def k0m0 : Method := { name := "<init>", desc := "()V", sig := { parameters := [], returnType := none }, accessFlags := 1, code := some k0c0 }
/-- java/lang/Object -/
def k0 : Class := { plain "java/lang/Object" none with
  accessFlags := 33
  interfaces := #[]
  cf := some (fileOf pool0 8 #[] #[{ accessFlags := 1, nameIndex := 5, descriptorIndex := 6, attributes := #[] }] 33 0 #[] #[])
  fields := #[]
  methods := #[k0m0]
  instanceTypes := #[]
  staticTypes := #[]
  resolved := Array.replicate 124 none
  statics := none }

def pool1 : Array CpInfo := pool [(2, .class_ 4), (1, u "java/lang/Object"), (0, u "<init>"), (0, u "()V"), (0, .class_ 8), (0, u "com/example/lootpath/lootpath/solve/CityQueue"), (0, .methodref 7 10), (0, .nameAndType 5 11), (0, u "(I)V"), (0, .methodref 7 13), (0, .nameAndType 14 15), (0, u "add"), (0, u "([I)V"), (0, .methodref 17 18), (0, .class_ 19), (0, .nameAndType 20 21), (0, u "com/example/lootpath/lootpath/solve/CityQueueAddPinLaw"), (0, u "put"), (0, u "([II)V"), (0, .methodref 7 23), (0, .nameAndType 24 25), (0, u "take"), (0, u "()I"), (0, .methodref 17 27), (0, .nameAndType 28 29), (0, u "pop"), (0, u "([I)I"), (0, .methodref 7 31), (0, .nameAndType 32 33), (0, u "isEmpty"), (0, u "()Z"), (3, u "law"), (0, u "(IIIIII)Z")] 4

def k1m0 : Method := { name := "<init>", desc := "()V", sig := { parameters := [], returnType := none }, accessFlags := 1, code := none }
def k1c1 : Code := { maxStack := 4, maxLocals := 4, code := method_2_code, exceptionTable := #[], attributes := #[] }
def k1m1 : Method := { name := "put", desc := "([II)V", sig := { parameters := [(.array .int), .int], returnType := none }, accessFlags := 10, code := some k1c1 }
def k1c2 : Code := { maxStack := 4, maxLocals := 2, code := method_3_code, exceptionTable := #[], attributes := #[] }
def k1m2 : Method := { name := "pop", desc := "([I)I", sig := { parameters := [(.array .int)], returnType := some .int }, accessFlags := 10, code := some k1c2 }
def k1c3 : Code := { maxStack := 4, maxLocals := 18, code := code, exceptionTable := #[], attributes := #[] }
def k1m3 : Method := { name := "law", desc := "(IIIIII)Z", sig := { parameters := [.int, .int, .int, .int, .int, .int], returnType := some .boolean }, accessFlags := 9, code := some k1c3 }
/-- com/example/lootpath/lootpath/solve/CityQueueAddPinLaw -/
def k1 : Class := { plain "com/example/lootpath/lootpath/solve/CityQueueAddPinLaw" (some 0) with
  accessFlags := 49
  interfaces := #[]
  cf := some (fileOf pool1 17 #[] #[{ accessFlags := 1, nameIndex := 5, descriptorIndex := 6, attributes := #[] }, { accessFlags := 10, nameIndex := 20, descriptorIndex := 21, attributes := #[] }, { accessFlags := 10, nameIndex := 28, descriptorIndex := 29, attributes := #[] }, { accessFlags := 9, nameIndex := 37, descriptorIndex := 38, attributes := #[] }] 49 2 #[] #[])
  fields := #[]
  methods := #[k1m0, k1m1, k1m2, k1m3]
  instanceTypes := #[]
  staticTypes := #[]
  resolved := Array.replicate 43 none
  statics := none }

def pool2 : Array CpInfo := pool [(1, .methodref 2 3), (0, .class_ 4), (0, .nameAndType 5 6), (0, u "java/lang/Object"), (0, u "<init>"), (0, u "()V"), (0, .fieldref 8 9), (0, .class_ 10), (0, .nameAndType 11 12), (0, u "com/example/lootpath/lootpath/solve/CityQueue"), (0, u "cities"), (0, u "[I"), (0, .fieldref 8 14), (0, .nameAndType 15 16), (0, u "waiting"), (0, u "[Z"), (0, .fieldref 8 18), (0, .nameAndType 19 20), (0, u "head"), (0, u "I"), (0, .fieldref 8 22), (0, .nameAndType 23 20), (0, u "size"), (2, u "take"), (0, u "()I"), (0, u "(I)V"), (2, u "add"), (0, u "([I)V"), (2, u "isEmpty"), (0, u "()Z")] 3

def k2c0 : Code := { maxStack := 2, maxLocals := 2, code := prog_5_method_1_code, exceptionTable := #[], attributes := #[] }
def k2m0 : Method := { name := "<init>", desc := "(I)V", sig := { parameters := [.int], returnType := none }, accessFlags := 0, code := some k2c0 }
def k2c1 : Code := { maxStack := 3, maxLocals := 6, code := prog_5_method_2_code, exceptionTable := #[], attributes := #[] }
def k2m1 : Method := { name := "add", desc := "([I)V", sig := { parameters := [(.array .int)], returnType := none }, accessFlags := 128, code := some k2c1 }
def k2c2 : Code := { maxStack := 1, maxLocals := 1, code := prog_5_method_3_code, exceptionTable := #[], attributes := #[] }
def k2m2 : Method := { name := "isEmpty", desc := "()Z", sig := { parameters := [], returnType := some .boolean }, accessFlags := 0, code := some k2c2 }
def k2c3 : Code := { maxStack := 3, maxLocals := 2, code := prog_5_method_4_code, exceptionTable := #[], attributes := #[] }
def k2m3 : Method := { name := "take", desc := "()I", sig := { parameters := [], returnType := some .int }, accessFlags := 0, code := some k2c3 }
/-- com/example/lootpath/lootpath/solve/CityQueue -/
def k2 : Class := { plain "com/example/lootpath/lootpath/solve/CityQueue" (some 0) with
  accessFlags := 48
  interfaces := #[]
  cf := some (fileOf pool2 8 #[] #[{ accessFlags := 0, nameIndex := 5, descriptorIndex := 28, attributes := #[] }, { accessFlags := 128, nameIndex := 31, descriptorIndex := 32, attributes := #[] }, { accessFlags := 0, nameIndex := 35, descriptorIndex := 36, attributes := #[] }, { accessFlags := 0, nameIndex := 26, descriptorIndex := 27, attributes := #[] }] 48 2 #[] #[{ accessFlags := 18, nameIndex := 11, descriptorIndex := 12, attributes := #[] }, { accessFlags := 18, nameIndex := 15, descriptorIndex := 16, attributes := #[] }, { accessFlags := 2, nameIndex := 19, descriptorIndex := 20, attributes := #[] }, { accessFlags := 2, nameIndex := 23, descriptorIndex := 20, attributes := #[] }])
  fields := #[{ name := "cities", type := (.array .int), accessFlags := 18, slot := 0, constantValue := 0 }, { name := "waiting", type := (.array .boolean), accessFlags := 18, slot := 1, constantValue := 0 }, { name := "head", type := .int, accessFlags := 2, slot := 2, constantValue := 0 }, { name := "size", type := .int, accessFlags := 2, slot := 3, constantValue := 0 }]
  methods := #[k2m0, k2m1, k2m2, k2m3]
  instanceTypes := #[(.array .int), (.array .boolean), .int, .int]
  staticTypes := #[]
  resolved := Array.replicate 40 none
  statics := none }

def pool3 : Array CpInfo := pool [(1, u "java/lang/Cloneable"), (0, .class_ 1), (0, u "java/lang/Object"), (0, .class_ 3)] 3

/-- java/lang/Cloneable -/
def k3 : Class := { plain "java/lang/Cloneable" (some 0) with
  accessFlags := 1537
  interfaces := #[]
  cf := some (fileOf pool3 2 #[] #[] 1537 4 #[] #[])
  fields := #[]
  methods := #[]
  instanceTypes := #[]
  staticTypes := #[]
  resolved := Array.replicate 8 none
  statics := none }

def pool4 : Array CpInfo := pool [(1, u "java/io/Serializable"), (0, .class_ 1), (0, u "java/lang/Object"), (0, .class_ 3)] 3

/-- java/io/Serializable -/
def k4 : Class := { plain "java/io/Serializable" (some 0) with
  accessFlags := 1537
  interfaces := #[]
  cf := some (fileOf pool4 2 #[] #[] 1537 4 #[] #[])
  fields := #[]
  methods := #[]
  instanceTypes := #[]
  staticTypes := #[]
  resolved := Array.replicate 8 none
  statics := none }

/-- the primitive boolean -/
def k5 : Class := { plain "boolean" none with kind := .primitive 'Z', accessFlags := 0x411 }
/-- [Z -/
def k6 : Class := { plain "[Z" (some 0) with kind := .array 5 .boolean, interfaces := #[3, 4], accessFlags := 1041 }

/-- the primitive byte -/
def k7 : Class := { plain "byte" none with kind := .primitive 'B', accessFlags := 0x411 }
/-- [B -/
def k8 : Class := { plain "[B" (some 0) with kind := .array 7 .byte, interfaces := #[3, 4], accessFlags := 1041 }

/-- the primitive int -/
def k9 : Class := { plain "int" none with kind := .primitive 'I', accessFlags := 0x411 }
/-- [I -/
def k10 : Class := { plain "[I" (some 0) with kind := .array 9 .int, interfaces := #[3, 4], accessFlags := 1041 }

def heap : Heap := #[]
def classes : Array Class := #[k0, k1, k2, k3, k4, k5, k6, k7, k8, k9, k10]
def interned : List (Array UInt16 × Addr) := []
def slotsUsed : Nat := 0
def theMethod : MethodId := ⟨1, 3⟩
def args0 : Array Value := #[.int 1, .int 5, .int 3, .int 2, .int 1, .int 4]
def aboutOver (below : List Frame) : State where
  vm := { classes := classes, interned := interned.toArray }
  heap := heap
  slotsUsed := slotsUsed
  threads := #[{ frames := .invoking theMethod args0 :: below }]
def below0 : List Frame := [.native { method := ⟨0, 0⟩, args := #[] }]
def about1 : State := aboutOver below0
def p0 : Program := .bare "" "" ""
def e0 : Env := launch0.env 0 0 0
theorem w_frames : about1.frames = Frame.invoking theMethod args0 :: below0 := rfl
set_option maxRecDepth 65536 in
theorem w_args : argsFit about1.vm theMethod args0 = true := by decide +kernel
set_option maxRecDepth 65536 in
theorem w_heap : heapFits about1 = true := by decide +kernel
set_option maxRecDepth 65536 in
theorem w_runnable : about1.curStatus? = some .runnable := by decide +kernel
set_option maxRecDepth 65536 in
theorem w_alone : about1.alone = true := by decide +kernel
set_option maxRecDepth 65536 in
theorem w_named : about1.methodNamed? x = some theMethod := by decide +kernel
set_option maxRecDepth 65536 in
theorem w_hears : about1.hears theMethod below0 = true := by decide +kernel
set_option maxRecDepth 65536 in
theorem w_ripe : about1.ripe theMethod args0 below0 = true := by decide +kernel
theorem w_running : about1.status = .running := rfl
set_option maxRecDepth 65536 in
theorem w_room : about1.hasRoom e0.platform room_1 = true :=
  launch0.hasRoom_least _ room_1 (by decide +kernel) (by decide +kernel) (by decide +kernel) (by decide +kernel) (by decide +kernel) (by decide +kernel)
theorem allAtoms_all (ts : List Jvm.Cond) (a : Array Jvm.Value) (st : Jvm.State) : (allAtoms ts).before a st = ts.all (fun c => c.before a st) := by
  induction ts with
  | nil => rfl
  | cons c t ih =>
    show (Jvm.Cond.and c (allAtoms t)).before a st = _
    rw [Jvm.Cond.before_and, ih, List.all_cons]
def words1 : List Jvm.Cond := Jvm.Cond.code x code maxLocals ret :: tables_1
/-- a 'code' word, met by the world's own term for the bytes: nothing is compared byte by byte -/
theorem code_word {y : MethodName} {bytes : ByteArray} {mx : Nat} {rt : Option FieldType} {a : Array Value} {s : State} {m : MethodId} {meth : Method} {c : Code} (h1 : s.methodNamed? y = some m) (h2 : s.vm.method? m = some meth) (h3 : meth.code = some c) (h4 : c.code = bytes)
    (h5 : (c.maxLocals == mx && c.exceptionTable.isEmpty && decide (c.maxStack ≤ mostOperands) && decide (meth.sig.returnType = rt) && !meth.locks && decide (parseMethodDescriptor y.desc = some meth.sig)) = true) : (Jvm.Cond.code y bytes mx rt).before a s = true := by
  simp only [Bool.and_eq_true, beq_iff_eq, Bool.not_eq_true', decide_eq_true_eq] at h5
  obtain ⟨⟨⟨⟨⟨g1, g2⟩, g3⟩, g4⟩, g5⟩, g6⟩ := h5
  simp [Cond.before, Cond.holds, Cond.value, h1, h2, h3, h4, g1, g2, g3, g4, g5, g6]
def isCode : Jvm.Cond → Bool
  | .code _ _ _ _ => true
  | _ => false
theorem all_split {L : List Jvm.Cond} {P : Jvm.Cond → Bool} (h1 : L.all (fun c => isCode c || P c) = true) (h2 : ∀ c ∈ L.filter isCode, P c = true) : L.all P = true := by
  refine List.all_eq_true.mpr fun c hc => ?_
  have h := List.all_eq_true.mp h1 c hc
  rcases Bool.eq_false_or_eq_true (isCode c) with hi | hi
  · exact h2 c (List.mem_filter.mpr ⟨hc, hi⟩)
  · simpa [hi] using h
set_option maxRecDepth 65536 in
theorem w_c0 : (Jvm.Cond.code x code maxLocals ret).before args0 about1 = true := code_word (m := ⟨1, 3⟩) (meth := k1m3) (c := k1c3) (by decide +kernel) rfl rfl rfl (by decide +kernel)
set_option maxRecDepth 65536 in
theorem w_c1 : (Jvm.Cond.code ({ cls := "com/example/lootpath/lootpath/solve/CityQueue", name := "<init>", desc := "(I)V" } : Jvm.MethodName) prog_5_method_1_code (2 : Nat) (Option.none : Option Jvm.ClassFile.FieldType)).before args0 about1 = true := code_word (m := ⟨2, 0⟩) (meth := k2m0) (c := k2c0) (by decide +kernel) rfl rfl rfl (by decide +kernel)
set_option maxRecDepth 65536 in
theorem w_c2 : (Jvm.Cond.code ({ cls := "java/lang/Object", name := "<init>", desc := "()V" } : Jvm.MethodName) object_method_1_code (1 : Nat) (Option.none : Option Jvm.ClassFile.FieldType)).before args0 about1 = true := code_word (m := ⟨0, 0⟩) (meth := k0m0) (c := k0c0) (by decide +kernel) rfl rfl rfl (by decide +kernel)
set_option maxRecDepth 65536 in
theorem w_c3 : (Jvm.Cond.code ({ cls := "com/example/lootpath/lootpath/solve/CityQueue", name := "add", desc := "([I)V" } : Jvm.MethodName) prog_5_method_2_code (6 : Nat) (Option.none : Option Jvm.ClassFile.FieldType)).before args0 about1 = true := code_word (m := ⟨2, 1⟩) (meth := k2m1) (c := k2c1) (by decide +kernel) rfl rfl rfl (by decide +kernel)
set_option maxRecDepth 65536 in
theorem w_c4 : (Jvm.Cond.code ({ cls := "com/example/lootpath/lootpath/solve/CityQueueAddPinLaw", name := "put", desc := "([II)V" } : Jvm.MethodName) method_2_code (4 : Nat) (Option.none : Option Jvm.ClassFile.FieldType)).before args0 about1 = true := code_word (m := ⟨1, 1⟩) (meth := k1m1) (c := k1c1) (by decide +kernel) rfl rfl rfl (by decide +kernel)
set_option maxRecDepth 65536 in
theorem w_c5 : (Jvm.Cond.code ({ cls := "com/example/lootpath/lootpath/solve/CityQueue", name := "take", desc := "()I" } : Jvm.MethodName) prog_5_method_4_code (2 : Nat) (Option.some Jvm.ClassFile.FieldType.int)).before args0 about1 = true := code_word (m := ⟨2, 3⟩) (meth := k2m3) (c := k2c3) (by decide +kernel) rfl rfl rfl (by decide +kernel)
set_option maxRecDepth 65536 in
theorem w_c6 : (Jvm.Cond.code ({ cls := "com/example/lootpath/lootpath/solve/CityQueueAddPinLaw", name := "pop", desc := "([I)I" } : Jvm.MethodName) method_3_code (2 : Nat) (Option.some Jvm.ClassFile.FieldType.int)).before args0 about1 = true := code_word (m := ⟨1, 2⟩) (meth := k1m2) (c := k1c2) (by decide +kernel) rfl rfl rfl (by decide +kernel)
set_option maxRecDepth 65536 in
theorem w_c7 : (Jvm.Cond.code ({ cls := "com/example/lootpath/lootpath/solve/CityQueue", name := "isEmpty", desc := "()Z" } : Jvm.MethodName) prog_5_method_3_code (1 : Nat) (Option.some Jvm.ClassFile.FieldType.boolean)).before args0 about1 = true := code_word (m := ⟨2, 2⟩) (meth := k2m2) (c := k2c2) (by decide +kernel) rfl rfl rfl (by decide +kernel)
def codes1 : List Jvm.Cond := [Jvm.Cond.code x code maxLocals ret, Jvm.Cond.code ({ cls := "com/example/lootpath/lootpath/solve/CityQueue", name := "<init>", desc := "(I)V" } : Jvm.MethodName) prog_5_method_1_code (2 : Nat) (Option.none : Option Jvm.ClassFile.FieldType), Jvm.Cond.code ({ cls := "java/lang/Object", name := "<init>", desc := "()V" } : Jvm.MethodName) object_method_1_code (1 : Nat) (Option.none : Option Jvm.ClassFile.FieldType), Jvm.Cond.code ({ cls := "com/example/lootpath/lootpath/solve/CityQueue", name := "add", desc := "([I)V" } : Jvm.MethodName) prog_5_method_2_code (6 : Nat) (Option.none : Option Jvm.ClassFile.FieldType), Jvm.Cond.code ({ cls := "com/example/lootpath/lootpath/solve/CityQueueAddPinLaw", name := "put", desc := "([II)V" } : Jvm.MethodName) method_2_code (4 : Nat) (Option.none : Option Jvm.ClassFile.FieldType), Jvm.Cond.code ({ cls := "com/example/lootpath/lootpath/solve/CityQueue", name := "take", desc := "()I" } : Jvm.MethodName) prog_5_method_4_code (2 : Nat) (Option.some Jvm.ClassFile.FieldType.int), Jvm.Cond.code ({ cls := "com/example/lootpath/lootpath/solve/CityQueueAddPinLaw", name := "pop", desc := "([I)I" } : Jvm.MethodName) method_3_code (2 : Nat) (Option.some Jvm.ClassFile.FieldType.int), Jvm.Cond.code ({ cls := "com/example/lootpath/lootpath/solve/CityQueue", name := "isEmpty", desc := "()Z" } : Jvm.MethodName) prog_5_method_3_code (1 : Nat) (Option.some Jvm.ClassFile.FieldType.boolean)]
set_option maxRecDepth 65536 in
theorem codes_eq : words1.filter isCode = codes1 := rfl
theorem w_codes : ∀ c ∈ words1.filter isCode, c.before args0 about1 = true := by
  rw [codes_eq]
  intro c hc
  simp only [codes1, List.mem_cons, List.not_mem_nil, or_false] at hc
  rcases hc with rfl | rfl | rfl | rfl | rfl | rfl | rfl | rfl
  · exact w_c0
  · exact w_c1
  · exact w_c2
  · exact w_c3
  · exact w_c4
  · exact w_c5
  · exact w_c6
  · exact w_c7
set_option maxRecDepth 65536 in
theorem w_t1 : (words1.take 24).all (fun c => isCode c || c.before args0 about1) = true := by decide +kernel
set_option maxRecDepth 65536 in
theorem w_t2 : (words1.drop 24).all (fun c => isCode c || c.before args0 about1) = true := by decide +kernel
theorem w_tables : (allAtoms (Jvm.Cond.code x code maxLocals ret :: tables_1)).before args0 about1 = true := by
  rw [allAtoms_all]
  show words1.all (fun c => c.before args0 about1) = true
  refine all_split ?_ w_codes
  rw [← List.take_append_drop 24 words1, List.all_append, w_t1, w_t2]
  rfl
set_option maxRecDepth 65536 in
theorem w_case : (Jvm.Cond.and given_1 narrow_1).before args0 about1 = true := by decide +kernel
theorem w_applies : (headSpec (Jvm.Cond.code x code maxLocals ret :: tables_1) room_1).applies x e0.platform about1 = true :=
  (Spec.applies_iff w_frames).mpr ⟨w_running, w_runnable, w_alone, w_named, w_hears, w_ripe, w_room, w_tables⟩
theorem atStart : AtStart classFile x code maxLocals ret World_1 tables_1 room_1 Calls_1 rest_1 Pre_1 launch0 p0 e0 about1 theMethod args0 below0 :=
  ⟨lists_1, trivial, launch0.admits_env _ _ _, launch0.least_env, fairChoices_fair.cas, fairChoices_fair.clock, w_frames, w_args, w_heap, w_applies, trivial, trivial, w_case⟩
end start1
theorem witness_1 : WitnessClaimed_1 := ⟨start1.p0, start1.e0, start1.about1, start1.theMethod, start1.args0, start1.below0, start1.atStart⟩
end Jvm.Pilot.@@N@@
