import JvmDerived
import JvmDerived.Pilot.@@N@@Statement
import JvmDerived.Pilot.@@N@@Code
set_option linter.unusedVariables false
set_option linter.unusedSimpArgs false
namespace Jvm.Pilot.@@N@@
open Jvm Jvm.ClassFile Sem Op Lib Jvm.Free Jvm.Stand Jvm.LawKit Jvm.RoadKit Bundle Jvm.Pilot.@@N@@.Jvm.D
section OwnKit
variable {p : Program} {l : Launch} {e : Env} {R : Room} {s : State} {m : MethodId} {args : Array Value} {below : List Frame} {meth : Method} {c : Code} {T : State} {locs : List Loc} {cells slots : Nat}
/-- from the state u the run comes to an end of the invocation at which G holds -/
def Go (tb : Tables) (e : Env) (below : List Frame) (G : Outcome → State → Prop) (u : State) : Prop := ∃ s₂ o, Steps tb e below u s₂ ∧ s₂.status = .running ∧ Ended s₂ below o ∧ G o s₂
def End (Q : Option Value → Heap → List Loc → Prop) (s : State) (C S : Nat) (o : Outcome) (u : State) : Prop := ∃ v L, o = .returned v ∧ Q v u.heap L ∧ FrameEnd s o u L C S
theorem go {tb : Tables} {G : Outcome → State → Prop} {u u' : State} (st : ∀ t, Steps tb e below u' t → Steps tb e below u t) (k : Go tb e below G u') : Go tb e below G u := by
  obtain ⟨s₂, o, h1, h2⟩ := k
  exact ⟨s₂, o, st _ h1, h2⟩
theorem goT {tb : Tables} {G : Outcome → State → Prop} {u u' : State} (st : Steps tb e below u u') (k : Go tb e below G u') : Go tb e below G u := go (fun _ h => st.trans h) k
theorem own_fin (X : Stand p l e R s m args below meth c T locs cells slots) (hlk : meth.locks = false) {v : Option Value} (hv : meth.sig.returnType = none → v = none) {Q : Option Value → Heap → List Loc → Prop} {C S : Nat} (hq : Q v T.heap locs) (hc : cells ≤ C) (hs : slots ≤ S) {u : State}
    (st : ∀ fs, (∀ (f : JFrame) (acts : List Action), f.method = m → f.locked = none → f.entered = [] → (doReturn e (T.setTop f) acts v).1 = T.setFrames fs) → Steps p.tables e below u (T.setFrames fs)) : Go p.tables e below (End Q s C S) u := by
  obtain ⟨fs, hr, hrun, hended, hW, hsame⟩ := X.leave (v := v) hv hlk
  exact ⟨_, _, st fs hr, hrun, hended, _, _, rfl, hq, ⟨_, rfl⟩, hW, hsame.mono hc hs⟩
theorem own_retI (X : Stand p l e R s m args below meth c T locs cells slots) (hx : p.tables.exec = Jvm.exec) {pc : Nat} {Ls : Array Slot} {z : Int32} {rest : List Value} (hret : meth.sig.returnType = some .int) (hd : decode c.code pc = .ok (.ireturn, 1)) {fs : List Frame}
    (hl : ∀ (f : JFrame) (acts : List Action), f.method = m → f.locked = none → f.entered = [] → (doReturn e (T.setTop f) acts (some (.int z))).1 = T.setFrames fs) : Steps p.tables e below (T.setTop (mkF m pc Ls (.int z :: rest))) (T.setFrames fs) := by
  have hm' : T.vm.method? m = some meth := X.method'
  have hn : narrow .int (.int z) = .int z := rfl
  show Steps p.tables e below (T.setTop { method := m, pc := pc, locals := Ls, stack := _ :: rest, locked := none }) _
  jvm_step X.here [X.here.top, hx, hd, hm', hret, hn]
  first | (intro acts; rw [hl _ acts rfl rfl rfl]) | rw [hl _ _ rfl rfl rfl]
  exact Steps.refl _
theorem own_retA (X : Stand p l e R s m args below meth c T locs cells slots) (hx : p.tables.exec = Jvm.exec) {pc : Nat} {Ls : Array Slot} {z : Value} {t : FieldType} {rest : List Value} (hret : meth.sig.returnType = some t) (ht : t.isReference = true) (hz : z.isRef = true) (hd : decode c.code pc = .ok (.areturn, 1)) {fs : List Frame}
    (hl : ∀ (f : JFrame) (acts : List Action), f.method = m → f.locked = none → f.entered = [] → (doReturn e (T.setTop f) acts (some z)).1 = T.setFrames fs) : Steps p.tables e below (T.setTop (mkF m pc Ls (z :: rest))) (T.setFrames fs) := by
  have hm' : T.vm.method? m = some meth := X.method'
  show Steps p.tables e below (T.setTop { method := m, pc := pc, locals := Ls, stack := _ :: rest, locked := none }) _
  jvm_step X.here [X.here.top, hx, hd, hm', hret, ht, hz]
  first | (intro acts; rw [hl _ acts rfl rfl rfl]) | rw [hl _ _ rfl rfl rfl]
  exact Steps.refl _
theorem gI (X : Stand p l e R s m args below meth c T locs cells slots) (hx : p.tables.exec = Jvm.exec) (hlk : meth.locks = false) {pc : Nat} {Ls : Array Slot} {z : Int32} {rest : List Value} (hret : meth.sig.returnType = some .int) (hd : decode c.code pc = .ok (.ireturn, 1)) {Q : Option Value → Heap → List Loc → Prop} {C S : Nat} (hq : Q (some (.int z)) T.heap locs) (hc : cells ≤ C) (hs : slots ≤ S) :
    Go p.tables e below (End Q s C S) (T.setTop (mkF m pc Ls (.int z :: rest))) := own_fin X hlk (fun h => by rw [hret] at h; cases h) hq hc hs fun fs hr => own_retI X hx hret hd hr
theorem gN (X : Stand p l e R s m args below meth c T locs cells slots) (hx : p.tables.exec = Jvm.exec) (hlk : meth.locks = false) {pc : Nat} {Ls : Array Slot} {z : Int32} {t : FieldType} {rest : List Value} (hret : meth.sig.returnType = some t) (ht : t = .boolean ∨ t = .byte ∨ t = .char ∨ t = .short) (hn : nar t z = z) (hd : decode c.code pc = .ok (.ireturn, 1)) {Q : Option Value → Heap → List Loc → Prop} {C S : Nat} (hq : Q (some (.int z)) T.heap locs) (hc : cells ≤ C) (hs : slots ≤ S) :
    Go p.tables e below (End Q s C S) (T.setTop (mkF m pc Ls (.int z :: rest))) := own_fin X hlk (fun h => by rw [hret] at h; cases h) hq hc hs fun fs hr => retN X hx hret ht hd (by rw [hn]; exact hr)
theorem gJ (X : Stand p l e R s m args below meth c T locs cells slots) (hx : p.tables.exec = Jvm.exec) (hlk : meth.locks = false) {pc : Nat} {Ls : Array Slot} {z : Int64} (hret : meth.sig.returnType = some .long) (hd : decode c.code pc = .ok (.lreturn, 1)) {Q : Option Value → Heap → List Loc → Prop} {C S : Nat} (hq : Q (some (.long z)) T.heap locs) (hc : cells ≤ C) (hs : slots ≤ S) :
    Go p.tables e below (End Q s C S) (T.setTop (mkF m pc Ls [.long z])) := own_fin X hlk (fun h => by rw [hret] at h; cases h) hq hc hs fun fs hr => X.lreturnOut hx hret hd hr
theorem g0 (X : Stand p l e R s m args below meth c T locs cells slots) (hx : p.tables.exec = Jvm.exec) (hlk : meth.locks = false) {pc : Nat} {Ls : Array Slot} (hret : meth.sig.returnType = none) (hd : decode c.code pc = .ok (.return_, 1)) {Q : Option Value → Heap → List Loc → Prop} {C S : Nat} (hq : Q none T.heap locs) (hc : cells ≤ C) (hs : slots ≤ S) :
    Go p.tables e below (End Q s C S) (T.setTop (mkF m pc Ls [])) := own_fin X hlk (fun _ => rfl) hq hc hs fun fs hr => X.returnOut hx hret hd hr
theorem gA (X : Stand p l e R s m args below meth c T locs cells slots) (hx : p.tables.exec = Jvm.exec) (hlk : meth.locks = false) {pc : Nat} {Ls : Array Slot} {z : Value} {t : FieldType} {rest : List Value} (hret : meth.sig.returnType = some t) (ht : t.isReference = true) (hz : z.isRef = true) (hd : decode c.code pc = .ok (.areturn, 1)) {Q : Option Value → Heap → List Loc → Prop} {C S : Nat} (hq : Q (some z) T.heap locs) (hc : cells ≤ C) (hs : slots ≤ S) :
    Go p.tables e below (End Q s C S) (T.setTop (mkF m pc Ls (z :: rest))) := own_fin X hlk (fun h => by rw [hret] at h; cases h) hq hc hs fun fs hr => own_retA X hx hret ht hz hd hr
end OwnKit
/-- a body's contract out of its walk -/
theorem body {l : Launch} {y : MethodName} {bytes : ByteArray} {maxL : Nat} {ret : Option FieldType} {ws : List Jvm.Cond} {rm : Room} {as' : Array Value} {Z : State} {h0 : Heap} {Q : Option Value → Heap → List Loc → Prop} (pn : plainFor y = true)
    (k : ∀ (p : Program) (e : Env) (s : State) (m : MethodId) (below : List Frame) (meth : Method) (c : Code) (s₁ : State), p.tables.exec = Jvm.exec → c.code = bytes → c.maxLocals = maxL → s.vm.findClass y.cls = some m.cls → meth.name = y.name → meth.sig.returnType = ret → meth.locks = false → Z.Warmed39 s.vm → s₁.heap = h0 →
      Stand p l e rm s m as' below meth c s₁ [] 0 0 → Go p.tables e below (End Q s rm.cells rm.slots) (s₁.setTop (entryFrame m as' maxL))) :
    MetFree l y (head1 (Jvm.Cond.code y bytes maxL ret :: ws) rm) (fun a U => a = as' ∧ Z.Warmed39 U.vm ∧ U.heap = h0) (fun _ _ _ _ _ => True) (fun _ U o U' => ∃ v L, o = .returned v ∧ Q v U'.heap L ∧ FrameEnd U o U' L rm.cells rm.slots) := by
  refine MetFree.of_bodySF pn hisR ?_
  intro p e s m args below meth c s₁ Bd hml hP _
  obtain ⟨rfl, hZ, hh⟩ := hP
  obtain ⟨s₂, o, h1, h2, h3, h4⟩ := k p e s m below meth c s₁ Bd.exec Bd.bytes hml (findClass_of_methodNamed Bd.named) (name_of_methodNamed Bd.named Bd.method).1 Bd.returns Bd.notSynchronized hZ (by rw [← hh, Bd.state]; rfl) (Stand.of_body Bd)
  exact ⟨s₂, o, h1, h2, h3, h4⟩
/-- a boolean as an int -/
def B (P : Prop) [Decidable P] : Int32 := if P then 1 else 0
theorem Bt {P : Prop} [Decidable P] (h : P) : B P = 1 := if_pos h
theorem Bf {P : Prop} [Decidable P] (h : ¬ P) : B P = 0 := if_neg h
theorem B1 {P : Prop} [Decidable P] (h : P) : (1 : Int32) = B P := (if_pos h).symm
theorem B0 {P : Prop} [Decidable P] (h : ¬ P) : (0 : Int32) = B P := (if_neg h).symm
theorem B_iff {P Q : Prop} [Decidable P] [Decidable Q] (h : P ↔ Q) : B P = B Q := by simp only [B, h]
theorem B_nar {P : Prop} [Decidable P] : nar .boolean (B P) = B P := by by_cases h : P <;> simp only [B, h, if_true, if_false] <;> rfl
theorem bT {P : Prop} [Decidable P] (h : P) : ifCond.holds .ne (B P) = true ∧ ifCond.holds .eq (B P) = false := by rw [Bt h]; exact ⟨rfl, rfl⟩
theorem bF {P : Prop} [Decidable P] (h : ¬ P) : ifCond.holds .ne (B P) = false ∧ ifCond.holds .eq (B P) = true := by rw [Bf h]; exact ⟨rfl, rfl⟩
theorem lT {x y : Int64} (h : x < y) : ifCond.holds .lt (lcmpW x y) = true ∧ ifCond.holds .ge (lcmpW x y) = false ∧ ifCond.holds .gt (lcmpW y x) = true ∧ ifCond.holds .le (lcmpW y x) = false := by
  have h1 := tlt ((lw_lt x y).mpr h)
  have h2 := tlt ((lw_gt y x).mpr h)
  simp only [if0]; exact ⟨h1.1, h1.2.1, h2.2.2.1, h2.2.2.2⟩
theorem lF {x y : Int64} (h : ¬ x < y) : ifCond.holds .lt (lcmpW x y) = false ∧ ifCond.holds .ge (lcmpW x y) = true ∧ ifCond.holds .gt (lcmpW y x) = false ∧ ifCond.holds .le (lcmpW y x) = true := by
  have h1 := flt (fun q => h ((lw_lt x y).mp q))
  have h2 := flt (fun q => h ((lw_gt y x).mp q))
  simp only [if0]; exact ⟨h1.1, h1.2.1, h2.2.2.1, h2.2.2.2⟩
theorem lTe {x y : Int64} (h : x = y) : ifCond.holds .eq (lcmpW x y) = true ∧ ifCond.holds .ne (lcmpW x y) = false := by
  simp only [if0]; exact teq ((lw_eq x y).mpr h)
theorem lFe {x y : Int64} (h : ¬ x = y) : ifCond.holds .eq (lcmpW x y) = false ∧ ifCond.holds .ne (lcmpW x y) = true := by
  simp only [if0]; exact feq (fun q => h ((lw_eq x y).mp q))
theorem bTv {P : Prop} [Decidable P] {v : Int32} (hv : v = B P) (h : P) : ifCond.holds .ne v = true ∧ ifCond.holds .eq v = false := hv ▸ bT h
theorem bFv {P : Prop} [Decidable P] {v : Int32} (hv : v = B P) (h : ¬ P) : ifCond.holds .ne v = false ∧ ifCond.holds .eq v = true := hv ▸ bF h
theorem B_narv {P : Prop} [Decidable P] {v : Int32} (hv : v = B P) : nar .boolean v = v := hv ▸ B_nar
theorem own_fitb {v : Int32} (h : nar .boolean v = v) : fits .boolean (.int v) = true := h ▸ fits_nar_bool v
theorem ww {a0 : Array Value} {Z : State} (hw : ∀ d ∈ tables_1, d.before a0 Z = true) (i : Nat) {d : Jvm.Cond} (h : tables_1[i]? = some d) : d.before a0 Z = true := hw d (List.mem_of_getElem? h)
theorem own_Fto {Z : State} {h : Heap} {a : Addr} {C n d : String} {v w : Value} (F : Fld Z h a C n d v) (q : v = w) : Fld Z h a C n d w := q ▸ F
/-! arrays of ints (of any int-like kind) by a function of the place -/
def upd {α : Type} (f : Nat → α) (i : Nat) (v : α) : Nat → α := fun k => if k = i then v else f k
def own_l (l : List Int32) : Nat → Int32 := fun k => l.getD k 0
theorem own_upd_l (l : List Int32) (i : Nat) (x : Int32) (hi : i < l.length) : upd (own_l l) i x = own_l (l.set i x) := by
  funext k
  simp only [upd, own_l, List.getD_eq_getElem?_getD, List.getElem?_set]
  by_cases h : i = k
  · subst h; simp [hi]
  · simp [h, Ne.symm h]
def PI (Z : State) (h : Heap) (a : Addr) (ty : FieldType) (n : Nat) (g : Nat → Int32) : Prop := ∃ c : Cell, Arr Z h a c ty ∧ c.slots.size = n ∧ n < 2 ^ 31 ∧ ∀ i, i < n → c.slots[i]? = some (.int (g i))
section OwnArr
variable {Z : State} {h h' : Heap} {a b : Addr} {ty : FieldType} {n sl : Nat} {g : Nat → Int32} {v : Value} {ws : List Addr}
theorem PI.lt (F : PI Z h a ty n g) : a < h.size := by obtain ⟨c, A, -⟩ := F; exact A.lt
theorem PI.ext (F : PI Z h a ty n g) (E : Ext h h') : PI Z h' a ty n g := by obtain ⟨c, A, r⟩ := F; exact ⟨c, A.ext E, r⟩
theorem PI.other (F : PI Z h b ty n g) (W : Wr h h' a sl v) (q : b ≠ a) : PI Z h' b ty n g := by obtain ⟨c, A, r⟩ := F; exact ⟨c, A.other W q, r⟩
theorem PI.keep (F : PI Z h a ty n g) (K : Keep h h' ws) (q : a ∉ ws) : PI Z h' a ty n g := by obtain ⟨c, A, r⟩ := F; exact ⟨c, ⟨K.2.1 a c A.1 q, A.2⟩, r⟩
theorem PI.congr {g' : Nat → Int32} (F : PI Z h a ty n g) (q : ∀ i, i < n → g i = g' i) : PI Z h a ty n g' := by
  obtain ⟨c, A, r1, r2, r3⟩ := F
  exact ⟨c, A, r1, r2, fun i hi => by rw [← q i hi]; exact r3 i hi⟩
theorem PI.bound (F : PI Z h a ty n g) : n < 2 ^ 31 := by obtain ⟨c, -, -, q, -⟩ := F; exact q
theorem PI.new {k : ClassId} {z : Int32} (A : Arr Z h a (newA k ty z) ty) (q : ¬ z < 0) (hd : defaultValue ty = .int 0) : PI Z h a ty z.toNatClampNeg (fun _ => 0) :=
  ⟨_, A, sz_new _ _ _, (back32 q).2, fun i hi => by simp [newA, hd, hi]⟩
theorem PI.newL {k : ClassId} {z : Int32} {m : Nat} (A : Arr Z h a (newA k ty z) ty) (q : ¬ z < 0) (hd : defaultValue ty = .int 0) (hz : z.toNatClampNeg = m) : PI Z h a ty m (own_l (List.replicate m 0)) := by
  subst hz
  refine (PI.new A q hd).congr fun i hi => ?_
  simp [own_l, hi]
theorem PI.set {x j : Int32} (F : PI Z h a ty n g) (hn : j.toNatClampNeg < n) (W : Wr h h' a j.toNatClampNeg (.int x)) : PI Z h' a ty n (upd g j.toNatClampNeg x) := by
  obtain ⟨c, A, r1, r2, r3⟩ := F
  refine ⟨_, A.same W, by rw [sz_set]; exact r1, r2, fun i hi => ?_⟩
  by_cases q : i = j.toNatClampNeg
  · subst q; simp [upd, Cell.setSlot, r1, hn]
  · simp only [upd, if_neg q]
    rw [← r3 i hi]
    simp [Cell.setSlot, Array.getElem?_setIfInBounds, Ne.symm q]
theorem PI.setL {l l' : List Int32} {x j : Int32} {i : Nat} (F : PI Z h a ty n (own_l l)) (hn : j.toNatClampNeg < n) (W : Wr h h' a j.toNatClampNeg (.int x)) (hj : j.toNatClampNeg = i) (hi : i < l.length) (hl : l.set i x = l') : PI Z h' a ty n (own_l l') := by
  subst hl hj
  rw [← own_upd_l l _ x hi]
  exact F.set hn W
theorem own_inb {c : Cell} {j : Int32} (hs : c.slots.size = n) (hj : ¬ j < 0) (hn : j.toNatClampNeg < n) : ¬ (j < 0 ∨ c.slots.size ≤ j.toNatClampNeg) := fun q => q.elim hj fun r => by omega
end OwnArr
section OwnArr2
variable {p : Program} {l : Launch} {e : Env} {R : Room} {s : State} {m : MethodId} {args : Array Value} {below : List Frame} {meth : Method} {c : Code} {T : State} {locs : List Loc} {cells slots : Nat} {Z : State} {h : Heap} {a : Addr} {n : Nat} {g : Nat → Int32}
theorem own_iaload (X : Stand p l e R s m args below meth c T locs cells slots) (hx : p.tables.exec = Jvm.exec) (hZ : Z.Warmed39 s.vm) (eT : T.heap = h) (F : PI Z h a .int n g) {j v : Int32} (hj : ¬ j < 0) (hn : j.toNatClampNeg < n) (hv : g j.toNatClampNeg = v) {f : JFrame} (hg : f.method = m) {rest : List Value} (hs : f.stack = .int j :: .ref a :: rest) (hd : decode c.code f.pc = .ok (.iaload, 1)) (t : State)
    (k : Steps p.tables e below (T.setTop { f with pc := f.pc + 1, stack := .int v :: rest }) t) : Steps p.tables e below (T.setTop f) t := by
  obtain ⟨cl, A, r1, r2, r3⟩ := F
  exact X.iaload hx (j := j) (v := .int v) (by rw [eT]; exact A.1) (State.isArrayOf_alike hZ.alike A.2.1) A.2.2 (own_inb r1 hj hn) (by rw [r3 _ hn, hv]) hg hs hd t k
theorem own_baloadZ (X : Stand p l e R s m args below meth c T locs cells slots) (hx : p.tables.exec = Jvm.exec) (hZ : Z.Warmed39 s.vm) (eT : T.heap = h) (F : PI Z h a .boolean n g) {j v : Int32} (hj : ¬ j < 0) (hn : j.toNatClampNeg < n) (hv : g j.toNatClampNeg = v) {f : JFrame} (hg : f.method = m) {rest : List Value} (hs : f.stack = .int j :: .ref a :: rest) (hd : decode c.code f.pc = .ok (.baload, 1)) (t : State)
    (k : Steps p.tables e below (T.setTop { f with pc := f.pc + 1, stack := .int v :: rest }) t) : Steps p.tables e below (T.setTop f) t := by
  obtain ⟨cl, A, r1, r2, r3⟩ := F
  exact X.baloadBooleans hx (j := j) (v := .int v) (by rw [eT]; exact A.1) (State.isArrayOf_alike hZ.alike A.2.1) A.2.2 (own_inb r1 hj hn) (by rw [r3 _ hn, hv]) hg hs hd t k
theorem own_alen {ty : FieldType} (X : Stand p l e R s m args below meth c T locs cells slots) (hx : p.tables.exec = Jvm.exec) (hZ : Z.Warmed39 s.vm) (eT : T.heap = h) (F : PI Z h a ty n g) {z : Int32} (hz : n.toInt32 = z) {f : JFrame} (hg : f.method = m) {rest : List Value} (hs : f.stack = .ref a :: rest) (hd : decode c.code f.pc = .ok (.arraylength, 1)) (t : State)
    (k : Steps p.tables e below (T.setTop { f with pc := f.pc + 1, stack := .int z :: rest }) t) : Steps p.tables e below (T.setTop f) t := by
  obtain ⟨cl, A, r1, r2, r3⟩ := F
  exact X.arraylength hx (by rw [eT]; exact A.1) (State.isArrayOf_alike hZ.alike A.2.1) hg hs hd t (by rw [r1, hz]; exact k)
theorem own_iastore (X : Stand p l e R s m args below meth c T locs cells slots) (hx : p.tables.exec = Jvm.exec) (hZ : Z.Warmed39 s.vm) (eT : T.heap = h) (F : PI Z h a .int n g) {j x : Int32} (hj : ¬ j < 0) (hn : j.toNatClampNeg < n) {f : JFrame} (hg : f.method = m) {rest : List Value} (hs : f.stack = .int x :: .int j :: .ref a :: rest) (hd : decode c.code f.pc = .ok (.iastore, 1)) :
    ∃ T' h', Stand p l e R s m args below meth c T' (locs ++ [⟨a, j.toNatClampNeg⟩]) cells slots ∧ T'.heap = h' ∧ Wr h h' a j.toNatClampNeg (.int x) ∧ ∀ target, Steps p.tables e below (T'.setTop { f with pc := f.pc + 1, stack := rest }) target → Steps p.tables e below (T.setTop f) target := by
  obtain ⟨cl, A, r1, r2, r3⟩ := F
  exact stI X hx hZ eT A (own_inb r1 hj hn) hg hs hd
theorem own_bastoreZ (X : Stand p l e R s m args below meth c T locs cells slots) (hx : p.tables.exec = Jvm.exec) (hZ : Z.Warmed39 s.vm) (eT : T.heap = h) (F : PI Z h a .boolean n g) {j x : Int32} (hnx : nar .boolean x = x) (hj : ¬ j < 0) (hn : j.toNatClampNeg < n) {f : JFrame} (hg : f.method = m) {rest : List Value} (hs : f.stack = .int x :: .int j :: .ref a :: rest) (hd : decode c.code f.pc = .ok (.bastore, 1)) :
    ∃ T' h', Stand p l e R s m args below meth c T' (locs ++ [⟨a, j.toNatClampNeg⟩]) cells slots ∧ T'.heap = h' ∧ Wr h h' a j.toNatClampNeg (.int x) ∧ ∀ target, Steps p.tables e below (T'.setTop { f with pc := f.pc + 1, stack := rest }) target → Steps p.tables e below (T.setTop f) target := by
  obtain ⟨cl, A, r1, r2, r3⟩ := F
  obtain ⟨T', h', q1, q2, q3, q4⟩ := stZ X hx hZ eT A (x := x) (own_inb r1 hj hn) hg hs hd
  rw [hnx] at q3
  exact ⟨T', h', q1, q2, q3, q4⟩
end OwnArr2
theorem own_Lto {Z : State} {h : Heap} {a : Addr} {ty : FieldType} {n : Nat} {l l' : List Int32} (F : PI Z h a ty n (own_l l)) (q : l = l') : PI Z h a ty n (own_l l') := q ▸ F
theorem own_Gto {Z : State} {h : Heap} {a : Addr} {ty : FieldType} {n : Nat} {g g' : Nat → Int32} (F : PI Z h a ty n g) (q : g = g') : PI Z h a ty n g' := q ▸ F
/-! bytes; a law that may resolve String constants (the wide frame) -/
theorem own_baloadB {p : Program} {l : Launch} {e : Env} {R : Room} {s : State} {m : MethodId} {args : Array Value} {below : List Frame} {meth : Method} {c : Code} {T : State} {locs : List Loc} {cells slots : Nat} {Z : State} {h : Heap} {a : Addr} {n : Nat} {g : Nat → Int32}
    (X : Stand p l e R s m args below meth c T locs cells slots) (hx : p.tables.exec = Jvm.exec) (hZ : Z.Warmed39 s.vm) (eT : T.heap = h) (F : PI Z h a .byte n g) {j v : Int32} (hj : ¬ j < 0) (hn : j.toNatClampNeg < n) (hv : g j.toNatClampNeg = v) {f : JFrame} (hg : f.method = m) {rest : List Value} (hs : f.stack = .int j :: .ref a :: rest) (hd : decode c.code f.pc = .ok (.baload, 1)) (t : State)
    (k : Steps p.tables e below (T.setTop { f with pc := f.pc + 1, stack := .int v :: rest }) t) : Steps p.tables e below (T.setTop f) t := by
  obtain ⟨cl, A, r1, r2, r3⟩ := F
  exact X.baloadBytes hx (j := j) (v := .int v) (by rw [eT]; exact A.1) (State.isArrayOf_alike hZ.alike A.2.1) A.2.2 (own_inb r1 hj hn) (by rw [r3 _ hn, hv]) hg hs hd t k
theorem own_mapD (l : List Int32) (i : Nat) : (l.map Value.int).getD i (.int 0) = .int (own_l l i) := by
  simp only [own_l, List.getD_eq_getElem?_getD, List.getElem?_map]
  cases l[i]? <;> rfl
theorem own_ofArvB {Z : State} {h : Heap} {a : Addr} {k : ClassId} {z : Int32} {l : List Int32} {n : Nat} {ty : FieldType} (A : Arv Z h a k ty z (l.map Value.int) (.int 0)) (hn : z.toNatClampNeg = n) : PI Z h a ty n (own_l l) := by
  obtain ⟨c, A, r1, r2, r3, H, G⟩ := A
  subst hn
  exact ⟨c, A, r2, (back32 r3).2, fun i hi => by rw [H i (by omega), own_mapD]⟩
theorem own_narc (x : Int32) : nar .char ((x &&& (255 : Int32)).toUInt32.toUInt16.toUInt32.toInt32) = (x &&& (255 : Int32)).toUInt32.toUInt16.toUInt32.toInt32 := by
  rw [i2c_mask]; exact i2c_mask x
def EndW (Q : Option Value → Heap → List Loc → Prop) (s : State) (C S : Nat) (o : Outcome) (u : State) : Prop := ∃ v L, o = .returned v ∧ Q v u.heap L ∧ ReturnedEndW s o u L C S
section OwnWide
variable {p : Program} {l : Launch} {e : Env} {R : Room} {s : State} {m : MethodId} {args : Array Value} {below : List Frame} {meth : Method} {c : Code} {T : State} {locs : List Loc} {cells slots : Nat}
theorem gNW {vm1 : Vm} (X : Stand p l e R (s.setVm vm1) m args below meth c T locs cells slots) (hx : p.tables.exec = Jvm.exec) (hlk : meth.locks = false) {n : Nat} (hS : s.Since vm1 n) (hn : n ≤ T.heap.size) {pc : Nat} {Ls : Array Slot} {z : Int32} {t : FieldType} {rest : List Value} (hret : meth.sig.returnType = some t) (ht : t = .boolean ∨ t = .byte ∨ t = .char ∨ t = .short) (hz : nar t z = z) (hd : decode c.code pc = .ok (.ireturn, 1)) {Q : Option Value → Heap → List Loc → Prop} {C S : Nat} (hq : Q (some (.int z)) T.heap locs) (hc : cells ≤ C) (hs : slots ≤ S) :
    Go p.tables e below (EndW Q s C S) (T.setTop (mkF m pc Ls (.int z :: rest))) := by
  obtain ⟨fs, hr, hrun, hended, ⟨r1, r2, r3, r4⟩⟩ := X.leaveW hS hn (v := some (.int z)) (fun h => by rw [hret] at h; cases h) hlk
  exact ⟨_, _, retN X hx hret ht hd (by rw [hz]; exact hr), hrun, hended, _, _, rfl, hq, r1, r2, r3, r4.mono hc hs⟩
end OwnWide
theorem bodyW {l : Launch} {y : MethodName} {bytes : ByteArray} {maxL : Nat} {ret : Option FieldType} {ws : List Jvm.Cond} {rm : Room} {as' : Array Value} {Z : State} {h0 : Heap} {Q : Option Value → Heap → List Loc → Prop} (pn : plainFor y = true)
    (k : ∀ (p : Program) (e : Env) (s : State) (m : MethodId) (below : List Frame) (meth : Method) (c : Code) (s₁ : State), p.tables.exec = Jvm.exec → c.code = bytes → c.maxLocals = maxL → s.vm.findClass y.cls = some m.cls → meth.name = y.name → meth.sig.returnType = ret → meth.locks = false → Z.Warmed39 s.vm → s₁.heap = h0 →
      Stand p l e rm s m as' below meth c s₁ [] 0 0 → s.heap = h0 → s.vm.interned = Z.vm.interned → Go p.tables e below (EndW Q s rm.cells rm.slots) (s₁.setTop (entryFrame m as' maxL))) :
    MetFree l y (head1 (Jvm.Cond.code y bytes maxL ret :: ws) rm) (fun a U => a = as' ∧ Z.Warmed39 U.vm ∧ U.heap = h0 ∧ U.vm.interned = Z.vm.interned) (fun _ _ _ _ _ => True) (fun _ U o U' => ∃ v L, o = .returned v ∧ Q v U'.heap L ∧ ReturnedEndW U o U' L rm.cells rm.slots) := by
  refine MetFree.of_bodySF pn hisR ?_
  intro p e s m args below meth c s₁ Bd hml hP _
  obtain ⟨rfl, hZ, hh, hi⟩ := hP
  obtain ⟨s₂, o, h1, h2, h3, h4⟩ := k p e s m below meth c s₁ Bd.exec Bd.bytes hml (findClass_of_methodNamed Bd.named) (name_of_methodNamed Bd.named Bd.method).1 Bd.returns Bd.notSynchronized hZ (by rw [← hh, Bd.state]; rfl) (Stand.of_body Bd) hh hi
  exact ⟨s₂, o, h1, h2, h3, h4⟩
theorem own_nn {j : Int32} (h : 0 ≤ j.toInt) : ¬ j < 0 := by rw [Int32.lt_iff_toInt_lt]; have : (0 : Int32).toInt = 0 := rfl; omega
theorem own_cl {j : Int32} (h : 0 ≤ j.toInt) : (j.toNatClampNeg : Int) = j.toInt := (nat_of (own_nn h)).symm
theorem own_lt {j : Int32} {N : Nat} (h : 0 ≤ j.toInt) (h2 : j.toInt < N) : j.toNatClampNeg < N := by have := own_cl h; omega
theorem own_t32 {N : Nat} (h : N < 2 ^ 31) : N.toInt32.toInt = N := by
  show (Int32.ofNat N).toInt = N
  exact Int32.toInt_ofNat_of_lt (by omega)
theorem own_ltn {n : Nat} {j : Int32} (hb : n < 2 ^ 31) (h1 : ¬ j < 0) (h2 : j.toNatClampNeg < n) : j < n.toInt32 := by
  rw [Int32.lt_iff_toInt_lt, own_t32 hb, nat_of h1]; omega
theorem own_ib {Z s : State} (h : s.vm.interned = Z.vm.interned) : IB Z s.vm [] := ⟨#[], by simp [h], fun q hq => by simp at hq⟩
def own_hex (p0 : Int32) : Int32 := (if p0 < (48 : Int32) then (if p0 < (65 : Int32) then (if p0 < (97 : Int32) then (-1 : Int32) else (if (102 : Int32) < p0 then (-1 : Int32) else (((p0 ||| (32 : Int32)) - (97 : Int32)) + (10 : Int32)))) else (if (70 : Int32) < p0 then (if p0 < (97 : Int32) then (-1 : Int32) else (if (102 : Int32) < p0 then (-1 : Int32) else (((p0 ||| (32 : Int32)) - (97 : Int32)) + (10 : Int32)))) else (((p0 ||| (32 : Int32)) - (97 : Int32)) + (10 : Int32)))) else (if (57 : Int32) < p0 then (if p0 < (65 : Int32) then (if p0 < (97 : Int32) then (-1 : Int32) else (if (102 : Int32) < p0 then (-1 : Int32) else (((p0 ||| (32 : Int32)) - (97 : Int32)) + (10 : Int32)))) else (if (70 : Int32) < p0 then (if p0 < (97 : Int32) then (-1 : Int32) else (if (102 : Int32) < p0 then (-1 : Int32) else (((p0 ||| (32 : Int32)) - (97 : Int32)) + (10 : Int32)))) else (((p0 ||| (32 : Int32)) - (97 : Int32)) + (10 : Int32)))) else (p0 - (48 : Int32))))
theorem pn_com_example_locattr_locattr_UriReferences_hexValue_1 : plainFor (⟨"com/example/locattr/locattr/UriReferences", "hexValue", "(C)I"⟩ : MethodName) = true := by first | exact plainFor_of_name (by first | (simp [plainName, overriddenIn]; done) | decide +kernel) | decide +kernel
def Q_rm1 (Z : State) (p0 : Int32) (h0 : Heap) (n0 : Nat) (v : Option Value) (h : Heap) (L : List Loc) : Prop := v = some (.int (own_hex p0)) ∧ Fr n0 L ∧ h = h0
set_option maxRecDepth 65536 in
set_option maxHeartbeats 4000000 in
theorem ef_rm1 (m : MethodId) (p0 : Int32) : entryFrame m #[(.int p0)] 1 = mkF m 0 #[.val (.int p0)] [] := by first | (simp [entryFrame, mkF, argsToLocals, Value.category, maxLocals]; done) | rfl
theorem d1_0 : decode prog_109_method_11_code 0 = .ok (.iload_n 0, 1) := by decide +kernel
theorem d1_1 : decode prog_109_method_11_code 1 = .ok (.bipush 48, 2) := by decide +kernel
theorem d1_3 : decode prog_109_method_11_code 3 = .ok (.if_icmp .lt 14, 3) := by decide +kernel
theorem d1_6 : decode prog_109_method_11_code 6 = .ok (.iload_n 0, 1) := by decide +kernel
theorem d1_7 : decode prog_109_method_11_code 7 = .ok (.bipush 57, 2) := by decide +kernel
theorem d1_9 : decode prog_109_method_11_code 9 = .ok (.if_icmp .gt 8, 3) := by decide +kernel
theorem d1_12 : decode prog_109_method_11_code 12 = .ok (.iload_n 0, 1) := by decide +kernel
theorem d1_13 : decode prog_109_method_11_code 13 = .ok (.bipush 48, 2) := by decide +kernel
theorem d1_15 : decode prog_109_method_11_code 15 = .ok (.isub, 1) := by decide +kernel
theorem d1_16 : decode prog_109_method_11_code 16 = .ok (.ireturn, 1) := by decide +kernel
theorem d1_17 : decode prog_109_method_11_code 17 = .ok (.iload_n 0, 1) := by decide +kernel
theorem d1_18 : decode prog_109_method_11_code 18 = .ok (.bipush 65, 2) := by decide +kernel
theorem d1_20 : decode prog_109_method_11_code 20 = .ok (.if_icmp .lt 9, 3) := by decide +kernel
theorem d1_23 : decode prog_109_method_11_code 23 = .ok (.iload_n 0, 1) := by decide +kernel
theorem d1_24 : decode prog_109_method_11_code 24 = .ok (.bipush 70, 2) := by decide +kernel
theorem d1_26 : decode prog_109_method_11_code 26 = .ok (.if_icmp .le 15, 3) := by decide +kernel
theorem d1_29 : decode prog_109_method_11_code 29 = .ok (.iload_n 0, 1) := by decide +kernel
theorem d1_30 : decode prog_109_method_11_code 30 = .ok (.bipush 97, 2) := by decide +kernel
theorem d1_32 : decode prog_109_method_11_code 32 = .ok (.if_icmp .lt 20, 3) := by decide +kernel
theorem d1_35 : decode prog_109_method_11_code 35 = .ok (.iload_n 0, 1) := by decide +kernel
theorem d1_36 : decode prog_109_method_11_code 36 = .ok (.bipush 102, 2) := by decide +kernel
theorem d1_38 : decode prog_109_method_11_code 38 = .ok (.if_icmp .gt 14, 3) := by decide +kernel
theorem d1_41 : decode prog_109_method_11_code 41 = .ok (.iload_n 0, 1) := by decide +kernel
theorem d1_42 : decode prog_109_method_11_code 42 = .ok (.bipush 32, 2) := by decide +kernel
theorem d1_44 : decode prog_109_method_11_code 44 = .ok (.ior, 1) := by decide +kernel
theorem d1_45 : decode prog_109_method_11_code 45 = .ok (.bipush 97, 2) := by decide +kernel
theorem d1_47 : decode prog_109_method_11_code 47 = .ok (.isub, 1) := by decide +kernel
theorem d1_48 : decode prog_109_method_11_code 48 = .ok (.bipush 10, 2) := by decide +kernel
theorem d1_50 : decode prog_109_method_11_code 50 = .ok (.iadd, 1) := by decide +kernel
theorem d1_51 : decode prog_109_method_11_code 51 = .ok (.ireturn, 1) := by decide +kernel
theorem d1_52 : decode prog_109_method_11_code 52 = .ok (.iconst (-1), 1) := by decide +kernel
theorem d1_53 : decode prog_109_method_11_code 53 = .ok (.ireturn, 1) := by decide +kernel
set_option maxRecDepth 65536 in
set_option maxHeartbeats 40000000 in
theorem rm1 (l : Launch) (Z : State) (a0 : Array Value) (hw : ∀ d ∈ tables_1, d.before a0 Z = true) (ws : List Jvm.Cond) (p0 : Int32) (h0 : Heap) (n0 : Nat) (Z0 : n0 ≤ h0.size)  :
    MetFree l (⟨"com/example/locattr/locattr/UriReferences", "hexValue", "(C)I"⟩ : MethodName) (head1 (Jvm.Cond.code (⟨"com/example/locattr/locattr/UriReferences", "hexValue", "(C)I"⟩ : MethodName) prog_109_method_11_code 1 (some .int) :: ws) ({ frames := 0, cells := 0, slots := 0, locals := 0 } : Room)) (fun a U => a = #[(.int p0)] ∧ Z.Warmed39 U.vm ∧ U.heap = h0) (fun _ _ _ _ _ => True) (fun _ U o U' => ∃ v L, o = .returned v ∧ Q_rm1 Z p0 h0 n0 v U'.heap L ∧ FrameEnd U o U' L ({ frames := 0, cells := 0, slots := 0, locals := 0 } : Room).cells ({ frames := 0, cells := 0, slots := 0, locals := 0 } : Room).slots) := by
  refine body pn_com_example_locattr_locattr_UriReferences_hexValue_1 ?_
  intro p e s m below meth c s₁ hx hby hml hown hnm hret hlk hZ e0 X0
  replace hml : c.maxLocals = 1 := hml
  replace hown : s.vm.findClass "com/example/locattr/locattr/UriReferences" = some m.cls := hown
  replace hnm : meth.name = "hexValue" := hnm
  replace hret : meth.sig.returnType = (some .int) := hret
  have N0 := Fr.nil n0
  rw [ef_rm1]
  obtain ⟨G, hG⟩ : ∃ G, G = End (Q_rm1 Z p0 h0 n0) s ({ frames := 0, cells := 0, slots := 0, locals := 0 } : Room).cells ({ frames := 0, cells := 0, slots := 0, locals := 0 } : Room).slots := ⟨_, rfl⟩
  rw [← hG]
  refine go (u' := s₁.setTop (mkF m 1 #[.val (.int p0)] [(.int p0)])) (fun _ ks_ => XS.iloadN X0.here hx rfl (hb hby d1_0) rfl  ks_) ?_
  refine go (u' := s₁.setTop (mkF m 3 #[.val (.int p0)] [(.int (48 : Int32)), (.int p0)])) (fun _ ks_ => XS.bipush X0.here hx rfl (hb hby d1_1) ks_) ?_
  by_cases c3_1 : p0 < (48 : Int32)
  ·
    refine go (u' := s₁.setTop (mkF m 17 #[.val (.int p0)] [])) (fun _ ks_ => XS.icmpYes X0.here hx rfl (pc0 := 3) (pc' := 17) rfl (hb hby d1_3) rfl (tlt c3_1).1 (by decide) (by decide) ks_) ?_
    refine go (u' := s₁.setTop (mkF m 18 #[.val (.int p0)] [(.int p0)])) (fun _ ks_ => XS.iloadN X0.here hx rfl (hb hby d1_17) rfl  ks_) ?_
    refine go (u' := s₁.setTop (mkF m 20 #[.val (.int p0)] [(.int (65 : Int32)), (.int p0)])) (fun _ ks_ => XS.bipush X0.here hx rfl (hb hby d1_18) ks_) ?_
    by_cases c20_2 : p0 < (65 : Int32)
    ·
      refine go (u' := s₁.setTop (mkF m 29 #[.val (.int p0)] [])) (fun _ ks_ => XS.icmpYes X0.here hx rfl (pc0 := 20) (pc' := 29) rfl (hb hby d1_20) rfl (tlt c20_2).1 (by decide) (by decide) ks_) ?_
      refine go (u' := s₁.setTop (mkF m 30 #[.val (.int p0)] [(.int p0)])) (fun _ ks_ => XS.iloadN X0.here hx rfl (hb hby d1_29) rfl  ks_) ?_
      refine go (u' := s₁.setTop (mkF m 32 #[.val (.int p0)] [(.int (97 : Int32)), (.int p0)])) (fun _ ks_ => XS.bipush X0.here hx rfl (hb hby d1_30) ks_) ?_
      by_cases c32_3 : p0 < (97 : Int32)
      ·
        refine go (u' := s₁.setTop (mkF m 52 #[.val (.int p0)] [])) (fun _ ks_ => XS.icmpYes X0.here hx rfl (pc0 := 32) (pc' := 52) rfl (hb hby d1_32) rfl (tlt c32_3).1 (by decide) (by decide) ks_) ?_
        refine go (u' := s₁.setTop (mkF m 53 #[.val (.int p0)] [(.int (-1 : Int32))])) (fun _ ks_ => XS.iconst X0.here hx rfl (hb hby d1_52) ks_) ?_
        rw [hG]
        refine gI X0 hx hlk hret (hb hby d1_53) ?_ (Nat.le_of_ble_eq_true rfl) (Nat.le_of_ble_eq_true rfl)
        show Q_rm1 Z p0 h0 n0 (some (.int (-1 : Int32))) s₁.heap _
        rw [e0]
        exact ⟨congrArg (fun z => some (Value.int z)) ((((if_pos c3_1).trans (if_pos c20_2)).trans (if_pos c32_3))).symm, N0, rfl⟩
      ·
        refine go (u' := s₁.setTop (mkF m 35 #[.val (.int p0)] [])) (fun _ ks_ => XS.icmpNo X0.here hx rfl (hb hby d1_32) rfl (flt c32_3).1 ks_) ?_
        refine go (u' := s₁.setTop (mkF m 36 #[.val (.int p0)] [(.int p0)])) (fun _ ks_ => XS.iloadN X0.here hx rfl (hb hby d1_35) rfl  ks_) ?_
        refine go (u' := s₁.setTop (mkF m 38 #[.val (.int p0)] [(.int (102 : Int32)), (.int p0)])) (fun _ ks_ => XS.bipush X0.here hx rfl (hb hby d1_36) ks_) ?_
        by_cases c38_4 : (102 : Int32) < p0
        ·
          refine go (u' := s₁.setTop (mkF m 52 #[.val (.int p0)] [])) (fun _ ks_ => XS.icmpYes X0.here hx rfl (pc0 := 38) (pc' := 52) rfl (hb hby d1_38) rfl (tlt c38_4).2.2.1 (by decide) (by decide) ks_) ?_
          refine go (u' := s₁.setTop (mkF m 53 #[.val (.int p0)] [(.int (-1 : Int32))])) (fun _ ks_ => XS.iconst X0.here hx rfl (hb hby d1_52) ks_) ?_
          rw [hG]
          refine gI X0 hx hlk hret (hb hby d1_53) ?_ (Nat.le_of_ble_eq_true rfl) (Nat.le_of_ble_eq_true rfl)
          show Q_rm1 Z p0 h0 n0 (some (.int (-1 : Int32))) s₁.heap _
          rw [e0]
          exact ⟨congrArg (fun z => some (Value.int z)) (((((if_pos c3_1).trans (if_pos c20_2)).trans (if_neg c32_3)).trans (if_pos c38_4))).symm, N0, rfl⟩
        ·
          refine go (u' := s₁.setTop (mkF m 41 #[.val (.int p0)] [])) (fun _ ks_ => XS.icmpNo X0.here hx rfl (hb hby d1_38) rfl (flt c38_4).2.2.1 ks_) ?_
          refine go (u' := s₁.setTop (mkF m 42 #[.val (.int p0)] [(.int p0)])) (fun _ ks_ => XS.iloadN X0.here hx rfl (hb hby d1_41) rfl  ks_) ?_
          refine go (u' := s₁.setTop (mkF m 44 #[.val (.int p0)] [(.int (32 : Int32)), (.int p0)])) (fun _ ks_ => XS.bipush X0.here hx rfl (hb hby d1_42) ks_) ?_
          refine go (u' := s₁.setTop (mkF m 45 #[.val (.int p0)] [(.int (p0 ||| (32 : Int32)))])) (fun _ ks_ => XS.ior X0.here hx rfl (hb hby d1_44) rfl ks_) ?_
          refine go (u' := s₁.setTop (mkF m 47 #[.val (.int p0)] [(.int (97 : Int32)), (.int (p0 ||| (32 : Int32)))])) (fun _ ks_ => XS.bipush X0.here hx rfl (hb hby d1_45) ks_) ?_
          refine go (u' := s₁.setTop (mkF m 48 #[.val (.int p0)] [(.int ((p0 ||| (32 : Int32)) - (97 : Int32)))])) (fun _ ks_ => XS.isub X0.here hx rfl (hb hby d1_47) rfl ks_) ?_
          refine go (u' := s₁.setTop (mkF m 50 #[.val (.int p0)] [(.int (10 : Int32)), (.int ((p0 ||| (32 : Int32)) - (97 : Int32)))])) (fun _ ks_ => XS.bipush X0.here hx rfl (hb hby d1_48) ks_) ?_
          refine go (u' := s₁.setTop (mkF m 51 #[.val (.int p0)] [(.int (((p0 ||| (32 : Int32)) - (97 : Int32)) + (10 : Int32)))])) (fun _ ks_ => XS.iadd X0.here hx rfl (hb hby d1_50) rfl ks_) ?_
          rw [hG]
          refine gI X0 hx hlk hret (hb hby d1_51) ?_ (Nat.le_of_ble_eq_true rfl) (Nat.le_of_ble_eq_true rfl)
          show Q_rm1 Z p0 h0 n0 (some (.int (((p0 ||| (32 : Int32)) - (97 : Int32)) + (10 : Int32)))) s₁.heap _
          rw [e0]
          exact ⟨congrArg (fun z => some (Value.int z)) (((((if_pos c3_1).trans (if_pos c20_2)).trans (if_neg c32_3)).trans (if_neg c38_4))).symm, N0, rfl⟩
    ·
      refine go (u' := s₁.setTop (mkF m 23 #[.val (.int p0)] [])) (fun _ ks_ => XS.icmpNo X0.here hx rfl (hb hby d1_20) rfl (flt c20_2).1 ks_) ?_
      refine go (u' := s₁.setTop (mkF m 24 #[.val (.int p0)] [(.int p0)])) (fun _ ks_ => XS.iloadN X0.here hx rfl (hb hby d1_23) rfl  ks_) ?_
      refine go (u' := s₁.setTop (mkF m 26 #[.val (.int p0)] [(.int (70 : Int32)), (.int p0)])) (fun _ ks_ => XS.bipush X0.here hx rfl (hb hby d1_24) ks_) ?_
      by_cases c26_5 : (70 : Int32) < p0
      ·
        refine go (u' := s₁.setTop (mkF m 29 #[.val (.int p0)] [])) (fun _ ks_ => XS.icmpNo X0.here hx rfl (hb hby d1_26) rfl (tlt c26_5).2.2.2 ks_) ?_
        refine go (u' := s₁.setTop (mkF m 30 #[.val (.int p0)] [(.int p0)])) (fun _ ks_ => XS.iloadN X0.here hx rfl (hb hby d1_29) rfl  ks_) ?_
        refine go (u' := s₁.setTop (mkF m 32 #[.val (.int p0)] [(.int (97 : Int32)), (.int p0)])) (fun _ ks_ => XS.bipush X0.here hx rfl (hb hby d1_30) ks_) ?_
        by_cases c32_6 : p0 < (97 : Int32)
        ·
          refine go (u' := s₁.setTop (mkF m 52 #[.val (.int p0)] [])) (fun _ ks_ => XS.icmpYes X0.here hx rfl (pc0 := 32) (pc' := 52) rfl (hb hby d1_32) rfl (tlt c32_6).1 (by decide) (by decide) ks_) ?_
          refine go (u' := s₁.setTop (mkF m 53 #[.val (.int p0)] [(.int (-1 : Int32))])) (fun _ ks_ => XS.iconst X0.here hx rfl (hb hby d1_52) ks_) ?_
          rw [hG]
          refine gI X0 hx hlk hret (hb hby d1_53) ?_ (Nat.le_of_ble_eq_true rfl) (Nat.le_of_ble_eq_true rfl)
          show Q_rm1 Z p0 h0 n0 (some (.int (-1 : Int32))) s₁.heap _
          rw [e0]
          exact ⟨congrArg (fun z => some (Value.int z)) (((((if_pos c3_1).trans (if_neg c20_2)).trans (if_pos c26_5)).trans (if_pos c32_6))).symm, N0, rfl⟩
        ·
          refine go (u' := s₁.setTop (mkF m 35 #[.val (.int p0)] [])) (fun _ ks_ => XS.icmpNo X0.here hx rfl (hb hby d1_32) rfl (flt c32_6).1 ks_) ?_
          refine go (u' := s₁.setTop (mkF m 36 #[.val (.int p0)] [(.int p0)])) (fun _ ks_ => XS.iloadN X0.here hx rfl (hb hby d1_35) rfl  ks_) ?_
          refine go (u' := s₁.setTop (mkF m 38 #[.val (.int p0)] [(.int (102 : Int32)), (.int p0)])) (fun _ ks_ => XS.bipush X0.here hx rfl (hb hby d1_36) ks_) ?_
          by_cases c38_7 : (102 : Int32) < p0
          ·
            refine go (u' := s₁.setTop (mkF m 52 #[.val (.int p0)] [])) (fun _ ks_ => XS.icmpYes X0.here hx rfl (pc0 := 38) (pc' := 52) rfl (hb hby d1_38) rfl (tlt c38_7).2.2.1 (by decide) (by decide) ks_) ?_
            refine go (u' := s₁.setTop (mkF m 53 #[.val (.int p0)] [(.int (-1 : Int32))])) (fun _ ks_ => XS.iconst X0.here hx rfl (hb hby d1_52) ks_) ?_
            rw [hG]
            refine gI X0 hx hlk hret (hb hby d1_53) ?_ (Nat.le_of_ble_eq_true rfl) (Nat.le_of_ble_eq_true rfl)
            show Q_rm1 Z p0 h0 n0 (some (.int (-1 : Int32))) s₁.heap _
            rw [e0]
            exact ⟨congrArg (fun z => some (Value.int z)) ((((((if_pos c3_1).trans (if_neg c20_2)).trans (if_pos c26_5)).trans (if_neg c32_6)).trans (if_pos c38_7))).symm, N0, rfl⟩
          ·
            refine go (u' := s₁.setTop (mkF m 41 #[.val (.int p0)] [])) (fun _ ks_ => XS.icmpNo X0.here hx rfl (hb hby d1_38) rfl (flt c38_7).2.2.1 ks_) ?_
            refine go (u' := s₁.setTop (mkF m 42 #[.val (.int p0)] [(.int p0)])) (fun _ ks_ => XS.iloadN X0.here hx rfl (hb hby d1_41) rfl  ks_) ?_
            refine go (u' := s₁.setTop (mkF m 44 #[.val (.int p0)] [(.int (32 : Int32)), (.int p0)])) (fun _ ks_ => XS.bipush X0.here hx rfl (hb hby d1_42) ks_) ?_
            refine go (u' := s₁.setTop (mkF m 45 #[.val (.int p0)] [(.int (p0 ||| (32 : Int32)))])) (fun _ ks_ => XS.ior X0.here hx rfl (hb hby d1_44) rfl ks_) ?_
            refine go (u' := s₁.setTop (mkF m 47 #[.val (.int p0)] [(.int (97 : Int32)), (.int (p0 ||| (32 : Int32)))])) (fun _ ks_ => XS.bipush X0.here hx rfl (hb hby d1_45) ks_) ?_
            refine go (u' := s₁.setTop (mkF m 48 #[.val (.int p0)] [(.int ((p0 ||| (32 : Int32)) - (97 : Int32)))])) (fun _ ks_ => XS.isub X0.here hx rfl (hb hby d1_47) rfl ks_) ?_
            refine go (u' := s₁.setTop (mkF m 50 #[.val (.int p0)] [(.int (10 : Int32)), (.int ((p0 ||| (32 : Int32)) - (97 : Int32)))])) (fun _ ks_ => XS.bipush X0.here hx rfl (hb hby d1_48) ks_) ?_
            refine go (u' := s₁.setTop (mkF m 51 #[.val (.int p0)] [(.int (((p0 ||| (32 : Int32)) - (97 : Int32)) + (10 : Int32)))])) (fun _ ks_ => XS.iadd X0.here hx rfl (hb hby d1_50) rfl ks_) ?_
            rw [hG]
            refine gI X0 hx hlk hret (hb hby d1_51) ?_ (Nat.le_of_ble_eq_true rfl) (Nat.le_of_ble_eq_true rfl)
            show Q_rm1 Z p0 h0 n0 (some (.int (((p0 ||| (32 : Int32)) - (97 : Int32)) + (10 : Int32)))) s₁.heap _
            rw [e0]
            exact ⟨congrArg (fun z => some (Value.int z)) ((((((if_pos c3_1).trans (if_neg c20_2)).trans (if_pos c26_5)).trans (if_neg c32_6)).trans (if_neg c38_7))).symm, N0, rfl⟩
      ·
        refine go (u' := s₁.setTop (mkF m 41 #[.val (.int p0)] [])) (fun _ ks_ => XS.icmpYes X0.here hx rfl (pc0 := 26) (pc' := 41) rfl (hb hby d1_26) rfl (flt c26_5).2.2.2 (by decide) (by decide) ks_) ?_
        refine go (u' := s₁.setTop (mkF m 42 #[.val (.int p0)] [(.int p0)])) (fun _ ks_ => XS.iloadN X0.here hx rfl (hb hby d1_41) rfl  ks_) ?_
        refine go (u' := s₁.setTop (mkF m 44 #[.val (.int p0)] [(.int (32 : Int32)), (.int p0)])) (fun _ ks_ => XS.bipush X0.here hx rfl (hb hby d1_42) ks_) ?_
        refine go (u' := s₁.setTop (mkF m 45 #[.val (.int p0)] [(.int (p0 ||| (32 : Int32)))])) (fun _ ks_ => XS.ior X0.here hx rfl (hb hby d1_44) rfl ks_) ?_
        refine go (u' := s₁.setTop (mkF m 47 #[.val (.int p0)] [(.int (97 : Int32)), (.int (p0 ||| (32 : Int32)))])) (fun _ ks_ => XS.bipush X0.here hx rfl (hb hby d1_45) ks_) ?_
        refine go (u' := s₁.setTop (mkF m 48 #[.val (.int p0)] [(.int ((p0 ||| (32 : Int32)) - (97 : Int32)))])) (fun _ ks_ => XS.isub X0.here hx rfl (hb hby d1_47) rfl ks_) ?_
        refine go (u' := s₁.setTop (mkF m 50 #[.val (.int p0)] [(.int (10 : Int32)), (.int ((p0 ||| (32 : Int32)) - (97 : Int32)))])) (fun _ ks_ => XS.bipush X0.here hx rfl (hb hby d1_48) ks_) ?_
        refine go (u' := s₁.setTop (mkF m 51 #[.val (.int p0)] [(.int (((p0 ||| (32 : Int32)) - (97 : Int32)) + (10 : Int32)))])) (fun _ ks_ => XS.iadd X0.here hx rfl (hb hby d1_50) rfl ks_) ?_
        rw [hG]
        refine gI X0 hx hlk hret (hb hby d1_51) ?_ (Nat.le_of_ble_eq_true rfl) (Nat.le_of_ble_eq_true rfl)
        show Q_rm1 Z p0 h0 n0 (some (.int (((p0 ||| (32 : Int32)) - (97 : Int32)) + (10 : Int32)))) s₁.heap _
        rw [e0]
        exact ⟨congrArg (fun z => some (Value.int z)) ((((if_pos c3_1).trans (if_neg c20_2)).trans (if_neg c26_5))).symm, N0, rfl⟩
  ·
    refine go (u' := s₁.setTop (mkF m 6 #[.val (.int p0)] [])) (fun _ ks_ => XS.icmpNo X0.here hx rfl (hb hby d1_3) rfl (flt c3_1).1 ks_) ?_
    refine go (u' := s₁.setTop (mkF m 7 #[.val (.int p0)] [(.int p0)])) (fun _ ks_ => XS.iloadN X0.here hx rfl (hb hby d1_6) rfl  ks_) ?_
    refine go (u' := s₁.setTop (mkF m 9 #[.val (.int p0)] [(.int (57 : Int32)), (.int p0)])) (fun _ ks_ => XS.bipush X0.here hx rfl (hb hby d1_7) ks_) ?_
    by_cases c9_8 : (57 : Int32) < p0
    ·
      refine go (u' := s₁.setTop (mkF m 17 #[.val (.int p0)] [])) (fun _ ks_ => XS.icmpYes X0.here hx rfl (pc0 := 9) (pc' := 17) rfl (hb hby d1_9) rfl (tlt c9_8).2.2.1 (by decide) (by decide) ks_) ?_
      refine go (u' := s₁.setTop (mkF m 18 #[.val (.int p0)] [(.int p0)])) (fun _ ks_ => XS.iloadN X0.here hx rfl (hb hby d1_17) rfl  ks_) ?_
      refine go (u' := s₁.setTop (mkF m 20 #[.val (.int p0)] [(.int (65 : Int32)), (.int p0)])) (fun _ ks_ => XS.bipush X0.here hx rfl (hb hby d1_18) ks_) ?_
      by_cases c20_9 : p0 < (65 : Int32)
      ·
        refine go (u' := s₁.setTop (mkF m 29 #[.val (.int p0)] [])) (fun _ ks_ => XS.icmpYes X0.here hx rfl (pc0 := 20) (pc' := 29) rfl (hb hby d1_20) rfl (tlt c20_9).1 (by decide) (by decide) ks_) ?_
        refine go (u' := s₁.setTop (mkF m 30 #[.val (.int p0)] [(.int p0)])) (fun _ ks_ => XS.iloadN X0.here hx rfl (hb hby d1_29) rfl  ks_) ?_
        refine go (u' := s₁.setTop (mkF m 32 #[.val (.int p0)] [(.int (97 : Int32)), (.int p0)])) (fun _ ks_ => XS.bipush X0.here hx rfl (hb hby d1_30) ks_) ?_
        by_cases c32_10 : p0 < (97 : Int32)
        ·
          refine go (u' := s₁.setTop (mkF m 52 #[.val (.int p0)] [])) (fun _ ks_ => XS.icmpYes X0.here hx rfl (pc0 := 32) (pc' := 52) rfl (hb hby d1_32) rfl (tlt c32_10).1 (by decide) (by decide) ks_) ?_
          refine go (u' := s₁.setTop (mkF m 53 #[.val (.int p0)] [(.int (-1 : Int32))])) (fun _ ks_ => XS.iconst X0.here hx rfl (hb hby d1_52) ks_) ?_
          rw [hG]
          refine gI X0 hx hlk hret (hb hby d1_53) ?_ (Nat.le_of_ble_eq_true rfl) (Nat.le_of_ble_eq_true rfl)
          show Q_rm1 Z p0 h0 n0 (some (.int (-1 : Int32))) s₁.heap _
          rw [e0]
          exact ⟨congrArg (fun z => some (Value.int z)) (((((if_neg c3_1).trans (if_pos c9_8)).trans (if_pos c20_9)).trans (if_pos c32_10))).symm, N0, rfl⟩
        ·
          refine go (u' := s₁.setTop (mkF m 35 #[.val (.int p0)] [])) (fun _ ks_ => XS.icmpNo X0.here hx rfl (hb hby d1_32) rfl (flt c32_10).1 ks_) ?_
          refine go (u' := s₁.setTop (mkF m 36 #[.val (.int p0)] [(.int p0)])) (fun _ ks_ => XS.iloadN X0.here hx rfl (hb hby d1_35) rfl  ks_) ?_
          refine go (u' := s₁.setTop (mkF m 38 #[.val (.int p0)] [(.int (102 : Int32)), (.int p0)])) (fun _ ks_ => XS.bipush X0.here hx rfl (hb hby d1_36) ks_) ?_
          by_cases c38_11 : (102 : Int32) < p0
          ·
            refine go (u' := s₁.setTop (mkF m 52 #[.val (.int p0)] [])) (fun _ ks_ => XS.icmpYes X0.here hx rfl (pc0 := 38) (pc' := 52) rfl (hb hby d1_38) rfl (tlt c38_11).2.2.1 (by decide) (by decide) ks_) ?_
            refine go (u' := s₁.setTop (mkF m 53 #[.val (.int p0)] [(.int (-1 : Int32))])) (fun _ ks_ => XS.iconst X0.here hx rfl (hb hby d1_52) ks_) ?_
            rw [hG]
            refine gI X0 hx hlk hret (hb hby d1_53) ?_ (Nat.le_of_ble_eq_true rfl) (Nat.le_of_ble_eq_true rfl)
            show Q_rm1 Z p0 h0 n0 (some (.int (-1 : Int32))) s₁.heap _
            rw [e0]
            exact ⟨congrArg (fun z => some (Value.int z)) ((((((if_neg c3_1).trans (if_pos c9_8)).trans (if_pos c20_9)).trans (if_neg c32_10)).trans (if_pos c38_11))).symm, N0, rfl⟩
          ·
            refine go (u' := s₁.setTop (mkF m 41 #[.val (.int p0)] [])) (fun _ ks_ => XS.icmpNo X0.here hx rfl (hb hby d1_38) rfl (flt c38_11).2.2.1 ks_) ?_
            refine go (u' := s₁.setTop (mkF m 42 #[.val (.int p0)] [(.int p0)])) (fun _ ks_ => XS.iloadN X0.here hx rfl (hb hby d1_41) rfl  ks_) ?_
            refine go (u' := s₁.setTop (mkF m 44 #[.val (.int p0)] [(.int (32 : Int32)), (.int p0)])) (fun _ ks_ => XS.bipush X0.here hx rfl (hb hby d1_42) ks_) ?_
            refine go (u' := s₁.setTop (mkF m 45 #[.val (.int p0)] [(.int (p0 ||| (32 : Int32)))])) (fun _ ks_ => XS.ior X0.here hx rfl (hb hby d1_44) rfl ks_) ?_
            refine go (u' := s₁.setTop (mkF m 47 #[.val (.int p0)] [(.int (97 : Int32)), (.int (p0 ||| (32 : Int32)))])) (fun _ ks_ => XS.bipush X0.here hx rfl (hb hby d1_45) ks_) ?_
            refine go (u' := s₁.setTop (mkF m 48 #[.val (.int p0)] [(.int ((p0 ||| (32 : Int32)) - (97 : Int32)))])) (fun _ ks_ => XS.isub X0.here hx rfl (hb hby d1_47) rfl ks_) ?_
            refine go (u' := s₁.setTop (mkF m 50 #[.val (.int p0)] [(.int (10 : Int32)), (.int ((p0 ||| (32 : Int32)) - (97 : Int32)))])) (fun _ ks_ => XS.bipush X0.here hx rfl (hb hby d1_48) ks_) ?_
            refine go (u' := s₁.setTop (mkF m 51 #[.val (.int p0)] [(.int (((p0 ||| (32 : Int32)) - (97 : Int32)) + (10 : Int32)))])) (fun _ ks_ => XS.iadd X0.here hx rfl (hb hby d1_50) rfl ks_) ?_
            rw [hG]
            refine gI X0 hx hlk hret (hb hby d1_51) ?_ (Nat.le_of_ble_eq_true rfl) (Nat.le_of_ble_eq_true rfl)
            show Q_rm1 Z p0 h0 n0 (some (.int (((p0 ||| (32 : Int32)) - (97 : Int32)) + (10 : Int32)))) s₁.heap _
            rw [e0]
            exact ⟨congrArg (fun z => some (Value.int z)) ((((((if_neg c3_1).trans (if_pos c9_8)).trans (if_pos c20_9)).trans (if_neg c32_10)).trans (if_neg c38_11))).symm, N0, rfl⟩
      ·
        refine go (u' := s₁.setTop (mkF m 23 #[.val (.int p0)] [])) (fun _ ks_ => XS.icmpNo X0.here hx rfl (hb hby d1_20) rfl (flt c20_9).1 ks_) ?_
        refine go (u' := s₁.setTop (mkF m 24 #[.val (.int p0)] [(.int p0)])) (fun _ ks_ => XS.iloadN X0.here hx rfl (hb hby d1_23) rfl  ks_) ?_
        refine go (u' := s₁.setTop (mkF m 26 #[.val (.int p0)] [(.int (70 : Int32)), (.int p0)])) (fun _ ks_ => XS.bipush X0.here hx rfl (hb hby d1_24) ks_) ?_
        by_cases c26_12 : (70 : Int32) < p0
        ·
          refine go (u' := s₁.setTop (mkF m 29 #[.val (.int p0)] [])) (fun _ ks_ => XS.icmpNo X0.here hx rfl (hb hby d1_26) rfl (tlt c26_12).2.2.2 ks_) ?_
          refine go (u' := s₁.setTop (mkF m 30 #[.val (.int p0)] [(.int p0)])) (fun _ ks_ => XS.iloadN X0.here hx rfl (hb hby d1_29) rfl  ks_) ?_
          refine go (u' := s₁.setTop (mkF m 32 #[.val (.int p0)] [(.int (97 : Int32)), (.int p0)])) (fun _ ks_ => XS.bipush X0.here hx rfl (hb hby d1_30) ks_) ?_
          by_cases c32_13 : p0 < (97 : Int32)
          ·
            refine go (u' := s₁.setTop (mkF m 52 #[.val (.int p0)] [])) (fun _ ks_ => XS.icmpYes X0.here hx rfl (pc0 := 32) (pc' := 52) rfl (hb hby d1_32) rfl (tlt c32_13).1 (by decide) (by decide) ks_) ?_
            refine go (u' := s₁.setTop (mkF m 53 #[.val (.int p0)] [(.int (-1 : Int32))])) (fun _ ks_ => XS.iconst X0.here hx rfl (hb hby d1_52) ks_) ?_
            rw [hG]
            refine gI X0 hx hlk hret (hb hby d1_53) ?_ (Nat.le_of_ble_eq_true rfl) (Nat.le_of_ble_eq_true rfl)
            show Q_rm1 Z p0 h0 n0 (some (.int (-1 : Int32))) s₁.heap _
            rw [e0]
            exact ⟨congrArg (fun z => some (Value.int z)) ((((((if_neg c3_1).trans (if_pos c9_8)).trans (if_neg c20_9)).trans (if_pos c26_12)).trans (if_pos c32_13))).symm, N0, rfl⟩
          ·
            refine go (u' := s₁.setTop (mkF m 35 #[.val (.int p0)] [])) (fun _ ks_ => XS.icmpNo X0.here hx rfl (hb hby d1_32) rfl (flt c32_13).1 ks_) ?_
            refine go (u' := s₁.setTop (mkF m 36 #[.val (.int p0)] [(.int p0)])) (fun _ ks_ => XS.iloadN X0.here hx rfl (hb hby d1_35) rfl  ks_) ?_
            refine go (u' := s₁.setTop (mkF m 38 #[.val (.int p0)] [(.int (102 : Int32)), (.int p0)])) (fun _ ks_ => XS.bipush X0.here hx rfl (hb hby d1_36) ks_) ?_
            by_cases c38_14 : (102 : Int32) < p0
            ·
              refine go (u' := s₁.setTop (mkF m 52 #[.val (.int p0)] [])) (fun _ ks_ => XS.icmpYes X0.here hx rfl (pc0 := 38) (pc' := 52) rfl (hb hby d1_38) rfl (tlt c38_14).2.2.1 (by decide) (by decide) ks_) ?_
              refine go (u' := s₁.setTop (mkF m 53 #[.val (.int p0)] [(.int (-1 : Int32))])) (fun _ ks_ => XS.iconst X0.here hx rfl (hb hby d1_52) ks_) ?_
              rw [hG]
              refine gI X0 hx hlk hret (hb hby d1_53) ?_ (Nat.le_of_ble_eq_true rfl) (Nat.le_of_ble_eq_true rfl)
              show Q_rm1 Z p0 h0 n0 (some (.int (-1 : Int32))) s₁.heap _
              rw [e0]
              exact ⟨congrArg (fun z => some (Value.int z)) (((((((if_neg c3_1).trans (if_pos c9_8)).trans (if_neg c20_9)).trans (if_pos c26_12)).trans (if_neg c32_13)).trans (if_pos c38_14))).symm, N0, rfl⟩
            ·
              refine go (u' := s₁.setTop (mkF m 41 #[.val (.int p0)] [])) (fun _ ks_ => XS.icmpNo X0.here hx rfl (hb hby d1_38) rfl (flt c38_14).2.2.1 ks_) ?_
              refine go (u' := s₁.setTop (mkF m 42 #[.val (.int p0)] [(.int p0)])) (fun _ ks_ => XS.iloadN X0.here hx rfl (hb hby d1_41) rfl  ks_) ?_
              refine go (u' := s₁.setTop (mkF m 44 #[.val (.int p0)] [(.int (32 : Int32)), (.int p0)])) (fun _ ks_ => XS.bipush X0.here hx rfl (hb hby d1_42) ks_) ?_
              refine go (u' := s₁.setTop (mkF m 45 #[.val (.int p0)] [(.int (p0 ||| (32 : Int32)))])) (fun _ ks_ => XS.ior X0.here hx rfl (hb hby d1_44) rfl ks_) ?_
              refine go (u' := s₁.setTop (mkF m 47 #[.val (.int p0)] [(.int (97 : Int32)), (.int (p0 ||| (32 : Int32)))])) (fun _ ks_ => XS.bipush X0.here hx rfl (hb hby d1_45) ks_) ?_
              refine go (u' := s₁.setTop (mkF m 48 #[.val (.int p0)] [(.int ((p0 ||| (32 : Int32)) - (97 : Int32)))])) (fun _ ks_ => XS.isub X0.here hx rfl (hb hby d1_47) rfl ks_) ?_
              refine go (u' := s₁.setTop (mkF m 50 #[.val (.int p0)] [(.int (10 : Int32)), (.int ((p0 ||| (32 : Int32)) - (97 : Int32)))])) (fun _ ks_ => XS.bipush X0.here hx rfl (hb hby d1_48) ks_) ?_
              refine go (u' := s₁.setTop (mkF m 51 #[.val (.int p0)] [(.int (((p0 ||| (32 : Int32)) - (97 : Int32)) + (10 : Int32)))])) (fun _ ks_ => XS.iadd X0.here hx rfl (hb hby d1_50) rfl ks_) ?_
              rw [hG]
              refine gI X0 hx hlk hret (hb hby d1_51) ?_ (Nat.le_of_ble_eq_true rfl) (Nat.le_of_ble_eq_true rfl)
              show Q_rm1 Z p0 h0 n0 (some (.int (((p0 ||| (32 : Int32)) - (97 : Int32)) + (10 : Int32)))) s₁.heap _
              rw [e0]
              exact ⟨congrArg (fun z => some (Value.int z)) (((((((if_neg c3_1).trans (if_pos c9_8)).trans (if_neg c20_9)).trans (if_pos c26_12)).trans (if_neg c32_13)).trans (if_neg c38_14))).symm, N0, rfl⟩
        ·
          refine go (u' := s₁.setTop (mkF m 41 #[.val (.int p0)] [])) (fun _ ks_ => XS.icmpYes X0.here hx rfl (pc0 := 26) (pc' := 41) rfl (hb hby d1_26) rfl (flt c26_12).2.2.2 (by decide) (by decide) ks_) ?_
          refine go (u' := s₁.setTop (mkF m 42 #[.val (.int p0)] [(.int p0)])) (fun _ ks_ => XS.iloadN X0.here hx rfl (hb hby d1_41) rfl  ks_) ?_
          refine go (u' := s₁.setTop (mkF m 44 #[.val (.int p0)] [(.int (32 : Int32)), (.int p0)])) (fun _ ks_ => XS.bipush X0.here hx rfl (hb hby d1_42) ks_) ?_
          refine go (u' := s₁.setTop (mkF m 45 #[.val (.int p0)] [(.int (p0 ||| (32 : Int32)))])) (fun _ ks_ => XS.ior X0.here hx rfl (hb hby d1_44) rfl ks_) ?_
          refine go (u' := s₁.setTop (mkF m 47 #[.val (.int p0)] [(.int (97 : Int32)), (.int (p0 ||| (32 : Int32)))])) (fun _ ks_ => XS.bipush X0.here hx rfl (hb hby d1_45) ks_) ?_
          refine go (u' := s₁.setTop (mkF m 48 #[.val (.int p0)] [(.int ((p0 ||| (32 : Int32)) - (97 : Int32)))])) (fun _ ks_ => XS.isub X0.here hx rfl (hb hby d1_47) rfl ks_) ?_
          refine go (u' := s₁.setTop (mkF m 50 #[.val (.int p0)] [(.int (10 : Int32)), (.int ((p0 ||| (32 : Int32)) - (97 : Int32)))])) (fun _ ks_ => XS.bipush X0.here hx rfl (hb hby d1_48) ks_) ?_
          refine go (u' := s₁.setTop (mkF m 51 #[.val (.int p0)] [(.int (((p0 ||| (32 : Int32)) - (97 : Int32)) + (10 : Int32)))])) (fun _ ks_ => XS.iadd X0.here hx rfl (hb hby d1_50) rfl ks_) ?_
          rw [hG]
          refine gI X0 hx hlk hret (hb hby d1_51) ?_ (Nat.le_of_ble_eq_true rfl) (Nat.le_of_ble_eq_true rfl)
          show Q_rm1 Z p0 h0 n0 (some (.int (((p0 ||| (32 : Int32)) - (97 : Int32)) + (10 : Int32)))) s₁.heap _
          rw [e0]
          exact ⟨congrArg (fun z => some (Value.int z)) (((((if_neg c3_1).trans (if_pos c9_8)).trans (if_neg c20_9)).trans (if_neg c26_12))).symm, N0, rfl⟩
    ·
      refine go (u' := s₁.setTop (mkF m 12 #[.val (.int p0)] [])) (fun _ ks_ => XS.icmpNo X0.here hx rfl (hb hby d1_9) rfl (flt c9_8).2.2.1 ks_) ?_
      refine go (u' := s₁.setTop (mkF m 13 #[.val (.int p0)] [(.int p0)])) (fun _ ks_ => XS.iloadN X0.here hx rfl (hb hby d1_12) rfl  ks_) ?_
      refine go (u' := s₁.setTop (mkF m 15 #[.val (.int p0)] [(.int (48 : Int32)), (.int p0)])) (fun _ ks_ => XS.bipush X0.here hx rfl (hb hby d1_13) ks_) ?_
      refine go (u' := s₁.setTop (mkF m 16 #[.val (.int p0)] [(.int (p0 - (48 : Int32)))])) (fun _ ks_ => XS.isub X0.here hx rfl (hb hby d1_15) rfl ks_) ?_
      rw [hG]
      refine gI X0 hx hlk hret (hb hby d1_16) ?_ (Nat.le_of_ble_eq_true rfl) (Nat.le_of_ble_eq_true rfl)
      show Q_rm1 Z p0 h0 n0 (some (.int (p0 - (48 : Int32)))) s₁.heap _
      rw [e0]
      exact ⟨congrArg (fun z => some (Value.int z)) (((if_neg c3_1).trans (if_neg c9_8))).symm, N0, rfl⟩
theorem pn_jdk_internal_util_Preconditions_checkIndex_6 : plainFor (⟨"jdk/internal/util/Preconditions", "checkIndex", "(IILjava/util/function/BiFunction;)I"⟩ : MethodName) = true := by first | exact plainFor_of_name (by first | (simp [plainName, overriddenIn]; done) | decide +kernel) | decide +kernel
def Q_rm6 (Z : State) (p0 : Int32) (p1 : Int32) (fv : Value) (h0 : Heap) (n0 : Nat) (v : Option Value) (h : Heap) (L : List Loc) : Prop := v = some (.int p0) ∧ Fr n0 L ∧ h = h0
set_option maxRecDepth 65536 in
set_option maxHeartbeats 4000000 in
theorem ef_rm6 (m : MethodId) (p0 : Int32) (p1 : Int32) (fv : Value) (hr_fv : fv.isRef = true) : entryFrame m #[(.int p0), (.int p1), fv] 3 = mkF m 0 #[.val (.int p0), .val (.int p1), .val fv] [] := by rcases ref_cases hr_fv with rfl | ⟨_, rfl⟩ <;> first | (simp [entryFrame, mkF, argsToLocals, Value.category, maxLocals]; done) | rfl
theorem d6_0 : decode jdk_41_method_11_code 0 = .ok (.iload_n 0, 1) := by decide +kernel
theorem d6_1 : decode jdk_41_method_11_code 1 = .ok (.ifCond .lt 8, 3) := by decide +kernel
theorem d6_4 : decode jdk_41_method_11_code 4 = .ok (.iload_n 0, 1) := by decide +kernel
theorem d6_5 : decode jdk_41_method_11_code 5 = .ok (.iload_n 1, 1) := by decide +kernel
theorem d6_6 : decode jdk_41_method_11_code 6 = .ok (.if_icmp .lt 10, 3) := by decide +kernel
theorem d6_16 : decode jdk_41_method_11_code 16 = .ok (.iload_n 0, 1) := by decide +kernel
theorem d6_17 : decode jdk_41_method_11_code 17 = .ok (.ireturn, 1) := by decide +kernel
set_option maxRecDepth 65536 in
set_option maxHeartbeats 40000000 in
theorem rm6 (l : Launch) (Z : State) (a0 : Array Value) (hw : ∀ d ∈ tables_1, d.before a0 Z = true) (ws : List Jvm.Cond) (p0 : Int32) (p1 : Int32) (fv : Value) (h0 : Heap) (n0 : Nat) (Z0 : n0 ≤ h0.size) (h1 : ¬ p0 < 0) (h2 : p0 < p1) (hr_fv : fv.isRef = true) :
    MetFree l (⟨"jdk/internal/util/Preconditions", "checkIndex", "(IILjava/util/function/BiFunction;)I"⟩ : MethodName) (head1 (Jvm.Cond.code (⟨"jdk/internal/util/Preconditions", "checkIndex", "(IILjava/util/function/BiFunction;)I"⟩ : MethodName) jdk_41_method_11_code 3 (some .int) :: ws) ({ frames := 0, cells := 0, slots := 0, locals := 0 } : Room)) (fun a U => a = #[(.int p0), (.int p1), fv] ∧ Z.Warmed39 U.vm ∧ U.heap = h0) (fun _ _ _ _ _ => True) (fun _ U o U' => ∃ v L, o = .returned v ∧ Q_rm6 Z p0 p1 fv h0 n0 v U'.heap L ∧ FrameEnd U o U' L ({ frames := 0, cells := 0, slots := 0, locals := 0 } : Room).cells ({ frames := 0, cells := 0, slots := 0, locals := 0 } : Room).slots) := by
  refine body pn_jdk_internal_util_Preconditions_checkIndex_6 ?_
  intro p e s m below meth c s₁ hx hby hml hown hnm hret hlk hZ e0 X0
  replace hml : c.maxLocals = 3 := hml
  replace hown : s.vm.findClass "jdk/internal/util/Preconditions" = some m.cls := hown
  replace hnm : meth.name = "checkIndex" := hnm
  replace hret : meth.sig.returnType = (some .int) := hret
  have N0 := Fr.nil n0
  rw [ef_rm6 m p0 p1 fv hr_fv]
  obtain ⟨G, hG⟩ : ∃ G, G = End (Q_rm6 Z p0 p1 fv h0 n0) s ({ frames := 0, cells := 0, slots := 0, locals := 0 } : Room).cells ({ frames := 0, cells := 0, slots := 0, locals := 0 } : Room).slots := ⟨_, rfl⟩
  rw [← hG]
  refine go (u' := s₁.setTop (mkF m 1 #[.val (.int p0), .val (.int p1), .val fv] [(.int p0)])) (fun _ ks_ => XS.iloadN X0.here hx rfl (hb hby d6_0) rfl  ks_) ?_
  refine go (u' := s₁.setTop (mkF m 4 #[.val (.int p0), .val (.int p1), .val fv] [])) (fun _ ks_ => XS.ifNo X0.here hx rfl (hb hby d6_1) rfl ((if0 _ _).trans (flt h1).1) ks_) ?_
  refine go (u' := s₁.setTop (mkF m 5 #[.val (.int p0), .val (.int p1), .val fv] [(.int p0)])) (fun _ ks_ => XS.iloadN X0.here hx rfl (hb hby d6_4) rfl  ks_) ?_
  refine go (u' := s₁.setTop (mkF m 6 #[.val (.int p0), .val (.int p1), .val fv] [(.int p1), (.int p0)])) (fun _ ks_ => XS.iloadN X0.here hx rfl (hb hby d6_5) rfl  ks_) ?_
  refine go (u' := s₁.setTop (mkF m 16 #[.val (.int p0), .val (.int p1), .val fv] [])) (fun _ ks_ => XS.icmpYes X0.here hx rfl (pc0 := 6) (pc' := 16) rfl (hb hby d6_6) rfl (tlt h2).1 (by decide) (by decide) ks_) ?_
  refine go (u' := s₁.setTop (mkF m 17 #[.val (.int p0), .val (.int p1), .val fv] [(.int p0)])) (fun _ ks_ => XS.iloadN X0.here hx rfl (hb hby d6_16) rfl  ks_) ?_
  rw [hG]
  refine gI X0 hx hlk hret (hb hby d6_17) ?_ (Nat.le_of_ble_eq_true rfl) (Nat.le_of_ble_eq_true rfl)
  show Q_rm6 Z p0 p1 fv h0 n0 (some (.int p0)) s₁.heap _
  rw [e0]
  exact ⟨rfl, N0, rfl⟩
theorem pd__40_IILjava_47_util_47_function_47_BiFunction_59__41_I : parseMethodDescriptor "(IILjava/util/function/BiFunction;)I" = some ⟨[.int, .int, (.object "java/util/function/BiFunction")], some .int⟩ := by decide +kernel
theorem pn_java_lang_String_checkIndex_5 : plainFor (⟨"java/lang/String", "checkIndex", "(II)V"⟩ : MethodName) = true := by first | exact plainFor_of_name (by first | (simp [plainName, overriddenIn]; done) | decide +kernel) | decide +kernel
def Q_rm5 (Z : State) (p0 : Int32) (p1 : Int32) (fv : Value) (h0 : Heap) (n0 : Nat) (v : Option Value) (h : Heap) (L : List Loc) : Prop := v = none ∧ Fr n0 L ∧ h = h0
set_option maxRecDepth 65536 in
set_option maxHeartbeats 4000000 in
theorem ef_rm5 (m : MethodId) (p0 : Int32) (p1 : Int32) : entryFrame m #[(.int p0), (.int p1)] 2 = mkF m 0 #[.val (.int p0), .val (.int p1)] [] := by first | (simp [entryFrame, mkF, argsToLocals, Value.category, maxLocals]; done) | rfl
theorem d5_0 : decode jdk_42_method_155_code 0 = .ok (.iload_n 0, 1) := by decide +kernel
theorem d5_1 : decode jdk_42_method_155_code 1 = .ok (.iload_n 1, 1) := by decide +kernel
theorem d5_2 : decode jdk_42_method_155_code 2 = .ok (.getstatic 1053, 3) := by decide +kernel
theorem d5_5 : decode jdk_42_method_155_code 5 = .ok (.invokestatic 1059, 3) := by decide +kernel
theorem d5_8 : decode jdk_42_method_155_code 8 = .ok (.pop, 1) := by decide +kernel
theorem d5_9 : decode jdk_42_method_155_code 9 = .ok (.return_, 1) := by decide +kernel
set_option maxRecDepth 65536 in
set_option maxHeartbeats 40000000 in
theorem rm5 (l : Launch) (Z : State) (a0 : Array Value) (hw : ∀ d ∈ tables_1, d.before a0 Z = true) (ws : List Jvm.Cond) (p0 : Int32) (p1 : Int32) (fv : Value) (h0 : Heap) (n0 : Nat) (Z0 : n0 ≤ h0.size) (F0 : Sta Z h0 "jdk/internal/util/Preconditions" "SIOOBE_FORMATTER" "Ljava/util/function/BiFunction;" fv) (h1 : ¬ p0 < 0) (h2 : p0 < p1) (hr_fv : fv.isRef = true) :
    MetFree l (⟨"java/lang/String", "checkIndex", "(II)V"⟩ : MethodName) (head1 (Jvm.Cond.code (⟨"java/lang/String", "checkIndex", "(II)V"⟩ : MethodName) jdk_42_method_155_code 2 none :: ws) ({ frames := 1, cells := 0, slots := 0, locals := 14 } : Room)) (fun a U => a = #[(.int p0), (.int p1)] ∧ Z.Warmed39 U.vm ∧ U.heap = h0) (fun _ _ _ _ _ => True) (fun _ U o U' => ∃ v L, o = .returned v ∧ Q_rm5 Z p0 p1 fv h0 n0 v U'.heap L ∧ FrameEnd U o U' L ({ frames := 1, cells := 0, slots := 0, locals := 14 } : Room).cells ({ frames := 1, cells := 0, slots := 0, locals := 14 } : Room).slots) := by
  refine body pn_java_lang_String_checkIndex_5 ?_
  intro p e s m below meth c s₁ hx hby hml hown hnm hret hlk hZ e0 X0
  replace hml : c.maxLocals = 2 := hml
  replace hown : s.vm.findClass "java/lang/String" = some m.cls := hown
  replace hnm : meth.name = "checkIndex" := hnm
  replace hret : meth.sig.returnType = none := hret
  have N0 := Fr.nil n0
  rw [ef_rm5]
  obtain ⟨G, hG⟩ : ∃ G, G = End (Q_rm5 Z p0 p1 fv h0 n0) s ({ frames := 1, cells := 0, slots := 0, locals := 14 } : Room).cells ({ frames := 1, cells := 0, slots := 0, locals := 14 } : Room).slots := ⟨_, rfl⟩
  rw [← hG]
  refine go (u' := s₁.setTop (mkF m 1 #[.val (.int p0), .val (.int p1)] [(.int p0)])) (fun _ ks_ => XS.iloadN X0.here hx rfl (hb hby d5_0) rfl  ks_) ?_
  refine go (u' := s₁.setTop (mkF m 2 #[.val (.int p0), .val (.int p1)] [(.int p1), (.int p0)])) (fun _ ks_ => XS.iloadN X0.here hx rfl (hb hby d5_1) rfl  ks_) ?_
  obtain ⟨T1, X1, e1, st1⟩ := getS2 X0 hx hZ hown (host := "") (Or.inl (ww hw 34 rfl)) Via.refl e0 F0 (g := (mkF m 2 #[.val (.int p0), .val (.int p1)] [(.int p1), (.int p0)])) rfl (hb hby d5_2)
  refine go (u' := T1.setTop (mkF m 5 #[.val (.int p0), .val (.int p1)] [fv, (.int p1), (.int p0)])) st1 ?_
  obtain ⟨_, _, ⟨T2, L2, k2, n2⟩, -, X2, ⟨Lc2, hQ2, l2, y2, z2⟩, st2⟩ := Jvm.LawKit.callS X1 hx (y := (⟨"jdk/internal/util/Preconditions", "checkIndex", "(IILjava/util/function/BiFunction;)I"⟩ : MethodName)) hown (mvT hZ (ww hw 36 rfl)) (mvT hZ (ww hw 37 rfl)) (mvT hZ (ww hw 35 rfl)) (mvT hZ (ww hw 38 rfl)) (by decide) (backOf (W := 0) (rm6 l Z a0 hw [] p0 p1 fv h0 n0 Z0 h1 h2 hr_fv) hZ (ww hw 38 rfl) (ww hw 35 rfl) (by decide) (by decide)) (g := (mkF m 5 #[.val (.int p0), .val (.int p1)] [fv, (.int p1), (.int p0)])) rfl (by rw [hml]; rfl) (argsL := [(.int p0), (.int p1), fv]) (rest := []) (lenOf pd__40_IILjava_47_util_47_function_47_BiFunction_59__41_I rfl) rfl (by show 2 * 0 + _ ≤ _; exact Nat.le_of_eq rfl) (hb hby d5_5) (fun _ _ => ⟨rfl, e1, (by decide : 0 + 0 ≤ _), (by decide : 0 + 0 ≤ _)⟩)
  dsimp only [Pt.U, Pt.locs, Pt.cells, Pt.slots] at X2 l2 y2 z2 st2 hQ2
  subst l2 y2 z2
  obtain ⟨rfl, N2q, eq2⟩ := hQ2
  have N2 := Fr.app N0 N2q
  refine go (u' := T2.setTop (mkF m 8 #[.val (.int p0), .val (.int p1)] [(.int p0)])) st2 ?_
  refine go (u' := T2.setTop (mkF m 9 #[.val (.int p0), .val (.int p1)] [])) (fun _ ks_ => XS.pop X2.here hx rfl (hb hby d5_8) rfl rfl ks_) ?_
  rw [hG]
  refine g0 X2 hx hlk hret (hb hby d5_9) ?_ (Nat.le_of_ble_eq_true rfl) (Nat.le_of_ble_eq_true rfl)
  show Q_rm5 Z p0 p1 fv h0 n0 (none) T2.heap _
  rw [eq2]
  exact ⟨rfl, N2, rfl⟩
theorem pd__40_II_41_V : parseMethodDescriptor "(II)V" = some ⟨[.int, .int], none⟩ := by decide +kernel
theorem pn_java_lang_StringLatin1_charAt_4 : plainFor (⟨"java/lang/StringLatin1", "charAt", "([BI)C"⟩ : MethodName) = true := by first | exact plainFor_of_name (by first | (simp [plainName, overriddenIn]; done) | decide +kernel) | decide +kernel
def Q_rm4 (Z : State) (o0 : Addr) (p1 : Int32) (n : Nat) (g : Nat → Int32) (fv : Value) (h0 : Heap) (n0 : Nat) (v : Option Value) (h : Heap) (L : List Loc) : Prop := v = some (.int (((g p1.toNatClampNeg) &&& (255 : Int32)).toUInt32.toUInt16.toUInt32.toInt32)) ∧ Fr n0 L ∧ h = h0
set_option maxRecDepth 65536 in
set_option maxHeartbeats 4000000 in
theorem ef_rm4 (m : MethodId) (o0 : Addr) (p1 : Int32) : entryFrame m #[(.ref o0), (.int p1)] 2 = mkF m 0 #[.val (.ref o0), .val (.int p1)] [] := by first | (simp [entryFrame, mkF, argsToLocals, Value.category, maxLocals]; done) | rfl
theorem d4_0 : decode jdk_43_method_2_code 0 = .ok (.iload_n 1, 1) := by decide +kernel
theorem d4_1 : decode jdk_43_method_2_code 1 = .ok (.aload_n 0, 1) := by decide +kernel
theorem d4_2 : decode jdk_43_method_2_code 2 = .ok (.arraylength, 1) := by decide +kernel
theorem d4_3 : decode jdk_43_method_2_code 3 = .ok (.invokestatic 9, 3) := by decide +kernel
theorem d4_6 : decode jdk_43_method_2_code 6 = .ok (.aload_n 0, 1) := by decide +kernel
theorem d4_7 : decode jdk_43_method_2_code 7 = .ok (.iload_n 1, 1) := by decide +kernel
theorem d4_8 : decode jdk_43_method_2_code 8 = .ok (.baload, 1) := by decide +kernel
theorem d4_9 : decode jdk_43_method_2_code 9 = .ok (.sipush 255, 3) := by decide +kernel
theorem d4_12 : decode jdk_43_method_2_code 12 = .ok (.iand, 1) := by decide +kernel
theorem d4_13 : decode jdk_43_method_2_code 13 = .ok (.i2c, 1) := by decide +kernel
theorem d4_14 : decode jdk_43_method_2_code 14 = .ok (.ireturn, 1) := by decide +kernel
set_option maxRecDepth 65536 in
set_option maxHeartbeats 40000000 in
theorem rm4 (l : Launch) (Z : State) (a0 : Array Value) (hw : ∀ d ∈ tables_1, d.before a0 Z = true) (ws : List Jvm.Cond) (o0 : Addr) (p1 : Int32) (n : Nat) (g : Nat → Int32) (fv : Value) (h0 : Heap) (n0 : Nat) (Z0 : n0 ≤ h0.size) (F0 : PI Z h0 o0 .byte n g) (F1 : Sta Z h0 "jdk/internal/util/Preconditions" "SIOOBE_FORMATTER" "Ljava/util/function/BiFunction;" fv) (h1 : ¬ p1 < 0) (h2 : p1.toNatClampNeg < n) (hr_fv : fv.isRef = true) :
    MetFree l (⟨"java/lang/StringLatin1", "charAt", "([BI)C"⟩ : MethodName) (head1 (Jvm.Cond.code (⟨"java/lang/StringLatin1", "charAt", "([BI)C"⟩ : MethodName) jdk_43_method_2_code 2 (some .char) :: ws) ({ frames := 2, cells := 0, slots := 0, locals := 27 } : Room)) (fun a U => a = #[(.ref o0), (.int p1)] ∧ Z.Warmed39 U.vm ∧ U.heap = h0) (fun _ _ _ _ _ => True) (fun _ U o U' => ∃ v L, o = .returned v ∧ Q_rm4 Z o0 p1 n g fv h0 n0 v U'.heap L ∧ FrameEnd U o U' L ({ frames := 2, cells := 0, slots := 0, locals := 27 } : Room).cells ({ frames := 2, cells := 0, slots := 0, locals := 27 } : Room).slots) := by
  refine body pn_java_lang_StringLatin1_charAt_4 ?_
  intro p e s m below meth c s₁ hx hby hml hown hnm hret hlk hZ e0 X0
  replace hml : c.maxLocals = 2 := hml
  replace hown : s.vm.findClass "java/lang/StringLatin1" = some m.cls := hown
  replace hnm : meth.name = "charAt" := hnm
  replace hret : meth.sig.returnType = (some .char) := hret
  have N0 := Fr.nil n0
  rw [ef_rm4]
  obtain ⟨G, hG⟩ : ∃ G, G = End (Q_rm4 Z o0 p1 n g fv h0 n0) s ({ frames := 2, cells := 0, slots := 0, locals := 27 } : Room).cells ({ frames := 2, cells := 0, slots := 0, locals := 27 } : Room).slots := ⟨_, rfl⟩
  rw [← hG]
  refine go (u' := s₁.setTop (mkF m 1 #[.val (.ref o0), .val (.int p1)] [(.int p1)])) (fun _ ks_ => XS.iloadN X0.here hx rfl (hb hby d4_0) rfl  ks_) ?_
  refine go (u' := s₁.setTop (mkF m 2 #[.val (.ref o0), .val (.int p1)] [(.ref o0), (.int p1)])) (fun _ ks_ => XS.aloadN X0.here hx rfl (hb hby d4_1) rfl rfl ks_) ?_
  refine go (u' := s₁.setTop (mkF m 3 #[.val (.ref o0), .val (.int p1)] [(.int n.toInt32), (.int p1)])) (own_alen X0 hx hZ e0 F0 (z := n.toInt32) rfl (f := (mkF m 2 #[.val (.ref o0), .val (.int p1)] [(.ref o0), (.int p1)])) rfl rfl (hb hby d4_2)) ?_
  obtain ⟨_, _, ⟨T1, L1, k1, n1⟩, -, X1, ⟨Lc1, hQ1, l1, y1, z1⟩, st1⟩ := Jvm.LawKit.callS X0 hx (y := (⟨"java/lang/String", "checkIndex", "(II)V"⟩ : MethodName)) hown (mvT hZ (ww hw 31 rfl)) (mvT hZ (ww hw 32 rfl)) (mvT hZ (ww hw 6 rfl)) (mvT hZ (ww hw 33 rfl)) (by decide) (backOf (W := 0) (rm5 l Z a0 hw [] p1 n.toInt32 fv h0 n0 Z0 F1 h1 (own_ltn F0.bound h1 h2) hr_fv) hZ (ww hw 33 rfl) (ww hw 6 rfl) (by decide) (by decide)) (g := (mkF m 3 #[.val (.ref o0), .val (.int p1)] [(.int n.toInt32), (.int p1)])) rfl (by rw [hml]; rfl) (argsL := [(.int p1), (.int n.toInt32)]) (rest := []) (lenOf pd__40_II_41_V rfl) rfl (by show 2 * 0 + _ ≤ _; exact Nat.le_of_eq rfl) (hb hby d4_3) (fun _ _ => ⟨rfl, e0, (by decide : 0 + 0 ≤ _), (by decide : 0 + 0 ≤ _)⟩)
  dsimp only [Pt.U, Pt.locs, Pt.cells, Pt.slots] at X1 l1 y1 z1 st1 hQ1
  subst l1 y1 z1
  obtain ⟨rfl, N1q, eq1⟩ := hQ1
  have N1 := Fr.app N0 N1q
  refine go (u' := T1.setTop (mkF m 6 #[.val (.ref o0), .val (.int p1)] [])) st1 ?_
  refine go (u' := T1.setTop (mkF m 7 #[.val (.ref o0), .val (.int p1)] [(.ref o0)])) (fun _ ks_ => XS.aloadN X1.here hx rfl (hb hby d4_6) rfl rfl ks_) ?_
  refine go (u' := T1.setTop (mkF m 8 #[.val (.ref o0), .val (.int p1)] [(.int p1), (.ref o0)])) (fun _ ks_ => XS.iloadN X1.here hx rfl (hb hby d4_7) rfl  ks_) ?_
  refine go (u' := T1.setTop (mkF m 9 #[.val (.ref o0), .val (.int p1)] [(.int (g p1.toNatClampNeg))])) (own_baloadB X1 hx hZ eq1 F0 (j := p1) (v := (g p1.toNatClampNeg)) h1 h2 rfl (f := (mkF m 8 #[.val (.ref o0), .val (.int p1)] [(.int p1), (.ref o0)])) rfl rfl (hb hby d4_8)) ?_
  refine go (u' := T1.setTop (mkF m 12 #[.val (.ref o0), .val (.int p1)] [(.int (255 : Int32)), (.int (g p1.toNatClampNeg))])) (fun _ ks_ => XS.sipush X1.here hx rfl (hb hby d4_9) ks_) ?_
  refine go (u' := T1.setTop (mkF m 13 #[.val (.ref o0), .val (.int p1)] [(.int ((g p1.toNatClampNeg) &&& (255 : Int32)))])) (fun _ ks_ => XS.iand X1.here hx rfl (hb hby d4_12) rfl ks_) ?_
  refine go (u' := T1.setTop (mkF m 14 #[.val (.ref o0), .val (.int p1)] [(.int (((g p1.toNatClampNeg) &&& (255 : Int32)).toUInt32.toUInt16.toUInt32.toInt32))])) (fun _ ks_ => XS.i2c X1.here hx rfl (hb hby d4_13) rfl ks_) ?_
  rw [hG]
  refine gN X1 hx hlk (t := .char) hret (by simp) (own_narc _) (hb hby d4_14) ?_ (Nat.le_of_ble_eq_true rfl) (Nat.le_of_ble_eq_true rfl)
  show Q_rm4 Z o0 p1 n g fv h0 n0 (some (.int (((g p1.toNatClampNeg) &&& (255 : Int32)).toUInt32.toUInt16.toUInt32.toInt32))) T1.heap _
  rw [eq1]
  exact ⟨rfl, N1, rfl⟩
theorem pn_java_lang_String_isLatin1_3 : plainFor (⟨"java/lang/String", "isLatin1", "()Z"⟩ : MethodName) = true := by first | exact plainFor_of_name (by first | (simp [plainName, overriddenIn]; done) | decide +kernel) | decide +kernel
def Q_rm3 (Z : State) (o0 : Addr) (cs : Int32) (h0 : Heap) (n0 : Nat) (v : Option Value) (h : Heap) (L : List Loc) : Prop := v = some (.int (1 : Int32)) ∧ Fr n0 L ∧ h = h0
set_option maxRecDepth 65536 in
set_option maxHeartbeats 4000000 in
theorem ef_rm3 (m : MethodId) (o0 : Addr) : entryFrame m #[(.ref o0)] 1 = mkF m 0 #[.val (.ref o0)] [] := by first | (simp [entryFrame, mkF, argsToLocals, Value.category, maxLocals]; done) | rfl
theorem d3_0 : decode jdk_42_method_154_code 0 = .ok (.getstatic 38, 3) := by decide +kernel
theorem d3_3 : decode jdk_42_method_154_code 3 = .ok (.ifCond .eq 14, 3) := by decide +kernel
theorem d3_6 : decode jdk_42_method_154_code 6 = .ok (.aload_n 0, 1) := by decide +kernel
theorem d3_7 : decode jdk_42_method_154_code 7 = .ok (.getfield 15, 3) := by decide +kernel
theorem d3_10 : decode jdk_42_method_154_code 10 = .ok (.ifCond .ne 7, 3) := by decide +kernel
theorem d3_13 : decode jdk_42_method_154_code 13 = .ok (.iconst 1, 1) := by decide +kernel
theorem d3_14 : decode jdk_42_method_154_code 14 = .ok (.goto 4, 3) := by decide +kernel
theorem d3_18 : decode jdk_42_method_154_code 18 = .ok (.ireturn, 1) := by decide +kernel
set_option maxRecDepth 65536 in
set_option maxHeartbeats 40000000 in
theorem rm3 (l : Launch) (Z : State) (a0 : Array Value) (hw : ∀ d ∈ tables_1, d.before a0 Z = true) (ws : List Jvm.Cond) (o0 : Addr) (cs : Int32) (h0 : Heap) (n0 : Nat) (Z0 : n0 ≤ h0.size) (F0 : Fld Z h0 o0 "java/lang/String" "coder" "B" (.int (0 : Int32))) (F1 : Sta Z h0 "java/lang/String" "COMPACT_STRINGS" "Z" (.int cs)) (hcs : ¬ cs = (0 : Int32)) :
    MetFree l (⟨"java/lang/String", "isLatin1", "()Z"⟩ : MethodName) (head1 (Jvm.Cond.code (⟨"java/lang/String", "isLatin1", "()Z"⟩ : MethodName) jdk_42_method_154_code 1 (some .boolean) :: ws) ({ frames := 0, cells := 0, slots := 0, locals := 0 } : Room)) (fun a U => a = #[(.ref o0)] ∧ Z.Warmed39 U.vm ∧ U.heap = h0) (fun _ _ _ _ _ => True) (fun _ U o U' => ∃ v L, o = .returned v ∧ Q_rm3 Z o0 cs h0 n0 v U'.heap L ∧ FrameEnd U o U' L ({ frames := 0, cells := 0, slots := 0, locals := 0 } : Room).cells ({ frames := 0, cells := 0, slots := 0, locals := 0 } : Room).slots) := by
  refine body pn_java_lang_String_isLatin1_3 ?_
  intro p e s m below meth c s₁ hx hby hml hown hnm hret hlk hZ e0 X0
  replace hml : c.maxLocals = 1 := hml
  replace hown : s.vm.findClass "java/lang/String" = some m.cls := hown
  replace hnm : meth.name = "isLatin1" := hnm
  replace hret : meth.sig.returnType = (some .boolean) := hret
  have N0 := Fr.nil n0
  rw [ef_rm3]
  obtain ⟨G, hG⟩ : ∃ G, G = End (Q_rm3 Z o0 cs h0 n0) s ({ frames := 0, cells := 0, slots := 0, locals := 0 } : Room).cells ({ frames := 0, cells := 0, slots := 0, locals := 0 } : Room).slots := ⟨_, rfl⟩
  rw [← hG]
  obtain ⟨T1, X1, e1, st1⟩ := getS2 X0 hx hZ hown (host := "") (Or.inl (ww hw 24 rfl)) Via.refl e0 F1 (g := (mkF m 0 #[.val (.ref o0)] [])) rfl (hb hby d3_0)
  refine go (u' := T1.setTop (mkF m 3 #[.val (.ref o0)] [(.int cs)])) st1 ?_
  refine go (u' := T1.setTop (mkF m 6 #[.val (.ref o0)] [])) (fun _ ks_ => XS.ifNo X1.here hx rfl (hb hby d3_3) rfl ((if0 _ _).trans (feq hcs).1) ks_) ?_
  refine go (u' := T1.setTop (mkF m 7 #[.val (.ref o0)] [(.ref o0)])) (fun _ ks_ => XS.aloadN X1.here hx rfl (hb hby d3_6) rfl rfl ks_) ?_
  obtain ⟨T2, X2, e2, st2⟩ := getF X1 hx hZ hown (host := "") (Or.inl (ww hw 25 rfl)) Via.refl e1 F0 (g := (mkF m 7 #[.val (.ref o0)] [(.ref o0)])) rfl rfl (hb hby d3_7)
  refine go (u' := T2.setTop (mkF m 10 #[.val (.ref o0)] [(.int (0 : Int32))])) st2 ?_
  refine go (u' := T2.setTop (mkF m 13 #[.val (.ref o0)] [])) (fun _ ks_ => XS.ifNo X2.here hx rfl (hb hby d3_10) rfl ((if0 _ _).trans (teq (show (0 : Int32) = (0 : Int32) from (by decide))).2) ks_) ?_
  refine go (u' := T2.setTop (mkF m 14 #[.val (.ref o0)] [(.int (1 : Int32))])) (fun _ ks_ => XS.iconst X2.here hx rfl (hb hby d3_13) ks_) ?_
  refine go (u' := T2.setTop (mkF m 18 #[.val (.ref o0)] [(.int (1 : Int32))])) (fun _ ks_ => XS.goto X2.here hx rfl (pc0 := 14) (pc' := 18) rfl (hb hby d3_14) (by decide) (by decide) ks_) ?_
  rw [hG]
  refine gN X2 hx hlk (t := .boolean) hret (by simp) rfl (hb hby d3_18) ?_ (Nat.le_of_ble_eq_true rfl) (Nat.le_of_ble_eq_true rfl)
  show Q_rm3 Z o0 cs h0 n0 (some (.int (1 : Int32))) T2.heap _
  rw [e2]
  exact ⟨rfl, N0, rfl⟩
theorem pd__40__41_Z : parseMethodDescriptor "()Z" = some ⟨[], some .boolean⟩ := by decide +kernel
theorem pd__40__91_BI_41_C : parseMethodDescriptor "([BI)C" = some ⟨[(.array .byte), .int], some .char⟩ := by decide +kernel
theorem pn_java_lang_String_charAt_2 : plainFor (⟨"java/lang/String", "charAt", "(I)C"⟩ : MethodName) = true := by first | exact plainFor_of_name (by first | (simp [plainName, overriddenIn]; done) | decide +kernel) | decide +kernel
def Q_rm2 (Z : State) (o0 : Addr) (p1 : Int32) (vb : Addr) (n : Nat) (g : Nat → Int32) (cs : Int32) (fv : Value) (h0 : Heap) (n0 : Nat) (v : Option Value) (h : Heap) (L : List Loc) : Prop := v = some (.int (((g p1.toNatClampNeg) &&& (255 : Int32)).toUInt32.toUInt16.toUInt32.toInt32)) ∧ Fr n0 L ∧ h = h0
set_option maxRecDepth 65536 in
set_option maxHeartbeats 4000000 in
theorem ef_rm2 (m : MethodId) (o0 : Addr) (p1 : Int32) : entryFrame m #[(.ref o0), (.int p1)] 2 = mkF m 0 #[.val (.ref o0), .val (.int p1)] [] := by first | (simp [entryFrame, mkF, argsToLocals, Value.category, maxLocals]; done) | rfl
theorem d2_0 : decode jdk_42_method_56_code 0 = .ok (.aload_n 0, 1) := by decide +kernel
theorem d2_1 : decode jdk_42_method_56_code 1 = .ok (.invokevirtual 492, 3) := by decide +kernel
theorem d2_4 : decode jdk_42_method_56_code 4 = .ok (.ifCond .eq 12, 3) := by decide +kernel
theorem d2_7 : decode jdk_42_method_56_code 7 = .ok (.aload_n 0, 1) := by decide +kernel
theorem d2_8 : decode jdk_42_method_56_code 8 = .ok (.getfield 9, 3) := by decide +kernel
theorem d2_11 : decode jdk_42_method_56_code 11 = .ok (.iload_n 1, 1) := by decide +kernel
theorem d2_12 : decode jdk_42_method_56_code 12 = .ok (.invokestatic 495, 3) := by decide +kernel
theorem d2_15 : decode jdk_42_method_56_code 15 = .ok (.ireturn, 1) := by decide +kernel
set_option maxRecDepth 65536 in
set_option maxHeartbeats 40000000 in
theorem rm2 (l : Launch) (Z : State) (a0 : Array Value) (hw : ∀ d ∈ tables_1, d.before a0 Z = true) (ws : List Jvm.Cond) (o0 : Addr) (p1 : Int32) (vb : Addr) (n : Nat) (g : Nat → Int32) (cs : Int32) (fv : Value) (h0 : Heap) (n0 : Nat) (Z0 : n0 ≤ h0.size) (F0 : Exa Z h0 o0 "java/lang/String") (F1 : Fld Z h0 o0 "java/lang/String" "coder" "B" (.int (0 : Int32))) (F2 : Fld Z h0 o0 "java/lang/String" "value" "[B" (.ref vb)) (F3 : PI Z h0 vb .byte n g) (F4 : Sta Z h0 "java/lang/String" "COMPACT_STRINGS" "Z" (.int cs)) (F5 : Sta Z h0 "jdk/internal/util/Preconditions" "SIOOBE_FORMATTER" "Ljava/util/function/BiFunction;" fv) (h1 : ¬ p1 < 0) (h2 : p1.toNatClampNeg < n) (hr_fv : fv.isRef = true) (hcs : ¬ cs = (0 : Int32)) :
    MetFree l (⟨"java/lang/String", "charAt", "(I)C"⟩ : MethodName) (head1 (Jvm.Cond.code (⟨"java/lang/String", "charAt", "(I)C"⟩ : MethodName) jdk_42_method_56_code 2 (some .char) :: ws) ({ frames := 3, cells := 0, slots := 0, locals := 40 } : Room)) (fun a U => a = #[(.ref o0), (.int p1)] ∧ Z.Warmed39 U.vm ∧ U.heap = h0) (fun _ _ _ _ _ => True) (fun _ U o U' => ∃ v L, o = .returned v ∧ Q_rm2 Z o0 p1 vb n g cs fv h0 n0 v U'.heap L ∧ FrameEnd U o U' L ({ frames := 3, cells := 0, slots := 0, locals := 40 } : Room).cells ({ frames := 3, cells := 0, slots := 0, locals := 40 } : Room).slots) := by
  refine body pn_java_lang_String_charAt_2 ?_
  intro p e s m below meth c s₁ hx hby hml hown hnm hret hlk hZ e0 X0
  replace hml : c.maxLocals = 2 := hml
  replace hown : s.vm.findClass "java/lang/String" = some m.cls := hown
  replace hnm : meth.name = "charAt" := hnm
  replace hret : meth.sig.returnType = (some .char) := hret
  have N0 := Fr.nil n0
  rw [ef_rm2]
  obtain ⟨G, hG⟩ : ∃ G, G = End (Q_rm2 Z o0 p1 vb n g cs fv h0 n0) s ({ frames := 3, cells := 0, slots := 0, locals := 40 } : Room).cells ({ frames := 3, cells := 0, slots := 0, locals := 40 } : Room).slots := ⟨_, rfl⟩
  rw [← hG]
  refine go (u' := s₁.setTop (mkF m 1 #[.val (.ref o0), .val (.int p1)] [(.ref o0)])) (fun _ ks_ => XS.aloadN X0.here hx rfl (hb hby d2_0) rfl rfl ks_) ?_
  obtain ⟨cq1, kq1, q1a, q1b, q1c⟩ := isOf hZ e0 F0
  obtain ⟨_, _, ⟨T1, L1, k1, n1⟩, -, X1, ⟨Lc1, hQ1, l1, y1, z1⟩, st1⟩ := X0.virtualBack hx (y := (⟨"java/lang/String", "isLatin1", "()Z"⟩ : MethodName)) (z := (⟨"java/lang/String", "isLatin1", "()Z"⟩ : MethodName)) hown (mvT hZ (ww hw 19 rfl)) (mvT hZ (ww hw 20 rfl)) (notFace_of_selects (args := #[]) (mvT hZ (ww hw 22 rfl))) (mvT hZ (ww hw 22 rfl)) (mvT hZ (ww hw 21 rfl)) (by decide) (backOf (W := 0) (rm3 l Z a0 hw [] o0 cs h0 n0 Z0 F1 F4 hcs) hZ (ww hw 23 rfl) (ww hw 6 rfl) (by decide) (by decide)) q1a q1c (g := (mkF m 1 #[.val (.ref o0), .val (.int p1)] [(.ref o0)])) rfl (by rw [hml]; rfl) (Steps.refl _) (argsL := []) (rest := []) (lenOf pd__40__41_Z rfl) rfl (by show 2 * 0 + _ ≤ _; exact Nat.le_of_eq rfl) (hb hby d2_1) (fun _ _ => ⟨rfl, e0, (by decide : 0 + 0 ≤ _), (by decide : 0 + 0 ≤ _)⟩)
  dsimp only [Pt.U, Pt.locs, Pt.cells, Pt.slots] at X1 l1 y1 z1 st1 hQ1
  subst l1 y1 z1
  obtain ⟨rfl, N1q, eq1⟩ := hQ1
  have N1 := Fr.app N0 N1q
  refine goT (u' := T1.setTop (mkF m 4 #[.val (.ref o0), .val (.int p1)] [(.int (1 : Int32))])) st1 ?_
  refine go (u' := T1.setTop (mkF m 7 #[.val (.ref o0), .val (.int p1)] [])) (fun _ ks_ => XS.ifNo X1.here hx rfl (hb hby d2_4) rfl ((if0 _ _).trans (feq (show ¬ ((1 : Int32) = (0 : Int32)) from (by decide))).1) ks_) ?_
  refine go (u' := T1.setTop (mkF m 8 #[.val (.ref o0), .val (.int p1)] [(.ref o0)])) (fun _ ks_ => XS.aloadN X1.here hx rfl (hb hby d2_7) rfl rfl ks_) ?_
  obtain ⟨T2, X2, e2, st2⟩ := getF X1 hx hZ hown (host := "") (Or.inl (ww hw 26 rfl)) Via.refl eq1 F2 (g := (mkF m 8 #[.val (.ref o0), .val (.int p1)] [(.ref o0)])) rfl rfl (hb hby d2_8)
  refine go (u' := T2.setTop (mkF m 11 #[.val (.ref o0), .val (.int p1)] [(.ref vb)])) st2 ?_
  refine go (u' := T2.setTop (mkF m 12 #[.val (.ref o0), .val (.int p1)] [(.int p1), (.ref vb)])) (fun _ ks_ => XS.iloadN X2.here hx rfl (hb hby d2_11) rfl  ks_) ?_
  obtain ⟨_, _, ⟨T3, L3, k3, n3⟩, -, X3, ⟨Lc3, hQ3, l3, y3, z3⟩, st3⟩ := Jvm.LawKit.callS X2 hx (y := (⟨"java/lang/StringLatin1", "charAt", "([BI)C"⟩ : MethodName)) hown (mvT hZ (ww hw 27 rfl)) (mvT hZ (ww hw 28 rfl)) (mvT hZ (ww hw 29 rfl)) (mvT hZ (ww hw 30 rfl)) (by decide) (backOf (W := 0) (rm4 l Z a0 hw [] vb p1 n g fv h0 n0 Z0 F3 F5 h1 h2 hr_fv) hZ (ww hw 30 rfl) (ww hw 29 rfl) (by decide) (by decide)) (g := (mkF m 12 #[.val (.ref o0), .val (.int p1)] [(.int p1), (.ref vb)])) rfl (by rw [hml]; rfl) (argsL := [(.ref vb), (.int p1)]) (rest := []) (lenOf pd__40__91_BI_41_C rfl) rfl (by show 2 * 0 + _ ≤ _; exact Nat.le_of_eq rfl) (hb hby d2_12) (fun _ _ => ⟨rfl, e2, (by decide : 0 + 0 ≤ _), (by decide : 0 + 0 ≤ _)⟩)
  dsimp only [Pt.U, Pt.locs, Pt.cells, Pt.slots] at X3 l3 y3 z3 st3 hQ3
  subst l3 y3 z3
  obtain ⟨rfl, N3q, eq3⟩ := hQ3
  have N3 := Fr.app N1 N3q
  refine go (u' := T3.setTop (mkF m 15 #[.val (.ref o0), .val (.int p1)] [(.int (((g p1.toNatClampNeg) &&& (255 : Int32)).toUInt32.toUInt16.toUInt32.toInt32))])) st3 ?_
  rw [hG]
  refine gN X3 hx hlk (t := .char) hret (by simp) (own_narc _) (hb hby d2_15) ?_ (Nat.le_of_ble_eq_true rfl) (Nat.le_of_ble_eq_true rfl)
  show Q_rm2 Z o0 p1 vb n g cs fv h0 n0 (some (.int (((g p1.toNatClampNeg) &&& (255 : Int32)).toUInt32.toUInt16.toUInt32.toInt32))) T3.heap _
  rw [eq3]
  exact ⟨rfl, N3, rfl⟩
theorem own_vb (p1 vv : Int32) (h : vv = (p1 &&& (15 : Int32))) : ¬ vv < 0 ∧ vv.toNatClampNeg < 16 := by
  have b1 := c_mask p1 15 4 (by decide) (by decide)
  rw [← h] at b1
  exact ⟨own_nn (by omega), own_lt (by omega) (by omega)⟩
theorem own_of {k : Int32} {n : Nat} (h : 0 ≤ k.toInt ∧ k.toInt < n) (hn : n < 2 ^ 31) : ∃ i : Fin n, k = Int32.ofNat i.val := by
  have := own_cl h.1
  refine ⟨⟨k.toNatClampNeg, by omega⟩, ?_⟩
  apply Int32.toInt_inj.mp
  rw [Int32.toInt_ofNat_of_lt (by show k.toNatClampNeg < _; omega)]
  show k.toInt = (k.toNatClampNeg : Int)
  omega
theorem own_du : ∀ v : Fin 16, (own_hex ((((own_l [(48 : Int32), (49 : Int32), (50 : Int32), (51 : Int32), (52 : Int32), (53 : Int32), (54 : Int32), (55 : Int32), (56 : Int32), (57 : Int32), (65 : Int32), (66 : Int32), (67 : Int32), (68 : Int32), (69 : Int32), (70 : Int32)]) (Int32.ofNat v.val).toNatClampNeg) &&& (255 : Int32)).toUInt32.toUInt16.toUInt32.toInt32)) = Int32.ofNat v.val := by decide +kernel
theorem own_dl : ∀ v : Fin 16, (own_hex ((((own_l [(48 : Int32), (49 : Int32), (50 : Int32), (51 : Int32), (52 : Int32), (53 : Int32), (54 : Int32), (55 : Int32), (56 : Int32), (57 : Int32), (97 : Int32), (98 : Int32), (99 : Int32), (100 : Int32), (101 : Int32), (102 : Int32)]) (Int32.ofNat v.val).toNatClampNeg) &&& (255 : Int32)).toUInt32.toUInt16.toUInt32.toInt32)) = Int32.ofNat v.val := by decide +kernel
theorem own_up (p1 vv : Int32) (h : vv = (p1 &&& (15 : Int32))) : (own_hex ((((own_l [(48 : Int32), (49 : Int32), (50 : Int32), (51 : Int32), (52 : Int32), (53 : Int32), (54 : Int32), (55 : Int32), (56 : Int32), (57 : Int32), (65 : Int32), (66 : Int32), (67 : Int32), (68 : Int32), (69 : Int32), (70 : Int32)]) vv.toNatClampNeg) &&& (255 : Int32)).toUInt32.toUInt16.toUInt32.toInt32)) = vv := by
  have b1 := c_mask p1 15 4 (by decide) (by decide)
  rw [← h] at b1
  obtain ⟨v, hv⟩ := own_of (k := vv) (n := 16) (by omega) (by decide)
  rw [hv]; exact own_du v
theorem own_lo (p1 vv : Int32) (h : vv = (p1 &&& (15 : Int32))) : (own_hex ((((own_l [(48 : Int32), (49 : Int32), (50 : Int32), (51 : Int32), (52 : Int32), (53 : Int32), (54 : Int32), (55 : Int32), (56 : Int32), (57 : Int32), (97 : Int32), (98 : Int32), (99 : Int32), (100 : Int32), (101 : Int32), (102 : Int32)]) vv.toNatClampNeg) &&& (255 : Int32)).toUInt32.toUInt16.toUInt32.toInt32)) = vv := by
  have b1 := c_mask p1 15 4 (by decide) (by decide)
  rw [← h] at b1
  obtain ⟨v, hv⟩ := own_of (k := vv) (n := 16) (by omega) (by decide)
  rw [hv]; exact own_dl v
theorem own_d128 : ∀ c : Fin 128, (fun ch : Int32 => own_hex ch = (if ch < (48 : Int32) then (if ch < (65 : Int32) then (if ch < (97 : Int32) then (-1 : Int32) else (if (102 : Int32) < ch then (-1 : Int32) else (ch - (87 : Int32)))) else (if (70 : Int32) < ch then (if ch < (97 : Int32) then (-1 : Int32) else (if (102 : Int32) < ch then (-1 : Int32) else (ch - (87 : Int32)))) else (ch - (55 : Int32)))) else (if (57 : Int32) < ch then (if ch < (65 : Int32) then (if ch < (97 : Int32) then (-1 : Int32) else (if (102 : Int32) < ch then (-1 : Int32) else (ch - (87 : Int32)))) else (if (70 : Int32) < ch then (if ch < (97 : Int32) then (-1 : Int32) else (if (102 : Int32) < ch then (-1 : Int32) else (ch - (87 : Int32)))) else (ch - (55 : Int32)))) else (ch - (48 : Int32))))) (Int32.ofNat c.val) := by decide +kernel
theorem own_first (p0 ch ex : Int32) (hch : ch = (((p0 &&& (65535 : Int32)).toUInt32.toUInt16.toUInt32.toInt32))) (hex : ex = (if ch < (48 : Int32) then (if ch < (65 : Int32) then (if ch < (97 : Int32) then (-1 : Int32) else (if (102 : Int32) < ch then (-1 : Int32) else (ch - (87 : Int32)))) else (if (70 : Int32) < ch then (if ch < (97 : Int32) then (-1 : Int32) else (if (102 : Int32) < ch then (-1 : Int32) else (ch - (87 : Int32)))) else (ch - (55 : Int32)))) else (if (57 : Int32) < ch then (if ch < (65 : Int32) then (if ch < (97 : Int32) then (-1 : Int32) else (if (102 : Int32) < ch then (-1 : Int32) else (ch - (87 : Int32)))) else (if (70 : Int32) < ch then (if ch < (97 : Int32) then (-1 : Int32) else (if (102 : Int32) < ch then (-1 : Int32) else (ch - (87 : Int32)))) else (ch - (55 : Int32)))) else (ch - (48 : Int32))))) : own_hex ch = ex := by
  subst hex
  have r := c_i2c (p0 &&& (65535 : Int32))
  rw [← hch] at r
  clear hch
  by_cases q : ch.toInt < 128
  · obtain ⟨c, hc⟩ := own_of (k := ch) (n := 128) (by omega) (by decide)
    have := own_d128 c
    simp only [← hc] at this
    exact this
  · have q0 : ¬ ch < (48 : Int32) := by rw [Int32.lt_iff_toInt_lt]; have : (48 : Int32).toInt = 48 := rfl; omega
    have q1 : (57 : Int32) < ch := by rw [Int32.lt_iff_toInt_lt]; have : (57 : Int32).toInt = 57 := rfl; omega
    have q2 : ¬ ch < (65 : Int32) := by rw [Int32.lt_iff_toInt_lt]; have : (65 : Int32).toInt = 65 := rfl; omega
    have q3 : (70 : Int32) < ch := by rw [Int32.lt_iff_toInt_lt]; have : (70 : Int32).toInt = 70 := rfl; omega
    have q4 : ¬ ch < (97 : Int32) := by rw [Int32.lt_iff_toInt_lt]; have : (97 : Int32).toInt = 97 := rfl; omega
    have q5 : (102 : Int32) < ch := by rw [Int32.lt_iff_toInt_lt]; have : (102 : Int32).toInt = 102 := rfl; omega
    simp [own_hex, q0, q1, q2, q3, q4, q5]
theorem pd__40_C_41_I : parseMethodDescriptor "(C)I" = some ⟨[.char], some .int⟩ := by decide +kernel
theorem pd__40_I_41_C : parseMethodDescriptor "(I)C" = some ⟨[.int], some .char⟩ := by decide +kernel
theorem pn_com_example_locattr_locattr_UriReferencesHexValuePinLaw_law_0 : plainFor x = true := by first | exact plainFor_of_name (by first | (simp [plainName, overriddenIn]; done) | decide +kernel) | decide +kernel
def Q_rm0 (Z : State) (p0 : Int32) (p1 : Int32) (cs : Int32) (fv : Value) (h0 : Heap) (n0 : Nat) (v : Option Value) (h : Heap) (L : List Loc) : Prop := v = some (.int (1 : Int32)) ∧ Fr n0 L
set_option maxRecDepth 65536 in
set_option maxHeartbeats 4000000 in
theorem ef_rm0 (m : MethodId) (p0 : Int32) (p1 : Int32) : entryFrame m #[(.int p0), (.int p1)] maxLocals = mkF m 0 #[.val (.int p0), .val (.int p1), .unset, .unset, .unset, .unset, .unset] [] := by first | (simp [entryFrame, mkF, argsToLocals, Value.category, maxLocals]; done) | rfl
set_option maxRecDepth 65536 in
set_option maxHeartbeats 40000000 in
theorem rm0 (l : Launch) (Z : State) (a0 : Array Value) (hw : ∀ d ∈ tables_1, d.before a0 Z = true) (ws : List Jvm.Cond) (p0 : Int32) (p1 : Int32) (cs : Int32) (fv : Value) (h0 : Heap) (n0 : Nat) (Z0 : n0 ≤ h0.size) (F0 : Sta Z h0 "java/lang/String" "COMPACT_STRINGS" "Z" (.int cs)) (F1 : Sta Z h0 "jdk/internal/util/Preconditions" "SIOOBE_FORMATTER" "Ljava/util/function/BiFunction;" fv) (hcs : ¬ cs = (0 : Int32)) (hr_fv : fv.isRef = true) (hZh : Z.heap = h0) (hh14 : Jvm.Lit.constHeld Z "com/example/locattr/locattr/UriReferencesHexValuePinLaw" 14) (hh16 : Jvm.Lit.constHeld Z "com/example/locattr/locattr/UriReferencesHexValuePinLaw" 16) (hcw : Jvm.Lit.compactW.before a0 Z = true) (hn0 : n0 = h0.size) :
    MetFree l x (head1 (Jvm.Cond.code x code maxLocals ret :: ws) room_1) (fun a U => a = #[(.int p0), (.int p1)] ∧ Z.Warmed39 U.vm ∧ U.heap = h0 ∧ U.vm.interned = Z.vm.interned) (fun _ _ _ _ _ => True) (fun _ U o U' => ∃ v L, o = .returned v ∧ Q_rm0 Z p0 p1 cs fv h0 n0 v U'.heap L ∧ ReturnedEndW U o U' L room_1.cells room_1.slots) := by
  refine bodyW pn_com_example_locattr_locattr_UriReferencesHexValuePinLaw_law_0 ?_
  intro p e s m below meth c s₁ hx hby hml hown hnm hret hlk hZ e0 X0 hsh hsi
  replace hml : c.maxLocals = 7 := hml
  replace hown : s.vm.findClass "com/example/locattr/locattr/UriReferencesHexValuePinLaw" = some m.cls := hown
  replace hnm : meth.name = "law" := hnm
  replace hret : meth.sig.returnType = (some .boolean) := hret
  have N0 := Fr.nil n0
  rw [ef_rm0]
  obtain ⟨G, hG⟩ : ∃ G, G = EndW (Q_rm0 Z p0 p1 cs fv h0 n0) s room_1.cells room_1.slots := ⟨_, rfl⟩
  rw [← hG]
  refine go (u' := s₁.setTop (mkF m 1 #[.val (.int p0), .val (.int p1), .unset, .unset, .unset, .unset, .unset] [(.int p0)])) (fun _ ks_ => XS.iloadN X0.here hx rfl (hb hby at_0) rfl  ks_) ?_
  refine go (u' := s₁.setTop (mkF m 3 #[.val (.int p0), .val (.int p1), .unset, .unset, .unset, .unset, .unset] [(.int (65535 : Int32)), (.int p0)])) (X0.ldcInt hx hown (mvT hZ (ww hw 0 rfl)) (g := (mkF m 1 #[.val (.int p0), .val (.int p1), .unset, .unset, .unset, .unset, .unset] [(.int p0)])) rfl (hb hby at_1)) ?_
  refine go (u' := s₁.setTop (mkF m 4 #[.val (.int p0), .val (.int p1), .unset, .unset, .unset, .unset, .unset] [(.int (p0 &&& (65535 : Int32)))])) (fun _ ks_ => XS.iand X0.here hx rfl (hb hby at_3) rfl ks_) ?_
  refine go (u' := s₁.setTop (mkF m 5 #[.val (.int p0), .val (.int p1), .unset, .unset, .unset, .unset, .unset] [(.int ((p0 &&& (65535 : Int32)).toUInt32.toUInt16.toUInt32.toInt32))])) (fun _ ks_ => XS.i2c X0.here hx rfl (hb hby at_4) rfl ks_) ?_
  refine go (u' := s₁.setTop (mkF m 6 #[.val (.int p0), .val (.int p1), .val (.int ((p0 &&& (65535 : Int32)).toUInt32.toUInt16.toUInt32.toInt32)), .unset, .unset, .unset, .unset] [])) (fun _ ks_ => XS.istoreN X0.here hx rfl (hb hby at_5) rfl  (l' := #[.val (.int p0), .val (.int p1), .val (.int ((p0 &&& (65535 : Int32)).toUInt32.toUInt16.toUInt32.toInt32)), .unset, .unset, .unset, .unset]) rfl ks_) ?_
  obtain ⟨ch, hch⟩ : ∃ z, z = ((p0 &&& (65535 : Int32)).toUInt32.toUInt16.toUInt32.toInt32) := ⟨_, rfl⟩
  rw [← hch]
  refine go (u' := s₁.setTop (mkF m 7 #[.val (.int p0), .val (.int p1), .val (.int ch), .unset, .unset, .unset, .unset] [(.int ch)])) (fun _ ks_ => XS.iloadN X0.here hx rfl (hb hby at_6) rfl  ks_) ?_
  refine go (u' := s₁.setTop (mkF m 9 #[.val (.int p0), .val (.int p1), .val (.int ch), .unset, .unset, .unset, .unset] [(.int (48 : Int32)), (.int ch)])) (fun _ ks_ => XS.bipush X0.here hx rfl (hb hby at_7) ks_) ?_
  have J68_1 : ∀ ex : Int32, ex = (if ch < (48 : Int32) then (if ch < (65 : Int32) then (if ch < (97 : Int32) then (-1 : Int32) else (if (102 : Int32) < ch then (-1 : Int32) else (ch - (87 : Int32)))) else (if (70 : Int32) < ch then (if ch < (97 : Int32) then (-1 : Int32) else (if (102 : Int32) < ch then (-1 : Int32) else (ch - (87 : Int32)))) else (ch - (55 : Int32)))) else (if (57 : Int32) < ch then (if ch < (65 : Int32) then (if ch < (97 : Int32) then (-1 : Int32) else (if (102 : Int32) < ch then (-1 : Int32) else (ch - (87 : Int32)))) else (if (70 : Int32) < ch then (if ch < (97 : Int32) then (-1 : Int32) else (if (102 : Int32) < ch then (-1 : Int32) else (ch - (87 : Int32)))) else (ch - (55 : Int32)))) else (ch - (48 : Int32)))) → Go p.tables e below G (s₁.setTop (mkF m 68 #[.val (.int p0), .val (.int p1), .val (.int ch), .val (.int ex), .unset, .unset, .unset] [])) := by
    intro ex hex
    refine go (u' := s₁.setTop (mkF m 69 #[.val (.int p0), .val (.int p1), .val (.int ch), .val (.int ex), .unset, .unset, .unset] [(.int ch)])) (fun _ ks_ => XS.iloadN X0.here hx rfl (hb hby at_68) rfl  ks_) ?_
    obtain ⟨_, _, ⟨T1, L1, k1, n1⟩, -, X1, ⟨Lc1, hQ1, l1, y1, z1⟩, st1⟩ := Jvm.LawKit.callS X0 hx (y := (⟨"com/example/locattr/locattr/UriReferences", "hexValue", "(C)I"⟩ : MethodName)) hown (mvT hZ (ww hw 1 rfl)) (mvT hZ (ww hw 2 rfl)) (mvT hZ (ww hw 3 rfl)) (mvT hZ (ww hw 4 rfl)) (by decide) (backOf (W := 0) (rm1 l Z a0 hw [] ch h0 n0 Z0) hZ (ww hw 4 rfl) (ww hw 3 rfl) (by decide) (by decide)) (g := (mkF m 69 #[.val (.int p0), .val (.int p1), .val (.int ch), .val (.int ex), .unset, .unset, .unset] [(.int ch)])) rfl (by rw [hml]; rfl) (argsL := [(.int ch)]) (rest := []) (lenOf pd__40_C_41_I rfl) rfl (by show 2 * 0 + _ ≤ _; exact Nat.le_of_eq rfl) (hb hby at_69) (fun _ _ => ⟨rfl, e0, (by decide : 0 + 0 ≤ _), (by decide : 0 + 0 ≤ _)⟩)
    dsimp only [Pt.U, Pt.locs, Pt.cells, Pt.slots] at X1 l1 y1 z1 st1 hQ1
    subst l1 y1 z1
    obtain ⟨rfl, N1q, eq1⟩ := hQ1
    have N1 := Fr.app N0 N1q
    refine go (u' := T1.setTop (mkF m 72 #[.val (.int p0), .val (.int p1), .val (.int ch), .val (.int ex), .unset, .unset, .unset] [(.int (own_hex ch))])) st1 ?_
    refine go (u' := T1.setTop (mkF m 73 #[.val (.int p0), .val (.int p1), .val (.int ch), .val (.int ex), .unset, .unset, .unset] [(.int ex), (.int (own_hex ch))])) (fun _ ks_ => XS.iloadN X1.here hx rfl (hb hby at_72) rfl  ks_) ?_
    refine go (u' := T1.setTop (mkF m 78 #[.val (.int p0), .val (.int p1), .val (.int ch), .val (.int ex), .unset, .unset, .unset] [])) (fun _ ks_ => XS.icmpYes X1.here hx rfl (pc0 := 73) (pc' := 78) rfl (hb hby at_73) rfl (teq (show (own_hex ch) = ex from (own_first p0 ch ex hch hex))).1 (by decide) (by decide) ks_) ?_
    refine go (u' := T1.setTop (mkF m 79 #[.val (.int p0), .val (.int p1), .val (.int ch), .val (.int ex), .unset, .unset, .unset] [(.int p1)])) (fun _ ks_ => XS.iloadN X1.here hx rfl (hb hby at_78) rfl  ks_) ?_
    refine go (u' := T1.setTop (mkF m 81 #[.val (.int p0), .val (.int p1), .val (.int ch), .val (.int ex), .unset, .unset, .unset] [(.int (15 : Int32)), (.int p1)])) (fun _ ks_ => XS.bipush X1.here hx rfl (hb hby at_79) ks_) ?_
    refine go (u' := T1.setTop (mkF m 82 #[.val (.int p0), .val (.int p1), .val (.int ch), .val (.int ex), .unset, .unset, .unset] [(.int (p1 &&& (15 : Int32)))])) (fun _ ks_ => XS.iand X1.here hx rfl (hb hby at_81) rfl ks_) ?_
    refine go (u' := T1.setTop (mkF m 84 #[.val (.int p0), .val (.int p1), .val (.int ch), .val (.int ex), .val (.int (p1 &&& (15 : Int32))), .unset, .unset] [])) (fun _ ks_ => XS.istore X1.here hx rfl (hb hby at_82) rfl  (l' := #[.val (.int p0), .val (.int p1), .val (.int ch), .val (.int ex), .val (.int (p1 &&& (15 : Int32))), .unset, .unset]) rfl ks_) ?_
    obtain ⟨vv, hvv⟩ : ∃ z, z = (p1 &&& (15 : Int32)) := ⟨_, rfl⟩
    rw [← hvv]
    have hkeep2 : ∀ (b : Addr) (cl : Cell), Z.heap[b]? = some cl → s.heap[b]? = some cl := fun b cl q => by rw [hsh, ← hZh]; exact q
    obtain ⟨a2, T2, h2, k2, b2, c2, X2, e2, E2, hS2, hk2, hZ, hown, Ex2, Fc2, Fv2, Ab2, la2, lb2, I2, st2⟩ := ldcSV (s := s) (vm0 := s.vm) X1 hx hZ hown (ww hw 5 rfl) (fun d hd => by simp only [Bundle.stringAtoms, Bundle.sN, List.mem_cons, List.not_mem_nil, or_false] at hd; rcases hd with rfl | rfl | rfl | rfl | rfl | rfl | rfl <;> first | exact (ww hw 6 rfl) | exact (ww hw 7 rfl) | exact (ww hw 8 rfl) | exact (ww hw 9 rfl) | exact (ww hw 10 rfl) | exact (ww hw 11 rfl) | exact (ww hw 12 rfl)) eq1 ((State.WarmedH.refl s).since 0) (Nat.zero_le _) (by rw [hsh, ← hn0]; exact N1) hkeep2 (own_ib hsi) (by decide) hh14 hcw (vs := ([(48 : Int32), (49 : Int32), (50 : Int32), (51 : Int32), (52 : Int32), (53 : Int32), (54 : Int32), (55 : Int32), (56 : Int32), (57 : Int32), (65 : Int32), (66 : Int32), (67 : Int32), (68 : Int32), (69 : Int32), (70 : Int32)] : List Int32).map Value.int) (z := 16) ⟨by decide +kernel, by decide +kernel⟩ (by decide) (by decide) (g := (mkF m 84 #[.val (.int p0), .val (.int p1), .val (.int ch), .val (.int ex), .val (.int vv), .unset, .unset] [])) rfl (hb hby at_84) (n := 64) (by decide +kernel) (by decide) (by decide) (by decide)
    have K2 : Keep h0 h2 [] := (Keep.refl h0 []).ext E2
    have Fa3 : Sta Z h2 "java/lang/String" "COMPACT_STRINGS" "Z" (.int cs) := F0.ext E2
    have Fa4 : Sta Z h2 "jdk/internal/util/Preconditions" "SIOOBE_FORMATTER" "Ljava/util/function/BiFunction;" fv := F1.ext E2
    have Z2 : n0 ≤ h2.size := Nat.le_trans Z0 E2.1
    have Pb2 : PI Z h2 b2 .byte 16 (own_l [(48 : Int32), (49 : Int32), (50 : Int32), (51 : Int32), (52 : Int32), (53 : Int32), (54 : Int32), (55 : Int32), (56 : Int32), (57 : Int32), (65 : Int32), (66 : Int32), (67 : Int32), (68 : Int32), (69 : Int32), (70 : Int32)]) := own_ofArvB Ab2 rfl
    refine go (u' := T2.setTop (mkF m 86 #[.val (.int p0), .val (.int p1), .val (.int ch), .val (.int ex), .val (.int vv), .unset, .unset] [(.ref a2)])) st2 ?_
    refine go (u' := T2.setTop (mkF m 88 #[.val (.int p0), .val (.int p1), .val (.int ch), .val (.int ex), .val (.int vv), .val (.ref a2), .unset] [])) (fun _ ks_ => XS.astore X2.here hx rfl (hb hby at_86) rfl rfl (l' := #[.val (.int p0), .val (.int p1), .val (.int ch), .val (.int ex), .val (.int vv), .val (.ref a2), .unset]) rfl ks_) ?_
    have hkeep5 : ∀ (b : Addr) (cl : Cell), Z.heap[b]? = some cl → s.heap[b]? = some cl := fun b cl q => by rw [hsh, ← hZh]; exact q
    obtain ⟨a5, T5, h5, k5, b5, c5, X5, e5, E5, hS5, hk5, hZ, hown, Ex5, Fc5, Fv5, Ab5, la5, lb5, I5, st5⟩ := ldcSV (s := s) X2 hx hZ hown (ww hw 13 rfl) (fun d hd => by simp only [Bundle.stringAtoms, Bundle.sN, List.mem_cons, List.not_mem_nil, or_false] at hd; rcases hd with rfl | rfl | rfl | rfl | rfl | rfl | rfl <;> first | exact (ww hw 6 rfl) | exact (ww hw 7 rfl) | exact (ww hw 8 rfl) | exact (ww hw 9 rfl) | exact (ww hw 10 rfl) | exact (ww hw 11 rfl) | exact (ww hw 12 rfl)) e2 hS2 hk2 (by rw [hsh, ← hn0]; exact N1) hkeep5 I2 (by decide) hh16 hcw (vs := ([(48 : Int32), (49 : Int32), (50 : Int32), (51 : Int32), (52 : Int32), (53 : Int32), (54 : Int32), (55 : Int32), (56 : Int32), (57 : Int32), (97 : Int32), (98 : Int32), (99 : Int32), (100 : Int32), (101 : Int32), (102 : Int32)] : List Int32).map Value.int) (z := 16) ⟨by decide +kernel, by decide +kernel⟩ (by decide) (by decide) (g := (mkF m 88 #[.val (.int p0), .val (.int p1), .val (.int ch), .val (.int ex), .val (.int vv), .val (.ref a2), .unset] [])) rfl (hb hby at_88) (n := 64) (by decide +kernel) (by decide) (by decide) (by decide)
    have K5 : Keep h0 h5 [] := K2.ext E5
    have Fa6 : Sta Z h5 "java/lang/String" "COMPACT_STRINGS" "Z" (.int cs) := Fa3.ext E5
    have Fa7 : Sta Z h5 "jdk/internal/util/Preconditions" "SIOOBE_FORMATTER" "Ljava/util/function/BiFunction;" fv := Fa4.ext E5
    have Fa8 : Exa Z h5 a2 "java/lang/String" := Ex2.ext E5
    have Fa9 : Fld Z h5 a2 "java/lang/String" "coder" "B" (.int (0 : Int32)) := Fc2.ext E5
    have Fa10 : Fld Z h5 a2 "java/lang/String" "value" "[B" (.ref b2) := Fv2.ext E5
    have Fa11 : PI Z h5 b2 .byte 16 (own_l [(48 : Int32), (49 : Int32), (50 : Int32), (51 : Int32), (52 : Int32), (53 : Int32), (54 : Int32), (55 : Int32), (56 : Int32), (57 : Int32), (65 : Int32), (66 : Int32), (67 : Int32), (68 : Int32), (69 : Int32), (70 : Int32)]) := Pb2.ext E5
    have Z5 : n0 ≤ h5.size := Nat.le_trans Z2 E5.1
    have Pb5 : PI Z h5 b5 .byte 16 (own_l [(48 : Int32), (49 : Int32), (50 : Int32), (51 : Int32), (52 : Int32), (53 : Int32), (54 : Int32), (55 : Int32), (56 : Int32), (57 : Int32), (97 : Int32), (98 : Int32), (99 : Int32), (100 : Int32), (101 : Int32), (102 : Int32)]) := own_ofArvB Ab5 rfl
    refine go (u' := T5.setTop (mkF m 90 #[.val (.int p0), .val (.int p1), .val (.int ch), .val (.int ex), .val (.int vv), .val (.ref a2), .unset] [(.ref a5)])) st5 ?_
    refine go (u' := T5.setTop (mkF m 92 #[.val (.int p0), .val (.int p1), .val (.int ch), .val (.int ex), .val (.int vv), .val (.ref a2), .val (.ref a5)] [])) (fun _ ks_ => XS.astore X5.here hx rfl (hb hby at_90) rfl rfl (l' := #[.val (.int p0), .val (.int p1), .val (.int ch), .val (.int ex), .val (.int vv), .val (.ref a2), .val (.ref a5)]) rfl ks_) ?_
    refine go (u' := T5.setTop (mkF m 94 #[.val (.int p0), .val (.int p1), .val (.int ch), .val (.int ex), .val (.int vv), .val (.ref a2), .val (.ref a5)] [(.ref a2)])) (fun _ ks_ => XS.aload X5.here hx rfl (hb hby at_92) rfl rfl ks_) ?_
    refine go (u' := T5.setTop (mkF m 96 #[.val (.int p0), .val (.int p1), .val (.int ch), .val (.int ex), .val (.int vv), .val (.ref a2), .val (.ref a5)] [(.int vv), (.ref a2)])) (fun _ ks_ => XS.iload X5.here hx rfl (hb hby at_94) rfl  ks_) ?_
    obtain ⟨cq12, kq12, q12a, q12b, q12c⟩ := isOf hZ e5 Fa8
    obtain ⟨_, _, ⟨T12, L12, k12, n12⟩, -, X12, ⟨Lc12, hQ12, l12, y12, z12⟩, st12⟩ := X5.virtualBack hx (y := (⟨"java/lang/String", "charAt", "(I)C"⟩ : MethodName)) (z := (⟨"java/lang/String", "charAt", "(I)C"⟩ : MethodName)) hown (mvT hZ (ww hw 14 rfl)) (mvT hZ (ww hw 15 rfl)) (notFace_of_selects (args := #[]) (mvT hZ (ww hw 17 rfl))) (mvT hZ (ww hw 17 rfl)) (mvT hZ (ww hw 16 rfl)) (by decide) (backOf (W := 0) (rm2 l Z a0 hw [] a2 vv b2 16 (own_l [(48 : Int32), (49 : Int32), (50 : Int32), (51 : Int32), (52 : Int32), (53 : Int32), (54 : Int32), (55 : Int32), (56 : Int32), (57 : Int32), (65 : Int32), (66 : Int32), (67 : Int32), (68 : Int32), (69 : Int32), (70 : Int32)]) cs fv h5 n0 Z5 Fa8 Fa9 Fa10 Fa11 Fa6 Fa7 (own_vb p1 vv hvv).1 (own_vb p1 vv hvv).2 hr_fv hcs) hZ (ww hw 18 rfl) (ww hw 6 rfl) (by decide) (by decide)) q12a q12c (g := (mkF m 96 #[.val (.int p0), .val (.int p1), .val (.int ch), .val (.int ex), .val (.int vv), .val (.ref a2), .val (.ref a5)] [(.int vv), (.ref a2)])) rfl (by rw [hml]; rfl) (Steps.refl _) (argsL := [(.int vv)]) (rest := []) (lenOf pd__40_I_41_C rfl) rfl (by show 2 * 0 + _ ≤ _; exact Nat.le_of_eq rfl) (hb hby at_96) (fun _ _ => ⟨rfl, e5, (by decide : 4 + 0 ≤ _), (by decide : 136 + 0 ≤ _)⟩)
    dsimp only [Pt.U, Pt.locs, Pt.cells, Pt.slots] at X12 l12 y12 z12 st12 hQ12
    subst l12 y12 z12
    obtain ⟨rfl, N12q, eq12⟩ := hQ12
    have N12 := Fr.app N1 N12q
    refine goT (u' := T12.setTop (mkF m 99 #[.val (.int p0), .val (.int p1), .val (.int ch), .val (.int ex), .val (.int vv), .val (.ref a2), .val (.ref a5)] [(.int ((((own_l [(48 : Int32), (49 : Int32), (50 : Int32), (51 : Int32), (52 : Int32), (53 : Int32), (54 : Int32), (55 : Int32), (56 : Int32), (57 : Int32), (65 : Int32), (66 : Int32), (67 : Int32), (68 : Int32), (69 : Int32), (70 : Int32)]) vv.toNatClampNeg) &&& (255 : Int32)).toUInt32.toUInt16.toUInt32.toInt32))])) st12 ?_
    obtain ⟨_, _, ⟨T13, L13, k13, n13⟩, -, X13, ⟨Lc13, hQ13, l13, y13, z13⟩, st13⟩ := Jvm.LawKit.callS X12 hx (y := (⟨"com/example/locattr/locattr/UriReferences", "hexValue", "(C)I"⟩ : MethodName)) hown (mvT hZ (ww hw 1 rfl)) (mvT hZ (ww hw 2 rfl)) (mvT hZ (ww hw 3 rfl)) (mvT hZ (ww hw 4 rfl)) (by decide) (backOf (W := 0) (rm1 l Z a0 hw [] ((((own_l [(48 : Int32), (49 : Int32), (50 : Int32), (51 : Int32), (52 : Int32), (53 : Int32), (54 : Int32), (55 : Int32), (56 : Int32), (57 : Int32), (65 : Int32), (66 : Int32), (67 : Int32), (68 : Int32), (69 : Int32), (70 : Int32)]) vv.toNatClampNeg) &&& (255 : Int32)).toUInt32.toUInt16.toUInt32.toInt32) h5 n0 Z5) hZ (ww hw 4 rfl) (ww hw 3 rfl) (by decide) (by decide)) (g := (mkF m 99 #[.val (.int p0), .val (.int p1), .val (.int ch), .val (.int ex), .val (.int vv), .val (.ref a2), .val (.ref a5)] [(.int ((((own_l [(48 : Int32), (49 : Int32), (50 : Int32), (51 : Int32), (52 : Int32), (53 : Int32), (54 : Int32), (55 : Int32), (56 : Int32), (57 : Int32), (65 : Int32), (66 : Int32), (67 : Int32), (68 : Int32), (69 : Int32), (70 : Int32)]) vv.toNatClampNeg) &&& (255 : Int32)).toUInt32.toUInt16.toUInt32.toInt32))])) rfl (by rw [hml]; rfl) (argsL := [(.int ((((own_l [(48 : Int32), (49 : Int32), (50 : Int32), (51 : Int32), (52 : Int32), (53 : Int32), (54 : Int32), (55 : Int32), (56 : Int32), (57 : Int32), (65 : Int32), (66 : Int32), (67 : Int32), (68 : Int32), (69 : Int32), (70 : Int32)]) vv.toNatClampNeg) &&& (255 : Int32)).toUInt32.toUInt16.toUInt32.toInt32))]) (rest := []) (lenOf pd__40_C_41_I rfl) rfl (by show 2 * 0 + _ ≤ _; exact Nat.le_of_eq rfl) (hb hby at_99) (fun _ _ => ⟨rfl, eq12, (by decide : 4 + 0 ≤ _), (by decide : 136 + 0 ≤ _)⟩)
    dsimp only [Pt.U, Pt.locs, Pt.cells, Pt.slots] at X13 l13 y13 z13 st13 hQ13
    subst l13 y13 z13
    obtain ⟨rfl, N13q, eq13⟩ := hQ13
    have N13 := Fr.app N12 N13q
    refine go (u' := T13.setTop (mkF m 102 #[.val (.int p0), .val (.int p1), .val (.int ch), .val (.int ex), .val (.int vv), .val (.ref a2), .val (.ref a5)] [(.int (own_hex ((((own_l [(48 : Int32), (49 : Int32), (50 : Int32), (51 : Int32), (52 : Int32), (53 : Int32), (54 : Int32), (55 : Int32), (56 : Int32), (57 : Int32), (65 : Int32), (66 : Int32), (67 : Int32), (68 : Int32), (69 : Int32), (70 : Int32)]) vv.toNatClampNeg) &&& (255 : Int32)).toUInt32.toUInt16.toUInt32.toInt32)))])) st13 ?_
    refine go (u' := T13.setTop (mkF m 104 #[.val (.int p0), .val (.int p1), .val (.int ch), .val (.int ex), .val (.int vv), .val (.ref a2), .val (.ref a5)] [(.int vv), (.int (own_hex ((((own_l [(48 : Int32), (49 : Int32), (50 : Int32), (51 : Int32), (52 : Int32), (53 : Int32), (54 : Int32), (55 : Int32), (56 : Int32), (57 : Int32), (65 : Int32), (66 : Int32), (67 : Int32), (68 : Int32), (69 : Int32), (70 : Int32)]) vv.toNatClampNeg) &&& (255 : Int32)).toUInt32.toUInt16.toUInt32.toInt32)))])) (fun _ ks_ => XS.iload X13.here hx rfl (hb hby at_102) rfl  ks_) ?_
    refine go (u' := T13.setTop (mkF m 107 #[.val (.int p0), .val (.int p1), .val (.int ch), .val (.int ex), .val (.int vv), .val (.ref a2), .val (.ref a5)] [])) (fun _ ks_ => XS.icmpNo X13.here hx rfl (hb hby at_104) rfl (teq (show (own_hex ((((own_l [(48 : Int32), (49 : Int32), (50 : Int32), (51 : Int32), (52 : Int32), (53 : Int32), (54 : Int32), (55 : Int32), (56 : Int32), (57 : Int32), (65 : Int32), (66 : Int32), (67 : Int32), (68 : Int32), (69 : Int32), (70 : Int32)]) vv.toNatClampNeg) &&& (255 : Int32)).toUInt32.toUInt16.toUInt32.toInt32)) = vv from (own_up p1 vv hvv))).2 ks_) ?_
    refine go (u' := T13.setTop (mkF m 109 #[.val (.int p0), .val (.int p1), .val (.int ch), .val (.int ex), .val (.int vv), .val (.ref a2), .val (.ref a5)] [(.ref a5)])) (fun _ ks_ => XS.aload X13.here hx rfl (hb hby at_107) rfl rfl ks_) ?_
    refine go (u' := T13.setTop (mkF m 111 #[.val (.int p0), .val (.int p1), .val (.int ch), .val (.int ex), .val (.int vv), .val (.ref a2), .val (.ref a5)] [(.int vv), (.ref a5)])) (fun _ ks_ => XS.iload X13.here hx rfl (hb hby at_109) rfl  ks_) ?_
    obtain ⟨cq14, kq14, q14a, q14b, q14c⟩ := isOf hZ eq13 Ex5
    obtain ⟨_, _, ⟨T14, L14, k14, n14⟩, -, X14, ⟨Lc14, hQ14, l14, y14, z14⟩, st14⟩ := X13.virtualBack hx (y := (⟨"java/lang/String", "charAt", "(I)C"⟩ : MethodName)) (z := (⟨"java/lang/String", "charAt", "(I)C"⟩ : MethodName)) hown (mvT hZ (ww hw 14 rfl)) (mvT hZ (ww hw 15 rfl)) (notFace_of_selects (args := #[]) (mvT hZ (ww hw 17 rfl))) (mvT hZ (ww hw 17 rfl)) (mvT hZ (ww hw 16 rfl)) (by decide) (backOf (W := 0) (rm2 l Z a0 hw [] a5 vv b5 16 (own_l [(48 : Int32), (49 : Int32), (50 : Int32), (51 : Int32), (52 : Int32), (53 : Int32), (54 : Int32), (55 : Int32), (56 : Int32), (57 : Int32), (97 : Int32), (98 : Int32), (99 : Int32), (100 : Int32), (101 : Int32), (102 : Int32)]) cs fv h5 n0 Z5 Ex5 Fc5 Fv5 Pb5 Fa6 Fa7 (own_vb p1 vv hvv).1 (own_vb p1 vv hvv).2 hr_fv hcs) hZ (ww hw 18 rfl) (ww hw 6 rfl) (by decide) (by decide)) q14a q14c (g := (mkF m 111 #[.val (.int p0), .val (.int p1), .val (.int ch), .val (.int ex), .val (.int vv), .val (.ref a2), .val (.ref a5)] [(.int vv), (.ref a5)])) rfl (by rw [hml]; rfl) (Steps.refl _) (argsL := [(.int vv)]) (rest := []) (lenOf pd__40_I_41_C rfl) rfl (by show 2 * 0 + _ ≤ _; exact Nat.le_of_eq rfl) (hb hby at_111) (fun _ _ => ⟨rfl, eq13, (by decide : 4 + 0 ≤ _), (by decide : 136 + 0 ≤ _)⟩)
    dsimp only [Pt.U, Pt.locs, Pt.cells, Pt.slots] at X14 l14 y14 z14 st14 hQ14
    subst l14 y14 z14
    obtain ⟨rfl, N14q, eq14⟩ := hQ14
    have N14 := Fr.app N13 N14q
    refine goT (u' := T14.setTop (mkF m 114 #[.val (.int p0), .val (.int p1), .val (.int ch), .val (.int ex), .val (.int vv), .val (.ref a2), .val (.ref a5)] [(.int ((((own_l [(48 : Int32), (49 : Int32), (50 : Int32), (51 : Int32), (52 : Int32), (53 : Int32), (54 : Int32), (55 : Int32), (56 : Int32), (57 : Int32), (97 : Int32), (98 : Int32), (99 : Int32), (100 : Int32), (101 : Int32), (102 : Int32)]) vv.toNatClampNeg) &&& (255 : Int32)).toUInt32.toUInt16.toUInt32.toInt32))])) st14 ?_
    obtain ⟨_, _, ⟨T15, L15, k15, n15⟩, -, X15, ⟨Lc15, hQ15, l15, y15, z15⟩, st15⟩ := Jvm.LawKit.callS X14 hx (y := (⟨"com/example/locattr/locattr/UriReferences", "hexValue", "(C)I"⟩ : MethodName)) hown (mvT hZ (ww hw 1 rfl)) (mvT hZ (ww hw 2 rfl)) (mvT hZ (ww hw 3 rfl)) (mvT hZ (ww hw 4 rfl)) (by decide) (backOf (W := 0) (rm1 l Z a0 hw [] ((((own_l [(48 : Int32), (49 : Int32), (50 : Int32), (51 : Int32), (52 : Int32), (53 : Int32), (54 : Int32), (55 : Int32), (56 : Int32), (57 : Int32), (97 : Int32), (98 : Int32), (99 : Int32), (100 : Int32), (101 : Int32), (102 : Int32)]) vv.toNatClampNeg) &&& (255 : Int32)).toUInt32.toUInt16.toUInt32.toInt32) h5 n0 Z5) hZ (ww hw 4 rfl) (ww hw 3 rfl) (by decide) (by decide)) (g := (mkF m 114 #[.val (.int p0), .val (.int p1), .val (.int ch), .val (.int ex), .val (.int vv), .val (.ref a2), .val (.ref a5)] [(.int ((((own_l [(48 : Int32), (49 : Int32), (50 : Int32), (51 : Int32), (52 : Int32), (53 : Int32), (54 : Int32), (55 : Int32), (56 : Int32), (57 : Int32), (97 : Int32), (98 : Int32), (99 : Int32), (100 : Int32), (101 : Int32), (102 : Int32)]) vv.toNatClampNeg) &&& (255 : Int32)).toUInt32.toUInt16.toUInt32.toInt32))])) rfl (by rw [hml]; rfl) (argsL := [(.int ((((own_l [(48 : Int32), (49 : Int32), (50 : Int32), (51 : Int32), (52 : Int32), (53 : Int32), (54 : Int32), (55 : Int32), (56 : Int32), (57 : Int32), (97 : Int32), (98 : Int32), (99 : Int32), (100 : Int32), (101 : Int32), (102 : Int32)]) vv.toNatClampNeg) &&& (255 : Int32)).toUInt32.toUInt16.toUInt32.toInt32))]) (rest := []) (lenOf pd__40_C_41_I rfl) rfl (by show 2 * 0 + _ ≤ _; exact Nat.le_of_eq rfl) (hb hby at_114) (fun _ _ => ⟨rfl, eq14, (by decide : 4 + 0 ≤ _), (by decide : 136 + 0 ≤ _)⟩)
    dsimp only [Pt.U, Pt.locs, Pt.cells, Pt.slots] at X15 l15 y15 z15 st15 hQ15
    subst l15 y15 z15
    obtain ⟨rfl, N15q, eq15⟩ := hQ15
    have N15 := Fr.app N14 N15q
    refine go (u' := T15.setTop (mkF m 117 #[.val (.int p0), .val (.int p1), .val (.int ch), .val (.int ex), .val (.int vv), .val (.ref a2), .val (.ref a5)] [(.int (own_hex ((((own_l [(48 : Int32), (49 : Int32), (50 : Int32), (51 : Int32), (52 : Int32), (53 : Int32), (54 : Int32), (55 : Int32), (56 : Int32), (57 : Int32), (97 : Int32), (98 : Int32), (99 : Int32), (100 : Int32), (101 : Int32), (102 : Int32)]) vv.toNatClampNeg) &&& (255 : Int32)).toUInt32.toUInt16.toUInt32.toInt32)))])) st15 ?_
    refine go (u' := T15.setTop (mkF m 119 #[.val (.int p0), .val (.int p1), .val (.int ch), .val (.int ex), .val (.int vv), .val (.ref a2), .val (.ref a5)] [(.int vv), (.int (own_hex ((((own_l [(48 : Int32), (49 : Int32), (50 : Int32), (51 : Int32), (52 : Int32), (53 : Int32), (54 : Int32), (55 : Int32), (56 : Int32), (57 : Int32), (97 : Int32), (98 : Int32), (99 : Int32), (100 : Int32), (101 : Int32), (102 : Int32)]) vv.toNatClampNeg) &&& (255 : Int32)).toUInt32.toUInt16.toUInt32.toInt32)))])) (fun _ ks_ => XS.iload X15.here hx rfl (hb hby at_117) rfl  ks_) ?_
    refine go (u' := T15.setTop (mkF m 122 #[.val (.int p0), .val (.int p1), .val (.int ch), .val (.int ex), .val (.int vv), .val (.ref a2), .val (.ref a5)] [])) (fun _ ks_ => XS.icmpNo X15.here hx rfl (hb hby at_119) rfl (teq (show (own_hex ((((own_l [(48 : Int32), (49 : Int32), (50 : Int32), (51 : Int32), (52 : Int32), (53 : Int32), (54 : Int32), (55 : Int32), (56 : Int32), (57 : Int32), (97 : Int32), (98 : Int32), (99 : Int32), (100 : Int32), (101 : Int32), (102 : Int32)]) vv.toNatClampNeg) &&& (255 : Int32)).toUInt32.toUInt16.toUInt32.toInt32)) = vv from (own_lo p1 vv hvv))).2 ks_) ?_
    refine go (u' := T15.setTop (mkF m 123 #[.val (.int p0), .val (.int p1), .val (.int ch), .val (.int ex), .val (.int vv), .val (.ref a2), .val (.ref a5)] [(.int (1 : Int32))])) (fun _ ks_ => XS.iconst X15.here hx rfl (hb hby at_122) ks_) ?_
    refine go (u' := T15.setTop (mkF m 127 #[.val (.int p0), .val (.int p1), .val (.int ch), .val (.int ex), .val (.int vv), .val (.ref a2), .val (.ref a5)] [(.int (1 : Int32))])) (fun _ ks_ => XS.goto X15.here hx rfl (pc0 := 123) (pc' := 127) rfl (hb hby at_123) (by decide) (by decide) ks_) ?_
    rw [hG]
    refine gNW X15 hx hlk hS5 (by rw [eq15]; exact hk5) (t := .boolean) hret (by simp) rfl (hb hby at_127) ?_ (Nat.le_of_ble_eq_true rfl) (Nat.le_of_ble_eq_true rfl)
    show Q_rm0 Z p0 p1 cs fv h0 n0 (some (.int (1 : Int32))) T15.heap _
    rw [eq15]
    exact ⟨rfl, N15⟩
  by_cases c9_1 : ch < (48 : Int32)
  ·
    refine go (u' := s₁.setTop (mkF m 26 #[.val (.int p0), .val (.int p1), .val (.int ch), .unset, .unset, .unset, .unset] [])) (fun _ ks_ => XS.icmpYes X0.here hx rfl (pc0 := 9) (pc' := 26) rfl (hb hby at_9) rfl (tlt c9_1).1 (by decide) (by decide) ks_) ?_
    refine go (u' := s₁.setTop (mkF m 27 #[.val (.int p0), .val (.int p1), .val (.int ch), .unset, .unset, .unset, .unset] [(.int ch)])) (fun _ ks_ => XS.iloadN X0.here hx rfl (hb hby at_26) rfl  ks_) ?_
    refine go (u' := s₁.setTop (mkF m 29 #[.val (.int p0), .val (.int p1), .val (.int ch), .unset, .unset, .unset, .unset] [(.int (65 : Int32)), (.int ch)])) (fun _ ks_ => XS.bipush X0.here hx rfl (hb hby at_27) ks_) ?_
    by_cases c29_2 : ch < (65 : Int32)
    ·
      refine go (u' := s₁.setTop (mkF m 46 #[.val (.int p0), .val (.int p1), .val (.int ch), .unset, .unset, .unset, .unset] [])) (fun _ ks_ => XS.icmpYes X0.here hx rfl (pc0 := 29) (pc' := 46) rfl (hb hby at_29) rfl (tlt c29_2).1 (by decide) (by decide) ks_) ?_
      refine go (u' := s₁.setTop (mkF m 47 #[.val (.int p0), .val (.int p1), .val (.int ch), .unset, .unset, .unset, .unset] [(.int ch)])) (fun _ ks_ => XS.iloadN X0.here hx rfl (hb hby at_46) rfl  ks_) ?_
      refine go (u' := s₁.setTop (mkF m 49 #[.val (.int p0), .val (.int p1), .val (.int ch), .unset, .unset, .unset, .unset] [(.int (97 : Int32)), (.int ch)])) (fun _ ks_ => XS.bipush X0.here hx rfl (hb hby at_47) ks_) ?_
      by_cases c49_3 : ch < (97 : Int32)
      ·
        refine go (u' := s₁.setTop (mkF m 66 #[.val (.int p0), .val (.int p1), .val (.int ch), .unset, .unset, .unset, .unset] [])) (fun _ ks_ => XS.icmpYes X0.here hx rfl (pc0 := 49) (pc' := 66) rfl (hb hby at_49) rfl (tlt c49_3).1 (by decide) (by decide) ks_) ?_
        refine go (u' := s₁.setTop (mkF m 67 #[.val (.int p0), .val (.int p1), .val (.int ch), .unset, .unset, .unset, .unset] [(.int (-1 : Int32))])) (fun _ ks_ => XS.iconst X0.here hx rfl (hb hby at_66) ks_) ?_
        refine go (u' := s₁.setTop (mkF m 68 #[.val (.int p0), .val (.int p1), .val (.int ch), .val (.int (-1 : Int32)), .unset, .unset, .unset] [])) (fun _ ks_ => XS.istoreN X0.here hx rfl (hb hby at_67) rfl  (l' := #[.val (.int p0), .val (.int p1), .val (.int ch), .val (.int (-1 : Int32)), .unset, .unset, .unset]) rfl ks_) ?_
        exact J68_1 _ ((((if_pos c9_1).trans (if_pos c29_2)).trans (if_pos c49_3))).symm
      ·
        refine go (u' := s₁.setTop (mkF m 52 #[.val (.int p0), .val (.int p1), .val (.int ch), .unset, .unset, .unset, .unset] [])) (fun _ ks_ => XS.icmpNo X0.here hx rfl (hb hby at_49) rfl (flt c49_3).1 ks_) ?_
        refine go (u' := s₁.setTop (mkF m 53 #[.val (.int p0), .val (.int p1), .val (.int ch), .unset, .unset, .unset, .unset] [(.int ch)])) (fun _ ks_ => XS.iloadN X0.here hx rfl (hb hby at_52) rfl  ks_) ?_
        refine go (u' := s₁.setTop (mkF m 55 #[.val (.int p0), .val (.int p1), .val (.int ch), .unset, .unset, .unset, .unset] [(.int (102 : Int32)), (.int ch)])) (fun _ ks_ => XS.bipush X0.here hx rfl (hb hby at_53) ks_) ?_
        by_cases c55_4 : (102 : Int32) < ch
        ·
          refine go (u' := s₁.setTop (mkF m 66 #[.val (.int p0), .val (.int p1), .val (.int ch), .unset, .unset, .unset, .unset] [])) (fun _ ks_ => XS.icmpYes X0.here hx rfl (pc0 := 55) (pc' := 66) rfl (hb hby at_55) rfl (tlt c55_4).2.2.1 (by decide) (by decide) ks_) ?_
          refine go (u' := s₁.setTop (mkF m 67 #[.val (.int p0), .val (.int p1), .val (.int ch), .unset, .unset, .unset, .unset] [(.int (-1 : Int32))])) (fun _ ks_ => XS.iconst X0.here hx rfl (hb hby at_66) ks_) ?_
          refine go (u' := s₁.setTop (mkF m 68 #[.val (.int p0), .val (.int p1), .val (.int ch), .val (.int (-1 : Int32)), .unset, .unset, .unset] [])) (fun _ ks_ => XS.istoreN X0.here hx rfl (hb hby at_67) rfl  (l' := #[.val (.int p0), .val (.int p1), .val (.int ch), .val (.int (-1 : Int32)), .unset, .unset, .unset]) rfl ks_) ?_
          exact J68_1 _ (((((if_pos c9_1).trans (if_pos c29_2)).trans (if_neg c49_3)).trans (if_pos c55_4))).symm
        ·
          refine go (u' := s₁.setTop (mkF m 58 #[.val (.int p0), .val (.int p1), .val (.int ch), .unset, .unset, .unset, .unset] [])) (fun _ ks_ => XS.icmpNo X0.here hx rfl (hb hby at_55) rfl (flt c55_4).2.2.1 ks_) ?_
          refine go (u' := s₁.setTop (mkF m 59 #[.val (.int p0), .val (.int p1), .val (.int ch), .unset, .unset, .unset, .unset] [(.int ch)])) (fun _ ks_ => XS.iloadN X0.here hx rfl (hb hby at_58) rfl  ks_) ?_
          refine go (u' := s₁.setTop (mkF m 61 #[.val (.int p0), .val (.int p1), .val (.int ch), .unset, .unset, .unset, .unset] [(.int (87 : Int32)), (.int ch)])) (fun _ ks_ => XS.bipush X0.here hx rfl (hb hby at_59) ks_) ?_
          refine go (u' := s₁.setTop (mkF m 62 #[.val (.int p0), .val (.int p1), .val (.int ch), .unset, .unset, .unset, .unset] [(.int (ch - (87 : Int32)))])) (fun _ ks_ => XS.isub X0.here hx rfl (hb hby at_61) rfl ks_) ?_
          refine go (u' := s₁.setTop (mkF m 63 #[.val (.int p0), .val (.int p1), .val (.int ch), .val (.int (ch - (87 : Int32))), .unset, .unset, .unset] [])) (fun _ ks_ => XS.istoreN X0.here hx rfl (hb hby at_62) rfl  (l' := #[.val (.int p0), .val (.int p1), .val (.int ch), .val (.int (ch - (87 : Int32))), .unset, .unset, .unset]) rfl ks_) ?_
          refine go (u' := s₁.setTop (mkF m 68 #[.val (.int p0), .val (.int p1), .val (.int ch), .val (.int (ch - (87 : Int32))), .unset, .unset, .unset] [])) (fun _ ks_ => XS.goto X0.here hx rfl (pc0 := 63) (pc' := 68) rfl (hb hby at_63) (by decide) (by decide) ks_) ?_
          exact J68_1 _ (((((if_pos c9_1).trans (if_pos c29_2)).trans (if_neg c49_3)).trans (if_neg c55_4))).symm
    ·
      refine go (u' := s₁.setTop (mkF m 32 #[.val (.int p0), .val (.int p1), .val (.int ch), .unset, .unset, .unset, .unset] [])) (fun _ ks_ => XS.icmpNo X0.here hx rfl (hb hby at_29) rfl (flt c29_2).1 ks_) ?_
      refine go (u' := s₁.setTop (mkF m 33 #[.val (.int p0), .val (.int p1), .val (.int ch), .unset, .unset, .unset, .unset] [(.int ch)])) (fun _ ks_ => XS.iloadN X0.here hx rfl (hb hby at_32) rfl  ks_) ?_
      refine go (u' := s₁.setTop (mkF m 35 #[.val (.int p0), .val (.int p1), .val (.int ch), .unset, .unset, .unset, .unset] [(.int (70 : Int32)), (.int ch)])) (fun _ ks_ => XS.bipush X0.here hx rfl (hb hby at_33) ks_) ?_
      by_cases c35_5 : (70 : Int32) < ch
      ·
        refine go (u' := s₁.setTop (mkF m 46 #[.val (.int p0), .val (.int p1), .val (.int ch), .unset, .unset, .unset, .unset] [])) (fun _ ks_ => XS.icmpYes X0.here hx rfl (pc0 := 35) (pc' := 46) rfl (hb hby at_35) rfl (tlt c35_5).2.2.1 (by decide) (by decide) ks_) ?_
        refine go (u' := s₁.setTop (mkF m 47 #[.val (.int p0), .val (.int p1), .val (.int ch), .unset, .unset, .unset, .unset] [(.int ch)])) (fun _ ks_ => XS.iloadN X0.here hx rfl (hb hby at_46) rfl  ks_) ?_
        refine go (u' := s₁.setTop (mkF m 49 #[.val (.int p0), .val (.int p1), .val (.int ch), .unset, .unset, .unset, .unset] [(.int (97 : Int32)), (.int ch)])) (fun _ ks_ => XS.bipush X0.here hx rfl (hb hby at_47) ks_) ?_
        by_cases c49_6 : ch < (97 : Int32)
        ·
          refine go (u' := s₁.setTop (mkF m 66 #[.val (.int p0), .val (.int p1), .val (.int ch), .unset, .unset, .unset, .unset] [])) (fun _ ks_ => XS.icmpYes X0.here hx rfl (pc0 := 49) (pc' := 66) rfl (hb hby at_49) rfl (tlt c49_6).1 (by decide) (by decide) ks_) ?_
          refine go (u' := s₁.setTop (mkF m 67 #[.val (.int p0), .val (.int p1), .val (.int ch), .unset, .unset, .unset, .unset] [(.int (-1 : Int32))])) (fun _ ks_ => XS.iconst X0.here hx rfl (hb hby at_66) ks_) ?_
          refine go (u' := s₁.setTop (mkF m 68 #[.val (.int p0), .val (.int p1), .val (.int ch), .val (.int (-1 : Int32)), .unset, .unset, .unset] [])) (fun _ ks_ => XS.istoreN X0.here hx rfl (hb hby at_67) rfl  (l' := #[.val (.int p0), .val (.int p1), .val (.int ch), .val (.int (-1 : Int32)), .unset, .unset, .unset]) rfl ks_) ?_
          exact J68_1 _ (((((if_pos c9_1).trans (if_neg c29_2)).trans (if_pos c35_5)).trans (if_pos c49_6))).symm
        ·
          refine go (u' := s₁.setTop (mkF m 52 #[.val (.int p0), .val (.int p1), .val (.int ch), .unset, .unset, .unset, .unset] [])) (fun _ ks_ => XS.icmpNo X0.here hx rfl (hb hby at_49) rfl (flt c49_6).1 ks_) ?_
          refine go (u' := s₁.setTop (mkF m 53 #[.val (.int p0), .val (.int p1), .val (.int ch), .unset, .unset, .unset, .unset] [(.int ch)])) (fun _ ks_ => XS.iloadN X0.here hx rfl (hb hby at_52) rfl  ks_) ?_
          refine go (u' := s₁.setTop (mkF m 55 #[.val (.int p0), .val (.int p1), .val (.int ch), .unset, .unset, .unset, .unset] [(.int (102 : Int32)), (.int ch)])) (fun _ ks_ => XS.bipush X0.here hx rfl (hb hby at_53) ks_) ?_
          by_cases c55_7 : (102 : Int32) < ch
          ·
            refine go (u' := s₁.setTop (mkF m 66 #[.val (.int p0), .val (.int p1), .val (.int ch), .unset, .unset, .unset, .unset] [])) (fun _ ks_ => XS.icmpYes X0.here hx rfl (pc0 := 55) (pc' := 66) rfl (hb hby at_55) rfl (tlt c55_7).2.2.1 (by decide) (by decide) ks_) ?_
            refine go (u' := s₁.setTop (mkF m 67 #[.val (.int p0), .val (.int p1), .val (.int ch), .unset, .unset, .unset, .unset] [(.int (-1 : Int32))])) (fun _ ks_ => XS.iconst X0.here hx rfl (hb hby at_66) ks_) ?_
            refine go (u' := s₁.setTop (mkF m 68 #[.val (.int p0), .val (.int p1), .val (.int ch), .val (.int (-1 : Int32)), .unset, .unset, .unset] [])) (fun _ ks_ => XS.istoreN X0.here hx rfl (hb hby at_67) rfl  (l' := #[.val (.int p0), .val (.int p1), .val (.int ch), .val (.int (-1 : Int32)), .unset, .unset, .unset]) rfl ks_) ?_
            exact J68_1 _ ((((((if_pos c9_1).trans (if_neg c29_2)).trans (if_pos c35_5)).trans (if_neg c49_6)).trans (if_pos c55_7))).symm
          ·
            refine go (u' := s₁.setTop (mkF m 58 #[.val (.int p0), .val (.int p1), .val (.int ch), .unset, .unset, .unset, .unset] [])) (fun _ ks_ => XS.icmpNo X0.here hx rfl (hb hby at_55) rfl (flt c55_7).2.2.1 ks_) ?_
            refine go (u' := s₁.setTop (mkF m 59 #[.val (.int p0), .val (.int p1), .val (.int ch), .unset, .unset, .unset, .unset] [(.int ch)])) (fun _ ks_ => XS.iloadN X0.here hx rfl (hb hby at_58) rfl  ks_) ?_
            refine go (u' := s₁.setTop (mkF m 61 #[.val (.int p0), .val (.int p1), .val (.int ch), .unset, .unset, .unset, .unset] [(.int (87 : Int32)), (.int ch)])) (fun _ ks_ => XS.bipush X0.here hx rfl (hb hby at_59) ks_) ?_
            refine go (u' := s₁.setTop (mkF m 62 #[.val (.int p0), .val (.int p1), .val (.int ch), .unset, .unset, .unset, .unset] [(.int (ch - (87 : Int32)))])) (fun _ ks_ => XS.isub X0.here hx rfl (hb hby at_61) rfl ks_) ?_
            refine go (u' := s₁.setTop (mkF m 63 #[.val (.int p0), .val (.int p1), .val (.int ch), .val (.int (ch - (87 : Int32))), .unset, .unset, .unset] [])) (fun _ ks_ => XS.istoreN X0.here hx rfl (hb hby at_62) rfl  (l' := #[.val (.int p0), .val (.int p1), .val (.int ch), .val (.int (ch - (87 : Int32))), .unset, .unset, .unset]) rfl ks_) ?_
            refine go (u' := s₁.setTop (mkF m 68 #[.val (.int p0), .val (.int p1), .val (.int ch), .val (.int (ch - (87 : Int32))), .unset, .unset, .unset] [])) (fun _ ks_ => XS.goto X0.here hx rfl (pc0 := 63) (pc' := 68) rfl (hb hby at_63) (by decide) (by decide) ks_) ?_
            exact J68_1 _ ((((((if_pos c9_1).trans (if_neg c29_2)).trans (if_pos c35_5)).trans (if_neg c49_6)).trans (if_neg c55_7))).symm
      ·
        refine go (u' := s₁.setTop (mkF m 38 #[.val (.int p0), .val (.int p1), .val (.int ch), .unset, .unset, .unset, .unset] [])) (fun _ ks_ => XS.icmpNo X0.here hx rfl (hb hby at_35) rfl (flt c35_5).2.2.1 ks_) ?_
        refine go (u' := s₁.setTop (mkF m 39 #[.val (.int p0), .val (.int p1), .val (.int ch), .unset, .unset, .unset, .unset] [(.int ch)])) (fun _ ks_ => XS.iloadN X0.here hx rfl (hb hby at_38) rfl  ks_) ?_
        refine go (u' := s₁.setTop (mkF m 41 #[.val (.int p0), .val (.int p1), .val (.int ch), .unset, .unset, .unset, .unset] [(.int (55 : Int32)), (.int ch)])) (fun _ ks_ => XS.bipush X0.here hx rfl (hb hby at_39) ks_) ?_
        refine go (u' := s₁.setTop (mkF m 42 #[.val (.int p0), .val (.int p1), .val (.int ch), .unset, .unset, .unset, .unset] [(.int (ch - (55 : Int32)))])) (fun _ ks_ => XS.isub X0.here hx rfl (hb hby at_41) rfl ks_) ?_
        refine go (u' := s₁.setTop (mkF m 43 #[.val (.int p0), .val (.int p1), .val (.int ch), .val (.int (ch - (55 : Int32))), .unset, .unset, .unset] [])) (fun _ ks_ => XS.istoreN X0.here hx rfl (hb hby at_42) rfl  (l' := #[.val (.int p0), .val (.int p1), .val (.int ch), .val (.int (ch - (55 : Int32))), .unset, .unset, .unset]) rfl ks_) ?_
        refine go (u' := s₁.setTop (mkF m 68 #[.val (.int p0), .val (.int p1), .val (.int ch), .val (.int (ch - (55 : Int32))), .unset, .unset, .unset] [])) (fun _ ks_ => XS.goto X0.here hx rfl (pc0 := 43) (pc' := 68) rfl (hb hby at_43) (by decide) (by decide) ks_) ?_
        exact J68_1 _ ((((if_pos c9_1).trans (if_neg c29_2)).trans (if_neg c35_5))).symm
  ·
    refine go (u' := s₁.setTop (mkF m 12 #[.val (.int p0), .val (.int p1), .val (.int ch), .unset, .unset, .unset, .unset] [])) (fun _ ks_ => XS.icmpNo X0.here hx rfl (hb hby at_9) rfl (flt c9_1).1 ks_) ?_
    refine go (u' := s₁.setTop (mkF m 13 #[.val (.int p0), .val (.int p1), .val (.int ch), .unset, .unset, .unset, .unset] [(.int ch)])) (fun _ ks_ => XS.iloadN X0.here hx rfl (hb hby at_12) rfl  ks_) ?_
    refine go (u' := s₁.setTop (mkF m 15 #[.val (.int p0), .val (.int p1), .val (.int ch), .unset, .unset, .unset, .unset] [(.int (57 : Int32)), (.int ch)])) (fun _ ks_ => XS.bipush X0.here hx rfl (hb hby at_13) ks_) ?_
    by_cases c15_8 : (57 : Int32) < ch
    ·
      refine go (u' := s₁.setTop (mkF m 26 #[.val (.int p0), .val (.int p1), .val (.int ch), .unset, .unset, .unset, .unset] [])) (fun _ ks_ => XS.icmpYes X0.here hx rfl (pc0 := 15) (pc' := 26) rfl (hb hby at_15) rfl (tlt c15_8).2.2.1 (by decide) (by decide) ks_) ?_
      refine go (u' := s₁.setTop (mkF m 27 #[.val (.int p0), .val (.int p1), .val (.int ch), .unset, .unset, .unset, .unset] [(.int ch)])) (fun _ ks_ => XS.iloadN X0.here hx rfl (hb hby at_26) rfl  ks_) ?_
      refine go (u' := s₁.setTop (mkF m 29 #[.val (.int p0), .val (.int p1), .val (.int ch), .unset, .unset, .unset, .unset] [(.int (65 : Int32)), (.int ch)])) (fun _ ks_ => XS.bipush X0.here hx rfl (hb hby at_27) ks_) ?_
      by_cases c29_9 : ch < (65 : Int32)
      ·
        refine go (u' := s₁.setTop (mkF m 46 #[.val (.int p0), .val (.int p1), .val (.int ch), .unset, .unset, .unset, .unset] [])) (fun _ ks_ => XS.icmpYes X0.here hx rfl (pc0 := 29) (pc' := 46) rfl (hb hby at_29) rfl (tlt c29_9).1 (by decide) (by decide) ks_) ?_
        refine go (u' := s₁.setTop (mkF m 47 #[.val (.int p0), .val (.int p1), .val (.int ch), .unset, .unset, .unset, .unset] [(.int ch)])) (fun _ ks_ => XS.iloadN X0.here hx rfl (hb hby at_46) rfl  ks_) ?_
        refine go (u' := s₁.setTop (mkF m 49 #[.val (.int p0), .val (.int p1), .val (.int ch), .unset, .unset, .unset, .unset] [(.int (97 : Int32)), (.int ch)])) (fun _ ks_ => XS.bipush X0.here hx rfl (hb hby at_47) ks_) ?_
        by_cases c49_10 : ch < (97 : Int32)
        ·
          refine go (u' := s₁.setTop (mkF m 66 #[.val (.int p0), .val (.int p1), .val (.int ch), .unset, .unset, .unset, .unset] [])) (fun _ ks_ => XS.icmpYes X0.here hx rfl (pc0 := 49) (pc' := 66) rfl (hb hby at_49) rfl (tlt c49_10).1 (by decide) (by decide) ks_) ?_
          refine go (u' := s₁.setTop (mkF m 67 #[.val (.int p0), .val (.int p1), .val (.int ch), .unset, .unset, .unset, .unset] [(.int (-1 : Int32))])) (fun _ ks_ => XS.iconst X0.here hx rfl (hb hby at_66) ks_) ?_
          refine go (u' := s₁.setTop (mkF m 68 #[.val (.int p0), .val (.int p1), .val (.int ch), .val (.int (-1 : Int32)), .unset, .unset, .unset] [])) (fun _ ks_ => XS.istoreN X0.here hx rfl (hb hby at_67) rfl  (l' := #[.val (.int p0), .val (.int p1), .val (.int ch), .val (.int (-1 : Int32)), .unset, .unset, .unset]) rfl ks_) ?_
          exact J68_1 _ (((((if_neg c9_1).trans (if_pos c15_8)).trans (if_pos c29_9)).trans (if_pos c49_10))).symm
        ·
          refine go (u' := s₁.setTop (mkF m 52 #[.val (.int p0), .val (.int p1), .val (.int ch), .unset, .unset, .unset, .unset] [])) (fun _ ks_ => XS.icmpNo X0.here hx rfl (hb hby at_49) rfl (flt c49_10).1 ks_) ?_
          refine go (u' := s₁.setTop (mkF m 53 #[.val (.int p0), .val (.int p1), .val (.int ch), .unset, .unset, .unset, .unset] [(.int ch)])) (fun _ ks_ => XS.iloadN X0.here hx rfl (hb hby at_52) rfl  ks_) ?_
          refine go (u' := s₁.setTop (mkF m 55 #[.val (.int p0), .val (.int p1), .val (.int ch), .unset, .unset, .unset, .unset] [(.int (102 : Int32)), (.int ch)])) (fun _ ks_ => XS.bipush X0.here hx rfl (hb hby at_53) ks_) ?_
          by_cases c55_11 : (102 : Int32) < ch
          ·
            refine go (u' := s₁.setTop (mkF m 66 #[.val (.int p0), .val (.int p1), .val (.int ch), .unset, .unset, .unset, .unset] [])) (fun _ ks_ => XS.icmpYes X0.here hx rfl (pc0 := 55) (pc' := 66) rfl (hb hby at_55) rfl (tlt c55_11).2.2.1 (by decide) (by decide) ks_) ?_
            refine go (u' := s₁.setTop (mkF m 67 #[.val (.int p0), .val (.int p1), .val (.int ch), .unset, .unset, .unset, .unset] [(.int (-1 : Int32))])) (fun _ ks_ => XS.iconst X0.here hx rfl (hb hby at_66) ks_) ?_
            refine go (u' := s₁.setTop (mkF m 68 #[.val (.int p0), .val (.int p1), .val (.int ch), .val (.int (-1 : Int32)), .unset, .unset, .unset] [])) (fun _ ks_ => XS.istoreN X0.here hx rfl (hb hby at_67) rfl  (l' := #[.val (.int p0), .val (.int p1), .val (.int ch), .val (.int (-1 : Int32)), .unset, .unset, .unset]) rfl ks_) ?_
            exact J68_1 _ ((((((if_neg c9_1).trans (if_pos c15_8)).trans (if_pos c29_9)).trans (if_neg c49_10)).trans (if_pos c55_11))).symm
          ·
            refine go (u' := s₁.setTop (mkF m 58 #[.val (.int p0), .val (.int p1), .val (.int ch), .unset, .unset, .unset, .unset] [])) (fun _ ks_ => XS.icmpNo X0.here hx rfl (hb hby at_55) rfl (flt c55_11).2.2.1 ks_) ?_
            refine go (u' := s₁.setTop (mkF m 59 #[.val (.int p0), .val (.int p1), .val (.int ch), .unset, .unset, .unset, .unset] [(.int ch)])) (fun _ ks_ => XS.iloadN X0.here hx rfl (hb hby at_58) rfl  ks_) ?_
            refine go (u' := s₁.setTop (mkF m 61 #[.val (.int p0), .val (.int p1), .val (.int ch), .unset, .unset, .unset, .unset] [(.int (87 : Int32)), (.int ch)])) (fun _ ks_ => XS.bipush X0.here hx rfl (hb hby at_59) ks_) ?_
            refine go (u' := s₁.setTop (mkF m 62 #[.val (.int p0), .val (.int p1), .val (.int ch), .unset, .unset, .unset, .unset] [(.int (ch - (87 : Int32)))])) (fun _ ks_ => XS.isub X0.here hx rfl (hb hby at_61) rfl ks_) ?_
            refine go (u' := s₁.setTop (mkF m 63 #[.val (.int p0), .val (.int p1), .val (.int ch), .val (.int (ch - (87 : Int32))), .unset, .unset, .unset] [])) (fun _ ks_ => XS.istoreN X0.here hx rfl (hb hby at_62) rfl  (l' := #[.val (.int p0), .val (.int p1), .val (.int ch), .val (.int (ch - (87 : Int32))), .unset, .unset, .unset]) rfl ks_) ?_
            refine go (u' := s₁.setTop (mkF m 68 #[.val (.int p0), .val (.int p1), .val (.int ch), .val (.int (ch - (87 : Int32))), .unset, .unset, .unset] [])) (fun _ ks_ => XS.goto X0.here hx rfl (pc0 := 63) (pc' := 68) rfl (hb hby at_63) (by decide) (by decide) ks_) ?_
            exact J68_1 _ ((((((if_neg c9_1).trans (if_pos c15_8)).trans (if_pos c29_9)).trans (if_neg c49_10)).trans (if_neg c55_11))).symm
      ·
        refine go (u' := s₁.setTop (mkF m 32 #[.val (.int p0), .val (.int p1), .val (.int ch), .unset, .unset, .unset, .unset] [])) (fun _ ks_ => XS.icmpNo X0.here hx rfl (hb hby at_29) rfl (flt c29_9).1 ks_) ?_
        refine go (u' := s₁.setTop (mkF m 33 #[.val (.int p0), .val (.int p1), .val (.int ch), .unset, .unset, .unset, .unset] [(.int ch)])) (fun _ ks_ => XS.iloadN X0.here hx rfl (hb hby at_32) rfl  ks_) ?_
        refine go (u' := s₁.setTop (mkF m 35 #[.val (.int p0), .val (.int p1), .val (.int ch), .unset, .unset, .unset, .unset] [(.int (70 : Int32)), (.int ch)])) (fun _ ks_ => XS.bipush X0.here hx rfl (hb hby at_33) ks_) ?_
        by_cases c35_12 : (70 : Int32) < ch
        ·
          refine go (u' := s₁.setTop (mkF m 46 #[.val (.int p0), .val (.int p1), .val (.int ch), .unset, .unset, .unset, .unset] [])) (fun _ ks_ => XS.icmpYes X0.here hx rfl (pc0 := 35) (pc' := 46) rfl (hb hby at_35) rfl (tlt c35_12).2.2.1 (by decide) (by decide) ks_) ?_
          refine go (u' := s₁.setTop (mkF m 47 #[.val (.int p0), .val (.int p1), .val (.int ch), .unset, .unset, .unset, .unset] [(.int ch)])) (fun _ ks_ => XS.iloadN X0.here hx rfl (hb hby at_46) rfl  ks_) ?_
          refine go (u' := s₁.setTop (mkF m 49 #[.val (.int p0), .val (.int p1), .val (.int ch), .unset, .unset, .unset, .unset] [(.int (97 : Int32)), (.int ch)])) (fun _ ks_ => XS.bipush X0.here hx rfl (hb hby at_47) ks_) ?_
          by_cases c49_13 : ch < (97 : Int32)
          ·
            refine go (u' := s₁.setTop (mkF m 66 #[.val (.int p0), .val (.int p1), .val (.int ch), .unset, .unset, .unset, .unset] [])) (fun _ ks_ => XS.icmpYes X0.here hx rfl (pc0 := 49) (pc' := 66) rfl (hb hby at_49) rfl (tlt c49_13).1 (by decide) (by decide) ks_) ?_
            refine go (u' := s₁.setTop (mkF m 67 #[.val (.int p0), .val (.int p1), .val (.int ch), .unset, .unset, .unset, .unset] [(.int (-1 : Int32))])) (fun _ ks_ => XS.iconst X0.here hx rfl (hb hby at_66) ks_) ?_
            refine go (u' := s₁.setTop (mkF m 68 #[.val (.int p0), .val (.int p1), .val (.int ch), .val (.int (-1 : Int32)), .unset, .unset, .unset] [])) (fun _ ks_ => XS.istoreN X0.here hx rfl (hb hby at_67) rfl  (l' := #[.val (.int p0), .val (.int p1), .val (.int ch), .val (.int (-1 : Int32)), .unset, .unset, .unset]) rfl ks_) ?_
            exact J68_1 _ ((((((if_neg c9_1).trans (if_pos c15_8)).trans (if_neg c29_9)).trans (if_pos c35_12)).trans (if_pos c49_13))).symm
          ·
            refine go (u' := s₁.setTop (mkF m 52 #[.val (.int p0), .val (.int p1), .val (.int ch), .unset, .unset, .unset, .unset] [])) (fun _ ks_ => XS.icmpNo X0.here hx rfl (hb hby at_49) rfl (flt c49_13).1 ks_) ?_
            refine go (u' := s₁.setTop (mkF m 53 #[.val (.int p0), .val (.int p1), .val (.int ch), .unset, .unset, .unset, .unset] [(.int ch)])) (fun _ ks_ => XS.iloadN X0.here hx rfl (hb hby at_52) rfl  ks_) ?_
            refine go (u' := s₁.setTop (mkF m 55 #[.val (.int p0), .val (.int p1), .val (.int ch), .unset, .unset, .unset, .unset] [(.int (102 : Int32)), (.int ch)])) (fun _ ks_ => XS.bipush X0.here hx rfl (hb hby at_53) ks_) ?_
            by_cases c55_14 : (102 : Int32) < ch
            ·
              refine go (u' := s₁.setTop (mkF m 66 #[.val (.int p0), .val (.int p1), .val (.int ch), .unset, .unset, .unset, .unset] [])) (fun _ ks_ => XS.icmpYes X0.here hx rfl (pc0 := 55) (pc' := 66) rfl (hb hby at_55) rfl (tlt c55_14).2.2.1 (by decide) (by decide) ks_) ?_
              refine go (u' := s₁.setTop (mkF m 67 #[.val (.int p0), .val (.int p1), .val (.int ch), .unset, .unset, .unset, .unset] [(.int (-1 : Int32))])) (fun _ ks_ => XS.iconst X0.here hx rfl (hb hby at_66) ks_) ?_
              refine go (u' := s₁.setTop (mkF m 68 #[.val (.int p0), .val (.int p1), .val (.int ch), .val (.int (-1 : Int32)), .unset, .unset, .unset] [])) (fun _ ks_ => XS.istoreN X0.here hx rfl (hb hby at_67) rfl  (l' := #[.val (.int p0), .val (.int p1), .val (.int ch), .val (.int (-1 : Int32)), .unset, .unset, .unset]) rfl ks_) ?_
              exact J68_1 _ (((((((if_neg c9_1).trans (if_pos c15_8)).trans (if_neg c29_9)).trans (if_pos c35_12)).trans (if_neg c49_13)).trans (if_pos c55_14))).symm
            ·
              refine go (u' := s₁.setTop (mkF m 58 #[.val (.int p0), .val (.int p1), .val (.int ch), .unset, .unset, .unset, .unset] [])) (fun _ ks_ => XS.icmpNo X0.here hx rfl (hb hby at_55) rfl (flt c55_14).2.2.1 ks_) ?_
              refine go (u' := s₁.setTop (mkF m 59 #[.val (.int p0), .val (.int p1), .val (.int ch), .unset, .unset, .unset, .unset] [(.int ch)])) (fun _ ks_ => XS.iloadN X0.here hx rfl (hb hby at_58) rfl  ks_) ?_
              refine go (u' := s₁.setTop (mkF m 61 #[.val (.int p0), .val (.int p1), .val (.int ch), .unset, .unset, .unset, .unset] [(.int (87 : Int32)), (.int ch)])) (fun _ ks_ => XS.bipush X0.here hx rfl (hb hby at_59) ks_) ?_
              refine go (u' := s₁.setTop (mkF m 62 #[.val (.int p0), .val (.int p1), .val (.int ch), .unset, .unset, .unset, .unset] [(.int (ch - (87 : Int32)))])) (fun _ ks_ => XS.isub X0.here hx rfl (hb hby at_61) rfl ks_) ?_
              refine go (u' := s₁.setTop (mkF m 63 #[.val (.int p0), .val (.int p1), .val (.int ch), .val (.int (ch - (87 : Int32))), .unset, .unset, .unset] [])) (fun _ ks_ => XS.istoreN X0.here hx rfl (hb hby at_62) rfl  (l' := #[.val (.int p0), .val (.int p1), .val (.int ch), .val (.int (ch - (87 : Int32))), .unset, .unset, .unset]) rfl ks_) ?_
              refine go (u' := s₁.setTop (mkF m 68 #[.val (.int p0), .val (.int p1), .val (.int ch), .val (.int (ch - (87 : Int32))), .unset, .unset, .unset] [])) (fun _ ks_ => XS.goto X0.here hx rfl (pc0 := 63) (pc' := 68) rfl (hb hby at_63) (by decide) (by decide) ks_) ?_
              exact J68_1 _ (((((((if_neg c9_1).trans (if_pos c15_8)).trans (if_neg c29_9)).trans (if_pos c35_12)).trans (if_neg c49_13)).trans (if_neg c55_14))).symm
        ·
          refine go (u' := s₁.setTop (mkF m 38 #[.val (.int p0), .val (.int p1), .val (.int ch), .unset, .unset, .unset, .unset] [])) (fun _ ks_ => XS.icmpNo X0.here hx rfl (hb hby at_35) rfl (flt c35_12).2.2.1 ks_) ?_
          refine go (u' := s₁.setTop (mkF m 39 #[.val (.int p0), .val (.int p1), .val (.int ch), .unset, .unset, .unset, .unset] [(.int ch)])) (fun _ ks_ => XS.iloadN X0.here hx rfl (hb hby at_38) rfl  ks_) ?_
          refine go (u' := s₁.setTop (mkF m 41 #[.val (.int p0), .val (.int p1), .val (.int ch), .unset, .unset, .unset, .unset] [(.int (55 : Int32)), (.int ch)])) (fun _ ks_ => XS.bipush X0.here hx rfl (hb hby at_39) ks_) ?_
          refine go (u' := s₁.setTop (mkF m 42 #[.val (.int p0), .val (.int p1), .val (.int ch), .unset, .unset, .unset, .unset] [(.int (ch - (55 : Int32)))])) (fun _ ks_ => XS.isub X0.here hx rfl (hb hby at_41) rfl ks_) ?_
          refine go (u' := s₁.setTop (mkF m 43 #[.val (.int p0), .val (.int p1), .val (.int ch), .val (.int (ch - (55 : Int32))), .unset, .unset, .unset] [])) (fun _ ks_ => XS.istoreN X0.here hx rfl (hb hby at_42) rfl  (l' := #[.val (.int p0), .val (.int p1), .val (.int ch), .val (.int (ch - (55 : Int32))), .unset, .unset, .unset]) rfl ks_) ?_
          refine go (u' := s₁.setTop (mkF m 68 #[.val (.int p0), .val (.int p1), .val (.int ch), .val (.int (ch - (55 : Int32))), .unset, .unset, .unset] [])) (fun _ ks_ => XS.goto X0.here hx rfl (pc0 := 43) (pc' := 68) rfl (hb hby at_43) (by decide) (by decide) ks_) ?_
          exact J68_1 _ (((((if_neg c9_1).trans (if_pos c15_8)).trans (if_neg c29_9)).trans (if_neg c35_12))).symm
    ·
      refine go (u' := s₁.setTop (mkF m 18 #[.val (.int p0), .val (.int p1), .val (.int ch), .unset, .unset, .unset, .unset] [])) (fun _ ks_ => XS.icmpNo X0.here hx rfl (hb hby at_15) rfl (flt c15_8).2.2.1 ks_) ?_
      refine go (u' := s₁.setTop (mkF m 19 #[.val (.int p0), .val (.int p1), .val (.int ch), .unset, .unset, .unset, .unset] [(.int ch)])) (fun _ ks_ => XS.iloadN X0.here hx rfl (hb hby at_18) rfl  ks_) ?_
      refine go (u' := s₁.setTop (mkF m 21 #[.val (.int p0), .val (.int p1), .val (.int ch), .unset, .unset, .unset, .unset] [(.int (48 : Int32)), (.int ch)])) (fun _ ks_ => XS.bipush X0.here hx rfl (hb hby at_19) ks_) ?_
      refine go (u' := s₁.setTop (mkF m 22 #[.val (.int p0), .val (.int p1), .val (.int ch), .unset, .unset, .unset, .unset] [(.int (ch - (48 : Int32)))])) (fun _ ks_ => XS.isub X0.here hx rfl (hb hby at_21) rfl ks_) ?_
      refine go (u' := s₁.setTop (mkF m 23 #[.val (.int p0), .val (.int p1), .val (.int ch), .val (.int (ch - (48 : Int32))), .unset, .unset, .unset] [])) (fun _ ks_ => XS.istoreN X0.here hx rfl (hb hby at_22) rfl  (l' := #[.val (.int p0), .val (.int p1), .val (.int ch), .val (.int (ch - (48 : Int32))), .unset, .unset, .unset]) rfl ks_) ?_
      refine go (u' := s₁.setTop (mkF m 68 #[.val (.int p0), .val (.int p1), .val (.int ch), .val (.int (ch - (48 : Int32))), .unset, .unset, .unset] [])) (fun _ ks_ => XS.goto X0.here hx rfl (pc0 := 23) (pc' := 68) rfl (hb hby at_23) (by decide) (by decide) ks_) ?_
      exact J68_1 _ (((if_neg c9_1).trans (if_neg c15_8))).symm
theorem own_held {s : State} {own : String} {i : Nat} (h : Jvm.D.constHeld s own i) : Jvm.Lit.constHeld s own i := h
set_option maxRecDepth 65536 in
set_option maxHeartbeats 40000000 in
theorem comes_1 {Post : Tables → Env → Array Value → State → Outcome → State → Prop} (hpost : ∀ tb e args s v u, (limb_1_1.after args s (.returned v) u = true ∧ limb_1_2.after args s (.returned v) u = true ∧ True) → FramedW s (.returned v) u (Jvm.fieldLocs frame_1_writes args s ++ Jvm.arrayLocs frame_1_arrays args s ++ Jvm.staticLocs frame_1_statics s) 8 2112 → Post tb e args s (.returned v) u) :
    ArmFor flags0 classFile x code maxLocals ret World_1 tables_1 room_1 Calls_1 rest_1 Pre_1 Post := by
  intro l hfl _ _ p e ha hc hk s m args below hf hA hF happ hP
  obtain ⟨hcalls, hrest, hpre⟩ := hP
  obtain ⟨-, -, -, hnamed, -, -, -, hat⟩ := (Spec.applies_iff hf).mp happ
  obtain ⟨hg, hn⟩ := and_e (Cond.before_iff.mp (show (Jvm.Cond.and given_1 narrow_1).before args s = true from hpre))
  obtain ⟨hcount, r0⟩ := and_e hg
  obtain ⟨a0, r1⟩ := and_e r0
  obtain ⟨w0, w1, rfl⟩ : ∃ w0 w1 : Value, args = #[w0, w1] := by
    have hs : args.size = 2 := by simpa [Cond.value, given_1] using hcount
    obtain ⟨L⟩ := args
    match L, hs with
    | [w0, w1], _ => exact ⟨w0, w1, rfl⟩
  have hw := fun d (hd : d ∈ tables_1) => atoms_spec (ws := Jvm.Cond.code x code maxLocals ret :: tables_1) hat d (List.mem_cons_of_mem _ hd)
  obtain ⟨hsets, hown0⟩ := atoms_of _ (rest_1_c_eq ▸ (show rest_1_c.before _ s = true from hrest))
  have hfit : Fit s := fun {y c} hc i hi => by
    obtain ⟨ha, rfl⟩ := Array.getElem?_eq_some_iff.mp hc
    have q := List.all_eq_true.mp ((Array.all_eq_true_iff_forall_mem.mp hF) _ (Array.getElem_mem ha)) i (List.mem_range.mpr hi)
    simpa [Array.getElem?_eq_getElem hi] using q
  obtain ⟨x0, e0⟩ := is_v a0
  obtain rfl : w0 = (.int x0) := Option.some.inj e0
  obtain ⟨x1, e1⟩ := is_v r1
  obtain rfl : w1 = (.int x1) := Option.some.inj e1
  obtain ⟨cs, ecs⟩ := is_v (Cond.before_iff.mp (hsets _ (List.mem_of_getElem? (i := 1) rfl)))
  have S1 : Sta s s.heap "java/lang/String" "COMPACT_STRINGS" "Z" (.int cs) := Sta.start ecs (Or.inl (hsets _ (List.mem_of_getElem? (i := 0) rfl)))
  have hcs : ¬ (cs = (0 : Int32)) := gotF (Cond.eq_ints ecs (Term.int_eval (0))) (not_v (Cond.before_iff.mp (hsets _ (List.mem_of_getElem? (i := 2) rfl))))
  obtain ⟨fv, efv, hrf⟩ := isR_v (Cond.before_iff.mp (hsets _ (List.mem_of_getElem? (i := 8) rfl)))
  have S2 : Sta s s.heap "jdk/internal/util/Preconditions" "SIOOBE_FORMATTER" "Ljava/util/function/BiFunction;" fv := Sta.start efv (Or.inl (hsets _ (List.mem_of_getElem? (i := 7) rfl)))
  obtain ⟨n, o, h1, h2, h3, _, L, rfl, ⟨rfl, N⟩, hq⟩ := rm0 l s _ hw tables_1 x0 x1 cs fv s.heap s.heap.size (Nat.le_refl _) S1 S2 hcs hrf rfl (own_held (hcalls.1 ("com/example/locattr/locattr/UriReferencesHexValuePinLaw", 14) (by simp [consts_1]))) (own_held (hcalls.1 ("com/example/locattr/locattr/UriReferencesHexValuePinLaw", 16) (by simp [consts_1]))) (hsets _ (List.mem_of_getElem? (i := 2) rfl)) rfl p e ha hc hk s m _ below hf ((Spec.applies_iff_loose hf).mp happ).1 ⟨rfl, State.Warmed39.refl s, rfl, rfl⟩ trivial
  refine ⟨n, _, h1, h2, h3, hpost _ _ _ _ _ _ ⟨Cond.after_iff.mpr rfl, Cond.after_iff.mpr (eq_i res_at (Term.int_eval (1)) rfl), trivial⟩ ⟨hq.1, hq.2.1, hq.2.2.1, (hq.2.2.2.sift fun y hy => Or.inr (N y hy)).mono (by decide) (by decide)⟩⟩
theorem main_1_1 : Claimed_1_1 := comes_1 fun _ _ _ _ _ _ h hF => ⟨h.1, hF⟩
theorem main_1_2 : Claimed_1_2 := comes_1 fun _ _ _ _ _ _ h hF => ⟨h.2.1, hF⟩
end Jvm.Pilot.@@N@@
namespace Jvm.Pilot.@@N@@
open Jvm Jvm.ClassFile Sem Op Lib Jvm.Free Jvm.Stand Jvm.Pilot.@@N@@.Jvm.D
/-! MADE BY PROGRAM (witnessworld.py) out of the Statement's table words and the real class files: 17 classes; the members and pool entries that the words name. The judged class is class 1, her method 1. -/
namespace start1
open Jvm.ClassFile
def u (s : String) : CpInfo := .utf8 (stringToUtf16 s)
/-- a pool by its gaps: so many unusable entries, then the entry; so many at the end -/
def gap : Nat → List CpInfo → List CpInfo
  | 0, r => r
  | n + 1, r => .unusable :: gap n r
def poolList (es : List (Nat × CpInfo)) (last : Nat) : List CpInfo := es.foldr (fun e r => gap e.1 (e.2 :: r)) (gap last [])
def pool (es : List (Nat × CpInfo)) (last : Nat) : Array CpInfo := ⟨poolList es last⟩
def fileOf (pool : Array CpInfo) (this : Nat) (attrs : Array Attribute := #[]) (ms : Array MethodInfo := #[]) (fl : Nat := 33) (sup : Nat := 0) (ifs : Array Nat := #[]) (fds : Array FieldInfo := #[]) : ClassFile where
  minorVersion := 0
  majorVersion := 65
  constantPool := pool
  accessFlags := fl
  thisClass := this
  superClass := sup
  interfaces := ifs
  fields := fds
  methods := ms
  attributes := attrs
def plain (name : String) (sup : Option ClassId) : Class where
  name := name
  kind := .ordinary
  loader := none
  accessFlags := 33
  super := sup
  interfaces := #[]
  cf := none
  fields := #[]
  methods := #[]
  instanceTypes := #[]
  staticTypes := #[]
  resolved := #[]
  callSites := []
  init := .initialized
  statics := none
  mirror := none

def pool0 : Array CpInfo := pool [(5, u "<init>"), (0, u "()V"), (1, .class_ 10), (1, u "java/lang/Object")] 113

def k0m0 : Method := { name := "<init>", desc := "()V", sig := { parameters := [], returnType := none }, accessFlags := 1, code := none }
/-- java/lang/Object -/
def k0 : Class := { plain "java/lang/Object" none with
  accessFlags := 33
  interfaces := #[]
  cf := some (fileOf pool0 8 #[] #[{ accessFlags := 1, nameIndex := 5, descriptorIndex := 6, attributes := #[] }] 33 0 #[] #[])
  fields := #[]
  methods := #[k0m0]
  instanceTypes := #[]
  staticTypes := #[]
  resolved := Array.replicate 124 none
  statics := none }

def pool1 : Array CpInfo := pool [(2, .class_ 4), (1, u "java/lang/Object"), (0, u "<init>"), (0, u "()V"), (0, .integer 65535), (0, .methodref 9 10), (0, .class_ 11), (0, .nameAndType 12 13), (0, u "com/example/locattr/locattr/UriReferences"), (0, u "hexValue"), (0, u "(C)I"), (0, .string 15), (0, u "0123456789ABCDEF"), (0, .string 17), (0, u "0123456789abcdef"), (0, .methodref 19 20), (0, .class_ 21), (0, .nameAndType 22 23), (0, u "java/lang/String"), (0, u "charAt"), (0, u "(I)C"), (0, .class_ 25), (0, u "com/example/locattr/locattr/UriReferencesHexValuePinLaw"), (2, u "law"), (0, u "(II)Z")] 3

def k1m0 : Method := { name := "<init>", desc := "()V", sig := { parameters := [], returnType := none }, accessFlags := 1, code := none }
def k1c1 : Code := { maxStack := 2, maxLocals := 7, code := code, exceptionTable := #[], attributes := #[] }
def k1m1 : Method := { name := "law", desc := "(II)Z", sig := { parameters := [.int, .int], returnType := some .boolean }, accessFlags := 9, code := some k1c1 }
/-- com/example/locattr/locattr/UriReferencesHexValuePinLaw -/
def k1 : Class := { plain "com/example/locattr/locattr/UriReferencesHexValuePinLaw" (some 0) with
  accessFlags := 49
  interfaces := #[]
  cf := some (fileOf pool1 24 #[] #[{ accessFlags := 1, nameIndex := 5, descriptorIndex := 6, attributes := #[] }, { accessFlags := 9, nameIndex := 28, descriptorIndex := 29, attributes := #[] }] 49 2 #[] #[])
  fields := #[]
  methods := #[k1m0, k1m1]
  instanceTypes := #[]
  staticTypes := #[]
  resolved := Array.replicate 33 none
  statics := none }

def pool2 : Array CpInfo := pool [(2, .class_ 4), (1, u "java/lang/Object"), (0, u "<init>"), (0, u "()V"), (11, .class_ 20), (1, u "com/example/locattr/locattr/UriReferences"), (86, u "hexValue"), (0, u "(C)I"), (5, u "ESCAPED_LOW"), (0, u "J"), (2, u "ESCAPED_HIGH"), (4, u "HEX_DIGITS"), (0, u "[C"), (14, u "EXCLUDED"), (0, u "Ljava/lang/String;"), (1, u "MOST_ESCAPED"), (0, u "I"), (15, .class_ 160), (0, u "com/example/locattr/locattr/UriReferences$Parts")] 2

def k2m0 : Method := { name := "<init>", desc := "()V", sig := { parameters := [], returnType := none }, accessFlags := 2, code := none }
def k2c1 : Code := { maxStack := 2, maxLocals := 1, code := prog_109_method_11_code, exceptionTable := #[], attributes := #[] }
def k2m1 : Method := { name := "hexValue", desc := "(C)I", sig := { parameters := [.char], returnType := some .int }, accessFlags := 8, code := some k2c1 }
/-- com/example/locattr/locattr/UriReferences -/
def k2 : Class := { plain "com/example/locattr/locattr/UriReferences" (some 0) with
  accessFlags := 48
  interfaces := #[]
  cf := some (fileOf pool2 18 #[.nestMembers #[159]] #[{ accessFlags := 2, nameIndex := 5, descriptorIndex := 6, attributes := #[] }, { accessFlags := 8, nameIndex := 107, descriptorIndex := 108, attributes := #[] }] 48 2 #[] #[{ accessFlags := 26, nameIndex := 139, descriptorIndex := 140, attributes := #[] }, { accessFlags := 26, nameIndex := 114, descriptorIndex := 115, attributes := #[] }, { accessFlags := 26, nameIndex := 118, descriptorIndex := 115, attributes := #[] }, { accessFlags := 26, nameIndex := 123, descriptorIndex := 124, attributes := #[] }, { accessFlags := 24, nameIndex := 142, descriptorIndex := 143, attributes := #[] }])
  fields := #[{ name := "EXCLUDED", type := (.object "java/lang/String"), accessFlags := 26, slot := 0, constantValue := 0 }, { name := "ESCAPED_LOW", type := .long, accessFlags := 26, slot := 1, constantValue := 0 }, { name := "ESCAPED_HIGH", type := .long, accessFlags := 26, slot := 2, constantValue := 0 }, { name := "HEX_DIGITS", type := (.array .char), accessFlags := 26, slot := 3, constantValue := 0 }, { name := "MOST_ESCAPED", type := .int, accessFlags := 24, slot := 4, constantValue := 0 }]
  methods := #[k2m0, k2m1]
  instanceTypes := #[]
  staticTypes := #[(.object "java/lang/String"), .long, .long, (.array .char), .int]
  resolved := Array.replicate 163 none
  statics := none }

def pool3 : Array CpInfo := pool [(1, .class_ 2), (0, u "java/io/Serializable"), (0, .class_ 4), (0, u "java/lang/Object")] 2

/-- java/io/Serializable -/
def k3 : Class := { plain "java/io/Serializable" (some 0) with
  accessFlags := 1537
  interfaces := #[]
  cf := some (fileOf pool3 1 #[] #[] 1537 3 #[] #[])
  fields := #[]
  methods := #[]
  instanceTypes := #[]
  staticTypes := #[]
  resolved := Array.replicate 7 none
  statics := none }

def pool4 : Array CpInfo := pool [(1, .class_ 2), (0, u "java/lang/Comparable"), (0, .class_ 4), (0, u "java/lang/Object")] 7

/-- java/lang/Comparable -/
def k4 : Class := { plain "java/lang/Comparable" (some 0) with
  accessFlags := 1537
  interfaces := #[]
  cf := some (fileOf pool4 1 #[] #[] 1537 3 #[] #[])
  fields := #[]
  methods := #[]
  instanceTypes := #[]
  staticTypes := #[]
  resolved := Array.replicate 12 none
  statics := none }

def pool5 : Array CpInfo := pool [(2, .class_ 4), (1, u "java/lang/CharSequence"), (42, .class_ 48), (0, u "java/lang/CharSequence$1CodePointIterator"), (10, .class_ 60), (0, u "java/lang/CharSequence$1CharIterator"), (5, .class_ 67), (0, u "java/lang/Object")] 63

/-- java/lang/CharSequence -/
def k5 : Class := { plain "java/lang/CharSequence" (some 0) with
  accessFlags := 1537
  interfaces := #[]
  cf := some (fileOf pool5 2 #[.nestMembers #[47, 59]] #[] 1537 66 #[] #[])
  fields := #[]
  methods := #[]
  instanceTypes := #[]
  staticTypes := #[]
  resolved := Array.replicate 131 none
  statics := none }

def pool6 : Array CpInfo := pool [(1, .class_ 2), (0, u "java/lang/constant/Constable"), (0, .class_ 4), (0, u "java/lang/Object")] 6

/-- java/lang/constant/Constable -/
def k6 : Class := { plain "java/lang/constant/Constable" (some 0) with
  accessFlags := 1537
  interfaces := #[]
  cf := some (fileOf pool6 1 #[] #[] 1537 3 #[] #[])
  fields := #[]
  methods := #[]
  instanceTypes := #[]
  staticTypes := #[]
  resolved := Array.replicate 11 none
  statics := none }

def pool7 : Array CpInfo := pool [(1, .class_ 2), (0, u "java/lang/constant/ConstantDesc"), (0, .class_ 4), (0, u "java/lang/Object")] 32

/-- java/lang/constant/ConstantDesc -/
def k7 : Class := { plain "java/lang/constant/ConstantDesc" (some 0) with
  accessFlags := 1537
  interfaces := #[]
  cf := some (fileOf pool7 1 #[] #[] 1537 3 #[] #[])
  fields := #[]
  methods := #[]
  instanceTypes := #[]
  staticTypes := #[]
  resolved := Array.replicate 37 none
  statics := none }

def pool8 : Array CpInfo := pool [(2, .class_ 4), (1, u "java/lang/Object"), (0, u "<init>"), (0, u "()V"), (2, .fieldref 10 11), (0, .class_ 12), (0, .nameAndType 13 14), (0, u "java/lang/String"), (0, u "value"), (0, u "[B"), (0, .fieldref 10 16), (0, .nameAndType 17 18), (0, u "coder"), (0, u "B"), (2, u "hash"), (0, u "I"), (2, u "hashIsZero"), (0, u "Z"), (11, .fieldref 10 39), (0, .nameAndType 40 26), (0, u "COMPACT_STRINGS"), (66, .class_ 109), (1, u "java/lang/StringLatin1"), (32, u "()Z"), (220, u "([BI)C"), (27, u "(II)V"), (35, u "(I)C"), (64, .methodref 10 493), (0, .nameAndType 494 142), (0, u "isLatin1"), (0, .methodref 107 496), (0, .nameAndType 497 363), (0, u "charAt"), (3, u "checkIndex"), (73, .class_ 576), (0, u "java/lang/CharSequence"), (22, u "CASE_INSENSITIVE_ORDER"), (0, u "Ljava/util/Comparator;"), (452, .fieldref 1054 1055), (0, .class_ 1056), (0, .nameAndType 1057 1058), (0, u "jdk/internal/util/Preconditions"), (0, u "SIOOBE_FORMATTER"), (0, u "Ljava/util/function/BiFunction;"), (0, .methodref 1054 1060), (0, .nameAndType 501 1061), (0, u "(IILjava/util/function/BiFunction;)I"), (39, u "serialPersistentFields"), (0, u "[Ljava/io/ObjectStreamField;"), (0, .class_ 1104), (0, u "java/lang/String$CaseInsensitiveComparator"), (1, .class_ 1107), (0, u "java/io/Serializable"), (0, .class_ 1109), (0, u "java/lang/Comparable"), (0, .class_ 1111), (0, u "java/lang/constant/Constable"), (0, .class_ 1113), (0, u "java/lang/constant/ConstantDesc"), (2, u "serialVersionUID"), (0, u "J"), (3, u "REPL"), (0, u "C"), (2, u "LATIN1"), (1, u "UTF16")] 323

def k8m0 : Method := { name := "<init>", desc := "()V", sig := { parameters := [], returnType := none }, accessFlags := 1, code := none }
def k8c1 : Code := { maxStack := 2, maxLocals := 2, code := jdk_42_method_56_code, exceptionTable := #[], attributes := #[] }
def k8m1 : Method := { name := "charAt", desc := "(I)C", sig := { parameters := [.int], returnType := some .char }, accessFlags := 1, code := some k8c1 }
def k8c2 : Code := { maxStack := 1, maxLocals := 1, code := jdk_42_method_154_code, exceptionTable := #[], attributes := #[] }
def k8m2 : Method := { name := "isLatin1", desc := "()Z", sig := { parameters := [], returnType := some .boolean }, accessFlags := 0, code := some k8c2 }
def k8c3 : Code := { maxStack := 3, maxLocals := 2, code := jdk_42_method_155_code, exceptionTable := #[], attributes := #[] }
def k8m3 : Method := { name := "checkIndex", desc := "(II)V", sig := { parameters := [.int, .int], returnType := none }, accessFlags := 8, code := some k8c3 }
/-- java/lang/String -/
def k8 : Class := { plain "java/lang/String" (some 0) with
  accessFlags := 49
  interfaces := #[3, 4, 5, 6, 7]
  cf := some (fileOf pool8 10 #[.nestMembers #[1103]] #[{ accessFlags := 1, nameIndex := 5, descriptorIndex := 6, attributes := #[] }, { accessFlags := 1, nameIndex := 497, descriptorIndex := 427, attributes := #[] }, { accessFlags := 0, nameIndex := 494, descriptorIndex := 142, attributes := #[] }, { accessFlags := 8, nameIndex := 501, descriptorIndex := 391, attributes := #[] }] 49 2 #[1106, 1108, 575, 1110, 1112] #[{ accessFlags := 18, nameIndex := 13, descriptorIndex := 14, attributes := #[] }, { accessFlags := 18, nameIndex := 17, descriptorIndex := 18, attributes := #[] }, { accessFlags := 2, nameIndex := 21, descriptorIndex := 22, attributes := #[] }, { accessFlags := 2, nameIndex := 25, descriptorIndex := 26, attributes := #[] }, { accessFlags := 26, nameIndex := 1116, descriptorIndex := 1117, attributes := #[] }, { accessFlags := 24, nameIndex := 40, descriptorIndex := 26, attributes := #[] }, { accessFlags := 26, nameIndex := 1101, descriptorIndex := 1102, attributes := #[] }, { accessFlags := 26, nameIndex := 1121, descriptorIndex := 1122, attributes := #[] }, { accessFlags := 25, nameIndex := 599, descriptorIndex := 600, attributes := #[] }, { accessFlags := 24, nameIndex := 1125, descriptorIndex := 18, attributes := #[] }, { accessFlags := 24, nameIndex := 1127, descriptorIndex := 18, attributes := #[] }])
  fields := #[{ name := "value", type := (.array .byte), accessFlags := 18, slot := 0, constantValue := 0 }, { name := "coder", type := .byte, accessFlags := 18, slot := 1, constantValue := 0 }, { name := "hash", type := .int, accessFlags := 2, slot := 2, constantValue := 0 }, { name := "hashIsZero", type := .boolean, accessFlags := 2, slot := 3, constantValue := 0 }, { name := "serialVersionUID", type := .long, accessFlags := 26, slot := 0, constantValue := 0 }, { name := "COMPACT_STRINGS", type := .boolean, accessFlags := 24, slot := 1, constantValue := 0 }, { name := "serialPersistentFields", type := (.array (.object "java/io/ObjectStreamField")), accessFlags := 26, slot := 2, constantValue := 0 }, { name := "REPL", type := .char, accessFlags := 26, slot := 3, constantValue := 0 }, { name := "CASE_INSENSITIVE_ORDER", type := (.object "java/util/Comparator"), accessFlags := 25, slot := 4, constantValue := 0 }, { name := "LATIN1", type := .byte, accessFlags := 24, slot := 5, constantValue := 0 }, { name := "UTF16", type := .byte, accessFlags := 24, slot := 6, constantValue := 0 }]
  methods := #[k8m0, k8m1, k8m2, k8m3]
  instanceTypes := #[(.array .byte), .byte, .int, .boolean]
  staticTypes := #[.long, .boolean, (.array (.object "java/io/ObjectStreamField")), .char, (.object "java/util/Comparator"), .byte, .byte]
  resolved := Array.replicate 1451 none
  statics := some 0 }

def pool9 : Array CpInfo := pool [(1, .class_ 2), (0, u "java/lang/String"), (1, .class_ 6), (1, u "java/lang/Object"), (0, u "<init>"), (0, u "()V"), (0, .methodref 1 10), (0, .nameAndType 11 12), (0, u "checkIndex"), (0, u "(II)V"), (1, .class_ 16), (1, u "java/lang/StringLatin1"), (36, u "([BI)C"), (67, u "$assertionsDisabled"), (0, u "Z"), (98, .class_ 223), (1, u "java/lang/StringLatin1$LinesSpliterator"), (28, u "charAt"), (137, .class_ 391), (0, u "java/lang/StringLatin1$CharsSpliterator")] 3

def k9m0 : Method := { name := "<init>", desc := "()V", sig := { parameters := [], returnType := none }, accessFlags := 0, code := none }
def k9c1 : Code := { maxStack := 2, maxLocals := 2, code := jdk_43_method_2_code, exceptionTable := #[], attributes := #[] }
def k9m1 : Method := { name := "charAt", desc := "([BI)C", sig := { parameters := [(.array .byte), .int], returnType := some .char }, accessFlags := 9, code := some k9c1 }
/-- java/lang/StringLatin1 -/
def k9 : Class := { plain "java/lang/StringLatin1" (some 0) with
  accessFlags := 48
  interfaces := #[]
  cf := some (fileOf pool9 14 #[.nestMembers #[390, 221]] #[{ accessFlags := 0, nameIndex := 7, descriptorIndex := 8, attributes := #[] }, { accessFlags := 9, nameIndex := 252, descriptorIndex := 53, attributes := #[] }] 48 4 #[] #[{ accessFlags := 4120, nameIndex := 121, descriptorIndex := 122, attributes := #[] }])
  fields := #[{ name := "$assertionsDisabled", type := .boolean, accessFlags := 4120, slot := 0, constantValue := 0 }]
  methods := #[k9m0, k9m1]
  instanceTypes := #[]
  staticTypes := #[.boolean]
  resolved := Array.replicate 395 none
  statics := none }

def pool10 : Array CpInfo := pool [(2, .class_ 4), (1, u "java/lang/Object"), (0, u "<init>"), (0, u "()V"), (17, .class_ 26), (1, u "jdk/internal/util/Preconditions"), (6, u "checkIndex"), (21, .class_ 56), (0, u "jdk/internal/util/Preconditions$4"), (57, .class_ 115), (0, u "jdk/internal/util/Preconditions$1"), (7, u "SIOOBE_FORMATTER"), (0, u "Ljava/util/function/BiFunction;"), (0, .class_ 126), (0, u "jdk/internal/util/Preconditions$2"), (3, u "AIOOBE_FORMATTER"), (0, .class_ 132), (0, u "jdk/internal/util/Preconditions$3"), (3, u "IOOBE_FORMATTER"), (41, u "(IILjava/util/function/BiFunction;)I")] 15

def k10m0 : Method := { name := "<init>", desc := "()V", sig := { parameters := [], returnType := none }, accessFlags := 1, code := none }
def k10c1 : Code := { maxStack := 3, maxLocals := 3, code := jdk_41_method_11_code, exceptionTable := #[], attributes := #[] }
def k10m1 : Method := { name := "checkIndex", desc := "(IILjava/util/function/BiFunction;)I", sig := { parameters := [.int, .int, (.object "java/util/function/BiFunction")], returnType := some .int }, accessFlags := 9, code := some k10c1 }
/-- jdk/internal/util/Preconditions -/
def k10 : Class := { plain "jdk/internal/util/Preconditions" (some 0) with
  accessFlags := 33
  interfaces := #[]
  cf := some (fileOf pool10 24 #[.nestMembers #[55, 131, 125, 114]] #[{ accessFlags := 1, nameIndex := 5, descriptorIndex := 6, attributes := #[] }, { accessFlags := 9, nameIndex := 33, descriptorIndex := 178, attributes := #[] }] 33 2 #[] #[{ accessFlags := 25, nameIndex := 123, descriptorIndex := 124, attributes := #[] }, { accessFlags := 25, nameIndex := 130, descriptorIndex := 124, attributes := #[] }, { accessFlags := 25, nameIndex := 136, descriptorIndex := 124, attributes := #[] }])
  fields := #[{ name := "SIOOBE_FORMATTER", type := (.object "java/util/function/BiFunction"), accessFlags := 25, slot := 0, constantValue := 0 }, { name := "AIOOBE_FORMATTER", type := (.object "java/util/function/BiFunction"), accessFlags := 25, slot := 1, constantValue := 0 }, { name := "IOOBE_FORMATTER", type := (.object "java/util/function/BiFunction"), accessFlags := 25, slot := 2, constantValue := 0 }]
  methods := #[k10m0, k10m1]
  instanceTypes := #[]
  staticTypes := #[(.object "java/util/function/BiFunction"), (.object "java/util/function/BiFunction"), (.object "java/util/function/BiFunction")]
  resolved := Array.replicate 194 none
  statics := some 1 }

def pool11 : Array CpInfo := pool [(9, u "<init>"), (6, .class_ 18), (1, u "java/lang/Object"), (0, u "()V"), (1, .class_ 23), (1, u "jdk/internal/util/ArraysSupport"), (0, u "LOG2_ARRAY_LONG_INDEX_SCALE"), (0, u "I"), (2, u "U"), (0, u "Ljdk/internal/misc/Unsafe;"), (8, u "BIG_ENDIAN"), (0, u "Z"), (8, u "LOG2_BYTE_BIT_SIZE"), (4, u "LOG2_ARRAY_INT_INDEX_SCALE"), (54, u "JLA"), (0, u "Ljdk/internal/access/JavaLangAccess;"), (11, u "LOG2_ARRAY_BOOLEAN_INDEX_SCALE"), (9, u "LOG2_ARRAY_BYTE_INDEX_SCALE"), (5, u "LOG2_ARRAY_CHAR_INDEX_SCALE"), (5, u "LOG2_ARRAY_SHORT_INDEX_SCALE"), (18, u "LOG2_ARRAY_FLOAT_INDEX_SCALE"), (24, u "LOG2_ARRAY_DOUBLE_INDEX_SCALE"), (89, u "T_BOOLEAN"), (2, u "T_CHAR"), (1, u "T_FLOAT"), (1, u "T_DOUBLE"), (1, u "T_BYTE"), (1, u "T_SHORT"), (1, u "T_INT"), (1, u "T_LONG"), (1, u "SOFT_MAX_ARRAY_LENGTH")] 83

def k11m0 : Method := { name := "<init>", desc := "()V", sig := { parameters := [], returnType := none }, accessFlags := 2, code := none }
/-- jdk/internal/util/ArraysSupport -/
def k11 : Class := { plain "jdk/internal/util/ArraysSupport" (some 0) with
  accessFlags := 33
  interfaces := #[]
  cf := some (fileOf pool11 21 #[] #[{ accessFlags := 2, nameIndex := 9, descriptorIndex := 19, attributes := #[] }] 33 16 #[] #[{ accessFlags := 24, nameIndex := 28, descriptorIndex := 29, attributes := #[] }, { accessFlags := 26, nameIndex := 38, descriptorIndex := 39, attributes := #[] }, { accessFlags := 25, nameIndex := 121, descriptorIndex := 25, attributes := #[] }, { accessFlags := 25, nameIndex := 131, descriptorIndex := 25, attributes := #[] }, { accessFlags := 25, nameIndex := 137, descriptorIndex := 25, attributes := #[] }, { accessFlags := 25, nameIndex := 143, descriptorIndex := 25, attributes := #[] }, { accessFlags := 25, nameIndex := 53, descriptorIndex := 25, attributes := #[] }, { accessFlags := 25, nameIndex := 24, descriptorIndex := 25, attributes := #[] }, { accessFlags := 25, nameIndex := 162, descriptorIndex := 25, attributes := #[] }, { accessFlags := 25, nameIndex := 187, descriptorIndex := 25, attributes := #[] }, { accessFlags := 26, nameIndex := 48, descriptorIndex := 25, attributes := #[] }, { accessFlags := 25, nameIndex := 277, descriptorIndex := 25, attributes := #[] }, { accessFlags := 25, nameIndex := 280, descriptorIndex := 25, attributes := #[] }, { accessFlags := 25, nameIndex := 282, descriptorIndex := 25, attributes := #[] }, { accessFlags := 25, nameIndex := 284, descriptorIndex := 25, attributes := #[] }, { accessFlags := 25, nameIndex := 286, descriptorIndex := 25, attributes := #[] }, { accessFlags := 25, nameIndex := 288, descriptorIndex := 25, attributes := #[] }, { accessFlags := 25, nameIndex := 290, descriptorIndex := 25, attributes := #[] }, { accessFlags := 25, nameIndex := 292, descriptorIndex := 25, attributes := #[] }, { accessFlags := 26, nameIndex := 108, descriptorIndex := 109, attributes := #[] }, { accessFlags := 25, nameIndex := 294, descriptorIndex := 25, attributes := #[] }])
  fields := #[{ name := "U", type := (.object "jdk/internal/misc/Unsafe"), accessFlags := 24, slot := 0, constantValue := 0 }, { name := "BIG_ENDIAN", type := .boolean, accessFlags := 26, slot := 1, constantValue := 0 }, { name := "LOG2_ARRAY_BOOLEAN_INDEX_SCALE", type := .int, accessFlags := 25, slot := 2, constantValue := 0 }, { name := "LOG2_ARRAY_BYTE_INDEX_SCALE", type := .int, accessFlags := 25, slot := 3, constantValue := 0 }, { name := "LOG2_ARRAY_CHAR_INDEX_SCALE", type := .int, accessFlags := 25, slot := 4, constantValue := 0 }, { name := "LOG2_ARRAY_SHORT_INDEX_SCALE", type := .int, accessFlags := 25, slot := 5, constantValue := 0 }, { name := "LOG2_ARRAY_INT_INDEX_SCALE", type := .int, accessFlags := 25, slot := 6, constantValue := 0 }, { name := "LOG2_ARRAY_LONG_INDEX_SCALE", type := .int, accessFlags := 25, slot := 7, constantValue := 0 }, { name := "LOG2_ARRAY_FLOAT_INDEX_SCALE", type := .int, accessFlags := 25, slot := 8, constantValue := 0 }, { name := "LOG2_ARRAY_DOUBLE_INDEX_SCALE", type := .int, accessFlags := 25, slot := 9, constantValue := 0 }, { name := "LOG2_BYTE_BIT_SIZE", type := .int, accessFlags := 26, slot := 10, constantValue := 0 }, { name := "T_BOOLEAN", type := .int, accessFlags := 25, slot := 11, constantValue := 0 }, { name := "T_CHAR", type := .int, accessFlags := 25, slot := 12, constantValue := 0 }, { name := "T_FLOAT", type := .int, accessFlags := 25, slot := 13, constantValue := 0 }, { name := "T_DOUBLE", type := .int, accessFlags := 25, slot := 14, constantValue := 0 }, { name := "T_BYTE", type := .int, accessFlags := 25, slot := 15, constantValue := 0 }, { name := "T_SHORT", type := .int, accessFlags := 25, slot := 16, constantValue := 0 }, { name := "T_INT", type := .int, accessFlags := 25, slot := 17, constantValue := 0 }, { name := "T_LONG", type := .int, accessFlags := 25, slot := 18, constantValue := 0 }, { name := "JLA", type := (.object "jdk/internal/access/JavaLangAccess"), accessFlags := 26, slot := 19, constantValue := 0 }, { name := "SOFT_MAX_ARRAY_LENGTH", type := .int, accessFlags := 25, slot := 20, constantValue := 0 }]
  methods := #[k11m0]
  instanceTypes := #[]
  staticTypes := #[(.object "jdk/internal/misc/Unsafe"), .boolean, .int, .int, .int, .int, .int, .int, .int, .int, .int, .int, .int, .int, .int, .int, .int, .int, .int, (.object "jdk/internal/access/JavaLangAccess"), .int]
  resolved := Array.replicate 378 none
  statics := none }

def pool12 : Array CpInfo := pool [(1, u "java/lang/Cloneable"), (0, .class_ 1), (0, u "java/lang/Object"), (0, .class_ 3)] 3

/-- java/lang/Cloneable -/
def k12 : Class := { plain "java/lang/Cloneable" (some 0) with
  accessFlags := 1537
  interfaces := #[]
  cf := some (fileOf pool12 2 #[] #[] 1537 4 #[] #[])
  fields := #[]
  methods := #[]
  instanceTypes := #[]
  staticTypes := #[]
  resolved := Array.replicate 8 none
  statics := none }

/-- the primitive byte -/
def k13 : Class := { plain "byte" none with kind := .primitive 'B', accessFlags := 0x411 }
/-- [B -/
def k14 : Class := { plain "[B" (some 0) with kind := .array 13 .byte, interfaces := #[12, 3], accessFlags := 1041 }

/-- the primitive int -/
def k15 : Class := { plain "int" none with kind := .primitive 'I', accessFlags := 0x411 }
/-- [I -/
def k16 : Class := { plain "[I" (some 0) with kind := .array 15 .int, interfaces := #[12, 3], accessFlags := 1041 }

def heap : Heap := #[{ cls := 8, slots := #[.long 0, .int 1, .null, .int 0, .null, .int 0, .int 0], vm := .statics 8 },
  { cls := 10, slots := #[.null, .null, .null], vm := .statics 10 }]
def classes : Array Class := #[k0, k1, k2, k3, k4, k5, k6, k7, k8, k9, k10, k11, k12, k13, k14, k15, k16]
def interned : List (Array UInt16 × Addr) := []
def slotsUsed : Nat := 10
def theMethod : MethodId := ⟨1, 1⟩
def args0 : Array Value := #[.int 60, .int 3]
def aboutOver (below : List Frame) : State where
  vm := { classes := classes, interned := interned.toArray }
  heap := heap
  slotsUsed := slotsUsed
  threads := #[{ frames := .invoking theMethod args0 :: below }]
def below0 : List Frame := [.native { method := ⟨0, 0⟩, args := #[] }]
def about1 : State := aboutOver below0
def p0 : Program := .bare "" "" ""
def e0 : Env := launch0.env 0 0 0
theorem w_frames : about1.frames = Frame.invoking theMethod args0 :: below0 := rfl
set_option maxRecDepth 65536 in
theorem w_args : argsFit about1.vm theMethod args0 = true := by decide +kernel
set_option maxRecDepth 65536 in
theorem w_heap : heapFits about1 = true := by decide +kernel
set_option maxRecDepth 65536 in
theorem w_runnable : about1.curStatus? = some .runnable := by decide +kernel
set_option maxRecDepth 65536 in
theorem w_alone : about1.alone = true := by decide +kernel
set_option maxRecDepth 65536 in
theorem w_named : about1.methodNamed? x = some theMethod := by decide +kernel
set_option maxRecDepth 65536 in
theorem w_hears : about1.hears theMethod below0 = true := by decide +kernel
set_option maxRecDepth 65536 in
theorem w_ripe : about1.ripe theMethod args0 below0 = true := by decide +kernel
theorem w_running : about1.status = .running := rfl
set_option maxRecDepth 65536 in
theorem w_room : about1.hasRoom e0.platform room_1 = true :=
  launch0.hasRoom_least _ room_1 (by decide +kernel) (by decide +kernel) (by decide +kernel) (by decide +kernel) (by decide +kernel) (by decide +kernel)
theorem allAtoms_all (ts : List Jvm.Cond) (a : Array Jvm.Value) (st : Jvm.State) : (allAtoms ts).before a st = ts.all (fun c => c.before a st) := by
  induction ts with
  | nil => rfl
  | cons c t ih =>
    show (Jvm.Cond.and c (allAtoms t)).before a st = _
    rw [Jvm.Cond.before_and, ih, List.all_cons]
def words1 : List Jvm.Cond := Jvm.Cond.code x code maxLocals ret :: tables_1
/-- a 'code' word, met by the world's own term for the bytes: nothing is compared byte by byte -/
theorem code_word {y : MethodName} {bytes : ByteArray} {mx : Nat} {rt : Option FieldType} {a : Array Value} {s : State} {m : MethodId} {meth : Method} {c : Code} (h1 : s.methodNamed? y = some m) (h2 : s.vm.method? m = some meth) (h3 : meth.code = some c) (h4 : c.code = bytes)
    (h5 : (c.maxLocals == mx && c.exceptionTable.isEmpty && decide (c.maxStack ≤ mostOperands) && decide (meth.sig.returnType = rt) && !meth.locks && decide (parseMethodDescriptor y.desc = some meth.sig)) = true) : (Jvm.Cond.code y bytes mx rt).before a s = true := by
  simp only [Bool.and_eq_true, beq_iff_eq, Bool.not_eq_true', decide_eq_true_eq] at h5
  obtain ⟨⟨⟨⟨⟨g1, g2⟩, g3⟩, g4⟩, g5⟩, g6⟩ := h5
  simp [Cond.before, Cond.holds, Cond.value, h1, h2, h3, h4, g1, g2, g3, g4, g5, g6]
def isCode : Jvm.Cond → Bool
  | .code _ _ _ _ => true
  | _ => false
theorem all_split {L : List Jvm.Cond} {P : Jvm.Cond → Bool} (h1 : L.all (fun c => isCode c || P c) = true) (h2 : ∀ c ∈ L.filter isCode, P c = true) : L.all P = true := by
  refine List.all_eq_true.mpr fun c hc => ?_
  have h := List.all_eq_true.mp h1 c hc
  rcases Bool.eq_false_or_eq_true (isCode c) with hi | hi
  · exact h2 c (List.mem_filter.mpr ⟨hc, hi⟩)
  · simpa [hi] using h
set_option maxRecDepth 65536 in
theorem w_c0 : (Jvm.Cond.code x code maxLocals ret).before args0 about1 = true := code_word (m := ⟨1, 1⟩) (meth := k1m1) (c := k1c1) (by decide +kernel) rfl rfl rfl (by decide +kernel)
set_option maxRecDepth 65536 in
theorem w_c1 : (Jvm.Cond.code ({ cls := "com/example/locattr/locattr/UriReferences", name := "hexValue", desc := "(C)I" } : Jvm.MethodName) prog_109_method_11_code (1 : Nat) (Option.some Jvm.ClassFile.FieldType.int)).before args0 about1 = true := code_word (m := ⟨2, 1⟩) (meth := k2m1) (c := k2c1) (by decide +kernel) rfl rfl rfl (by decide +kernel)
set_option maxRecDepth 65536 in
theorem w_c2 : (Jvm.Cond.code ({ cls := "java/lang/String", name := "charAt", desc := "(I)C" } : Jvm.MethodName) jdk_42_method_56_code (2 : Nat) (Option.some Jvm.ClassFile.FieldType.char)).before args0 about1 = true := code_word (m := ⟨8, 1⟩) (meth := k8m1) (c := k8c1) (by decide +kernel) rfl rfl rfl (by decide +kernel)
set_option maxRecDepth 65536 in
theorem w_c3 : (Jvm.Cond.code ({ cls := "java/lang/String", name := "isLatin1", desc := "()Z" } : Jvm.MethodName) jdk_42_method_154_code (1 : Nat) (Option.some Jvm.ClassFile.FieldType.boolean)).before args0 about1 = true := code_word (m := ⟨8, 2⟩) (meth := k8m2) (c := k8c2) (by decide +kernel) rfl rfl rfl (by decide +kernel)
set_option maxRecDepth 65536 in
theorem w_c4 : (Jvm.Cond.code ({ cls := "java/lang/StringLatin1", name := "charAt", desc := "([BI)C" } : Jvm.MethodName) jdk_43_method_2_code (2 : Nat) (Option.some Jvm.ClassFile.FieldType.char)).before args0 about1 = true := code_word (m := ⟨9, 1⟩) (meth := k9m1) (c := k9c1) (by decide +kernel) rfl rfl rfl (by decide +kernel)
set_option maxRecDepth 65536 in
theorem w_c5 : (Jvm.Cond.code ({ cls := "java/lang/String", name := "checkIndex", desc := "(II)V" } : Jvm.MethodName) jdk_42_method_155_code (2 : Nat) (Option.none : Option Jvm.ClassFile.FieldType)).before args0 about1 = true := code_word (m := ⟨8, 3⟩) (meth := k8m3) (c := k8c3) (by decide +kernel) rfl rfl rfl (by decide +kernel)
set_option maxRecDepth 65536 in
theorem w_c6 : (Jvm.Cond.code ({ cls := "jdk/internal/util/Preconditions", name := "checkIndex", desc := "(IILjava/util/function/BiFunction;)I" } : Jvm.MethodName) jdk_41_method_11_code (3 : Nat) (Option.some Jvm.ClassFile.FieldType.int)).before args0 about1 = true := code_word (m := ⟨10, 1⟩) (meth := k10m1) (c := k10c1) (by decide +kernel) rfl rfl rfl (by decide +kernel)
def codes1 : List Jvm.Cond := [Jvm.Cond.code x code maxLocals ret, Jvm.Cond.code ({ cls := "com/example/locattr/locattr/UriReferences", name := "hexValue", desc := "(C)I" } : Jvm.MethodName) prog_109_method_11_code (1 : Nat) (Option.some Jvm.ClassFile.FieldType.int), Jvm.Cond.code ({ cls := "java/lang/String", name := "charAt", desc := "(I)C" } : Jvm.MethodName) jdk_42_method_56_code (2 : Nat) (Option.some Jvm.ClassFile.FieldType.char), Jvm.Cond.code ({ cls := "java/lang/String", name := "isLatin1", desc := "()Z" } : Jvm.MethodName) jdk_42_method_154_code (1 : Nat) (Option.some Jvm.ClassFile.FieldType.boolean), Jvm.Cond.code ({ cls := "java/lang/StringLatin1", name := "charAt", desc := "([BI)C" } : Jvm.MethodName) jdk_43_method_2_code (2 : Nat) (Option.some Jvm.ClassFile.FieldType.char), Jvm.Cond.code ({ cls := "java/lang/String", name := "checkIndex", desc := "(II)V" } : Jvm.MethodName) jdk_42_method_155_code (2 : Nat) (Option.none : Option Jvm.ClassFile.FieldType), Jvm.Cond.code ({ cls := "jdk/internal/util/Preconditions", name := "checkIndex", desc := "(IILjava/util/function/BiFunction;)I" } : Jvm.MethodName) jdk_41_method_11_code (3 : Nat) (Option.some Jvm.ClassFile.FieldType.int)]
set_option maxRecDepth 65536 in
theorem codes_eq : words1.filter isCode = codes1 := rfl
theorem w_codes : ∀ c ∈ words1.filter isCode, c.before args0 about1 = true := by
  rw [codes_eq]
  intro c hc
  simp only [codes1, List.mem_cons, List.not_mem_nil, or_false] at hc
  rcases hc with rfl | rfl | rfl | rfl | rfl | rfl | rfl
  · exact w_c0
  · exact w_c1
  · exact w_c2
  · exact w_c3
  · exact w_c4
  · exact w_c5
  · exact w_c6
set_option maxRecDepth 65536 in
theorem w_t1 : (words1.take 24).all (fun c => isCode c || c.before args0 about1) = true := by decide +kernel
set_option maxRecDepth 65536 in
theorem w_t2 : (words1.drop 24).all (fun c => isCode c || c.before args0 about1) = true := by decide +kernel
theorem w_tables : (allAtoms (Jvm.Cond.code x code maxLocals ret :: tables_1)).before args0 about1 = true := by
  rw [allAtoms_all]
  show words1.all (fun c => c.before args0 about1) = true
  refine all_split ?_ w_codes
  rw [← List.take_append_drop 24 words1, List.all_append, w_t1, w_t2]
  rfl
set_option maxRecDepth 65536 in
theorem w_rest : rest_1_c.before args0 about1 = true := by decide +kernel
set_option maxRecDepth 65536 in
theorem w_case : (Jvm.Cond.and given_1 narrow_1).before args0 about1 = true := by decide +kernel
set_option maxRecDepth 65536 in
theorem w_consts : constsHeld consts_1 about1 := Jvm.Lit.constsHeldB_iff.mp (by decide +kernel)
theorem w_applies : (headSpec (Jvm.Cond.code x code maxLocals ret :: tables_1) room_1).applies x e0.platform about1 = true :=
  (Spec.applies_iff w_frames).mpr ⟨w_running, w_runnable, w_alone, w_named, w_hears, w_ripe, w_room, w_tables⟩
theorem atStart : AtStart classFile x code maxLocals ret World_1 tables_1 room_1 Calls_1 rest_1 Pre_1 launch0 p0 e0 about1 theMethod args0 below0 :=
  ⟨lists_1, trivial, launch0.admits_env _ _ _, launch0.least_env, fairChoices_fair.cas, fairChoices_fair.clock, w_frames, w_args, w_heap, w_applies, ⟨w_consts, trivial⟩, w_rest, w_case⟩
end start1
theorem witness_1 : WitnessClaimed_1 := ⟨start1.p0, start1.e0, start1.about1, start1.theMethod, start1.args0, start1.below0, start1.atStart⟩
end Jvm.Pilot.@@N@@
