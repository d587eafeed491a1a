import JvmDerived
import JvmDerived.Pilot.@@N@@Statement
import JvmDerived.Pilot.@@N@@Code
set_option linter.unusedVariables false
set_option linter.unusedSimpArgs false
namespace Jvm.Pilot.@@N@@
open Jvm Jvm.ClassFile Sem Op Lib Jvm.Free Jvm.Stand Jvm.LawKit Jvm.RoadKit Bundle Jvm.Pilot.@@N@@.Jvm.D
section OwnKit
variable {p : Program} {l : Launch} {e : Env} {R : Room} {s : State} {m : MethodId} {args : Array Value} {below : List Frame} {meth : Method} {c : Code} {T : State} {locs : List Loc} {cells slots : Nat}
/-- from the state u the run comes to an end of the invocation at which G holds -/
def Go (tb : Tables) (e : Env) (below : List Frame) (G : Outcome → State → Prop) (u : State) : Prop := ∃ s₂ o, Steps tb e below u s₂ ∧ s₂.status = .running ∧ Ended s₂ below o ∧ G o s₂
def End (Q : Option Value → Heap → List Loc → Prop) (s : State) (C S : Nat) (o : Outcome) (u : State) : Prop := ∃ v L, o = .returned v ∧ Q v u.heap L ∧ FrameEnd s o u L C S
theorem go {tb : Tables} {G : Outcome → State → Prop} {u u' : State} (st : ∀ t, Steps tb e below u' t → Steps tb e below u t) (k : Go tb e below G u') : Go tb e below G u := by
  obtain ⟨s₂, o, h1, h2⟩ := k
  exact ⟨s₂, o, st _ h1, h2⟩
theorem goT {tb : Tables} {G : Outcome → State → Prop} {u u' : State} (st : Steps tb e below u u') (k : Go tb e below G u') : Go tb e below G u := go (fun _ h => st.trans h) k
theorem own_fin (X : Stand p l e R s m args below meth c T locs cells slots) (hlk : meth.locks = false) {v : Option Value} (hv : meth.sig.returnType = none → v = none) {Q : Option Value → Heap → List Loc → Prop} {C S : Nat} (hq : Q v T.heap locs) (hc : cells ≤ C) (hs : slots ≤ S) {u : State}
    (st : ∀ fs, (∀ (f : JFrame) (acts : List Action), f.method = m → f.locked = none → f.entered = [] → (doReturn e (T.setTop f) acts v).1 = T.setFrames fs) → Steps p.tables e below u (T.setFrames fs)) : Go p.tables e below (End Q s C S) u := by
  obtain ⟨fs, hr, hrun, hended, hW, hsame⟩ := X.leave (v := v) hv hlk
  exact ⟨_, _, st fs hr, hrun, hended, _, _, rfl, hq, ⟨_, rfl⟩, hW, hsame.mono hc hs⟩
theorem own_retI (X : Stand p l e R s m args below meth c T locs cells slots) (hx : p.tables.exec = Jvm.exec) {pc : Nat} {Ls : Array Slot} {z : Int32} {rest : List Value} (hret : meth.sig.returnType = some .int) (hd : decode c.code pc = .ok (.ireturn, 1)) {fs : List Frame}
    (hl : ∀ (f : JFrame) (acts : List Action), f.method = m → f.locked = none → f.entered = [] → (doReturn e (T.setTop f) acts (some (.int z))).1 = T.setFrames fs) : Steps p.tables e below (T.setTop (mkF m pc Ls (.int z :: rest))) (T.setFrames fs) := by
  have hm' : T.vm.method? m = some meth := X.method'
  have hn : narrow .int (.int z) = .int z := rfl
  show Steps p.tables e below (T.setTop { method := m, pc := pc, locals := Ls, stack := _ :: rest, locked := none }) _
  jvm_step X.here [X.here.top, hx, hd, hm', hret, hn]
  first | (intro acts; rw [hl _ acts rfl rfl rfl]) | rw [hl _ _ rfl rfl rfl]
  exact Steps.refl _
theorem own_retA (X : Stand p l e R s m args below meth c T locs cells slots) (hx : p.tables.exec = Jvm.exec) {pc : Nat} {Ls : Array Slot} {z : Value} {t : FieldType} {rest : List Value} (hret : meth.sig.returnType = some t) (ht : t.isReference = true) (hz : z.isRef = true) (hd : decode c.code pc = .ok (.areturn, 1)) {fs : List Frame}
    (hl : ∀ (f : JFrame) (acts : List Action), f.method = m → f.locked = none → f.entered = [] → (doReturn e (T.setTop f) acts (some z)).1 = T.setFrames fs) : Steps p.tables e below (T.setTop (mkF m pc Ls (z :: rest))) (T.setFrames fs) := by
  have hm' : T.vm.method? m = some meth := X.method'
  show Steps p.tables e below (T.setTop { method := m, pc := pc, locals := Ls, stack := _ :: rest, locked := none }) _
  jvm_step X.here [X.here.top, hx, hd, hm', hret, ht, hz]
  first | (intro acts; rw [hl _ acts rfl rfl rfl]) | rw [hl _ _ rfl rfl rfl]
  exact Steps.refl _
theorem gI (X : Stand p l e R s m args below meth c T locs cells slots) (hx : p.tables.exec = Jvm.exec) (hlk : meth.locks = false) {pc : Nat} {Ls : Array Slot} {z : Int32} {rest : List Value} (hret : meth.sig.returnType = some .int) (hd : decode c.code pc = .ok (.ireturn, 1)) {Q : Option Value → Heap → List Loc → Prop} {C S : Nat} (hq : Q (some (.int z)) T.heap locs) (hc : cells ≤ C) (hs : slots ≤ S) :
    Go p.tables e below (End Q s C S) (T.setTop (mkF m pc Ls (.int z :: rest))) := own_fin X hlk (fun h => by rw [hret] at h; cases h) hq hc hs fun fs hr => own_retI X hx hret hd hr
theorem gN (X : Stand p l e R s m args below meth c T locs cells slots) (hx : p.tables.exec = Jvm.exec) (hlk : meth.locks = false) {pc : Nat} {Ls : Array Slot} {z : Int32} {t : FieldType} {rest : List Value} (hret : meth.sig.returnType = some t) (ht : t = .boolean ∨ t = .byte ∨ t = .char ∨ t = .short) (hn : nar t z = z) (hd : decode c.code pc = .ok (.ireturn, 1)) {Q : Option Value → Heap → List Loc → Prop} {C S : Nat} (hq : Q (some (.int z)) T.heap locs) (hc : cells ≤ C) (hs : slots ≤ S) :
    Go p.tables e below (End Q s C S) (T.setTop (mkF m pc Ls (.int z :: rest))) := own_fin X hlk (fun h => by rw [hret] at h; cases h) hq hc hs fun fs hr => retN X hx hret ht hd (by rw [hn]; exact hr)
theorem gJ (X : Stand p l e R s m args below meth c T locs cells slots) (hx : p.tables.exec = Jvm.exec) (hlk : meth.locks = false) {pc : Nat} {Ls : Array Slot} {z : Int64} (hret : meth.sig.returnType = some .long) (hd : decode c.code pc = .ok (.lreturn, 1)) {Q : Option Value → Heap → List Loc → Prop} {C S : Nat} (hq : Q (some (.long z)) T.heap locs) (hc : cells ≤ C) (hs : slots ≤ S) :
    Go p.tables e below (End Q s C S) (T.setTop (mkF m pc Ls [.long z])) := own_fin X hlk (fun h => by rw [hret] at h; cases h) hq hc hs fun fs hr => X.lreturnOut hx hret hd hr
theorem g0 (X : Stand p l e R s m args below meth c T locs cells slots) (hx : p.tables.exec = Jvm.exec) (hlk : meth.locks = false) {pc : Nat} {Ls : Array Slot} (hret : meth.sig.returnType = none) (hd : decode c.code pc = .ok (.return_, 1)) {Q : Option Value → Heap → List Loc → Prop} {C S : Nat} (hq : Q none T.heap locs) (hc : cells ≤ C) (hs : slots ≤ S) :
    Go p.tables e below (End Q s C S) (T.setTop (mkF m pc Ls [])) := own_fin X hlk (fun _ => rfl) hq hc hs fun fs hr => X.returnOut hx hret hd hr
theorem gA (X : Stand p l e R s m args below meth c T locs cells slots) (hx : p.tables.exec = Jvm.exec) (hlk : meth.locks = false) {pc : Nat} {Ls : Array Slot} {z : Value} {t : FieldType} {rest : List Value} (hret : meth.sig.returnType = some t) (ht : t.isReference = true) (hz : z.isRef = true) (hd : decode c.code pc = .ok (.areturn, 1)) {Q : Option Value → Heap → List Loc → Prop} {C S : Nat} (hq : Q (some z) T.heap locs) (hc : cells ≤ C) (hs : slots ≤ S) :
    Go p.tables e below (End Q s C S) (T.setTop (mkF m pc Ls (z :: rest))) := own_fin X hlk (fun h => by rw [hret] at h; cases h) hq hc hs fun fs hr => own_retA X hx hret ht hz hd hr
end OwnKit
/-- a body's contract out of its walk -/
theorem body {l : Launch} {y : MethodName} {bytes : ByteArray} {maxL : Nat} {ret : Option FieldType} {ws : List Jvm.Cond} {rm : Room} {as' : Array Value} {Z : State} {h0 : Heap} {Q : Option Value → Heap → List Loc → Prop} (pn : plainFor y = true)
    (k : ∀ (p : Program) (e : Env) (s : State) (m : MethodId) (below : List Frame) (meth : Method) (c : Code) (s₁ : State), p.tables.exec = Jvm.exec → c.code = bytes → c.maxLocals = maxL → s.vm.findClass y.cls = some m.cls → meth.name = y.name → meth.sig.returnType = ret → meth.locks = false → Z.Warmed39 s.vm → s₁.heap = h0 →
      Stand p l e rm s m as' below meth c s₁ [] 0 0 → Go p.tables e below (End Q s rm.cells rm.slots) (s₁.setTop (entryFrame m as' maxL))) :
    MetFree l y (head1 (Jvm.Cond.code y bytes maxL ret :: ws) rm) (fun a U => a = as' ∧ Z.Warmed39 U.vm ∧ U.heap = h0) (fun _ _ _ _ _ => True) (fun _ U o U' => ∃ v L, o = .returned v ∧ Q v U'.heap L ∧ FrameEnd U o U' L rm.cells rm.slots) := by
  refine MetFree.of_bodySF pn hisR ?_
  intro p e s m args below meth c s₁ Bd hml hP _
  obtain ⟨rfl, hZ, hh⟩ := hP
  obtain ⟨s₂, o, h1, h2, h3, h4⟩ := k p e s m below meth c s₁ Bd.exec Bd.bytes hml (findClass_of_methodNamed Bd.named) (name_of_methodNamed Bd.named Bd.method).1 Bd.returns Bd.notSynchronized hZ (by rw [← hh, Bd.state]; rfl) (Stand.of_body Bd)
  exact ⟨s₂, o, h1, h2, h3, h4⟩
/-- a boolean as an int -/
def B (P : Prop) [Decidable P] : Int32 := if P then 1 else 0
theorem Bt {P : Prop} [Decidable P] (h : P) : B P = 1 := if_pos h
theorem Bf {P : Prop} [Decidable P] (h : ¬ P) : B P = 0 := if_neg h
theorem B1 {P : Prop} [Decidable P] (h : P) : (1 : Int32) = B P := (if_pos h).symm
theorem B0 {P : Prop} [Decidable P] (h : ¬ P) : (0 : Int32) = B P := (if_neg h).symm
theorem B_iff {P Q : Prop} [Decidable P] [Decidable Q] (h : P ↔ Q) : B P = B Q := by simp only [B, h]
theorem B_nar {P : Prop} [Decidable P] : nar .boolean (B P) = B P := by by_cases h : P <;> simp only [B, h, if_true, if_false] <;> rfl
theorem bT {P : Prop} [Decidable P] (h : P) : ifCond.holds .ne (B P) = true ∧ ifCond.holds .eq (B P) = false := by rw [Bt h]; exact ⟨rfl, rfl⟩
theorem bF {P : Prop} [Decidable P] (h : ¬ P) : ifCond.holds .ne (B P) = false ∧ ifCond.holds .eq (B P) = true := by rw [Bf h]; exact ⟨rfl, rfl⟩
theorem lT {x y : Int64} (h : x < y) : ifCond.holds .lt (lcmpW x y) = true ∧ ifCond.holds .ge (lcmpW x y) = false ∧ ifCond.holds .gt (lcmpW y x) = true ∧ ifCond.holds .le (lcmpW y x) = false := by
  have h1 := tlt ((lw_lt x y).mpr h)
  have h2 := tlt ((lw_gt y x).mpr h)
  simp only [if0]; exact ⟨h1.1, h1.2.1, h2.2.2.1, h2.2.2.2⟩
theorem lF {x y : Int64} (h : ¬ x < y) : ifCond.holds .lt (lcmpW x y) = false ∧ ifCond.holds .ge (lcmpW x y) = true ∧ ifCond.holds .gt (lcmpW y x) = false ∧ ifCond.holds .le (lcmpW y x) = true := by
  have h1 := flt (fun q => h ((lw_lt x y).mp q))
  have h2 := flt (fun q => h ((lw_gt y x).mp q))
  simp only [if0]; exact ⟨h1.1, h1.2.1, h2.2.2.1, h2.2.2.2⟩
theorem lTe {x y : Int64} (h : x = y) : ifCond.holds .eq (lcmpW x y) = true ∧ ifCond.holds .ne (lcmpW x y) = false := by
  simp only [if0]; exact teq ((lw_eq x y).mpr h)
theorem lFe {x y : Int64} (h : ¬ x = y) : ifCond.holds .eq (lcmpW x y) = false ∧ ifCond.holds .ne (lcmpW x y) = true := by
  simp only [if0]; exact feq (fun q => h ((lw_eq x y).mp q))
theorem bTv {P : Prop} [Decidable P] {v : Int32} (hv : v = B P) (h : P) : ifCond.holds .ne v = true ∧ ifCond.holds .eq v = false := hv ▸ bT h
theorem bFv {P : Prop} [Decidable P] {v : Int32} (hv : v = B P) (h : ¬ P) : ifCond.holds .ne v = false ∧ ifCond.holds .eq v = true := hv ▸ bF h
theorem B_narv {P : Prop} [Decidable P] {v : Int32} (hv : v = B P) : nar .boolean v = v := hv ▸ B_nar
theorem own_fitb {v : Int32} (h : nar .boolean v = v) : fits .boolean (.int v) = true := h ▸ fits_nar_bool v
theorem ww {a0 : Array Value} {Z : State} (hw : ∀ d ∈ tables_1, d.before a0 Z = true) (i : Nat) {d : Jvm.Cond} (h : tables_1[i]? = some d) : d.before a0 Z = true := hw d (List.mem_of_getElem? h)
theorem own_Fto {Z : State} {h : Heap} {a : Addr} {C n d : String} {v w : Value} (F : Fld Z h a C n d v) (q : v = w) : Fld Z h a C n d w := q ▸ F
/-! arrays of ints (of any int-like kind) by a function of the place -/
def upd {α : Type} (f : Nat → α) (i : Nat) (v : α) : Nat → α := fun k => if k = i then v else f k
def own_l (l : List Int32) : Nat → Int32 := fun k => l.getD k 0
theorem own_upd_l (l : List Int32) (i : Nat) (x : Int32) (hi : i < l.length) : upd (own_l l) i x = own_l (l.set i x) := by
  funext k
  simp only [upd, own_l, List.getD_eq_getElem?_getD, List.getElem?_set]
  by_cases h : i = k
  · subst h; simp [hi]
  · simp [h, Ne.symm h]
def PI (Z : State) (h : Heap) (a : Addr) (ty : FieldType) (n : Nat) (g : Nat → Int32) : Prop := ∃ c : Cell, Arr Z h a c ty ∧ c.slots.size = n ∧ n < 2 ^ 31 ∧ ∀ i, i < n → c.slots[i]? = some (.int (g i))
section OwnArr
variable {Z : State} {h h' : Heap} {a b : Addr} {ty : FieldType} {n sl : Nat} {g : Nat → Int32} {v : Value} {ws : List Addr}
theorem PI.lt (F : PI Z h a ty n g) : a < h.size := by obtain ⟨c, A, -⟩ := F; exact A.lt
theorem PI.ext (F : PI Z h a ty n g) (E : Ext h h') : PI Z h' a ty n g := by obtain ⟨c, A, r⟩ := F; exact ⟨c, A.ext E, r⟩
theorem PI.other (F : PI Z h b ty n g) (W : Wr h h' a sl v) (q : b ≠ a) : PI Z h' b ty n g := by obtain ⟨c, A, r⟩ := F; exact ⟨c, A.other W q, r⟩
theorem PI.keep (F : PI Z h a ty n g) (K : Keep h h' ws) (q : a ∉ ws) : PI Z h' a ty n g := by obtain ⟨c, A, r⟩ := F; exact ⟨c, ⟨K.2.1 a c A.1 q, A.2⟩, r⟩
theorem PI.congr {g' : Nat → Int32} (F : PI Z h a ty n g) (q : ∀ i, i < n → g i = g' i) : PI Z h a ty n g' := by
  obtain ⟨c, A, r1, r2, r3⟩ := F
  exact ⟨c, A, r1, r2, fun i hi => by rw [← q i hi]; exact r3 i hi⟩
theorem PI.bound (F : PI Z h a ty n g) : n < 2 ^ 31 := by obtain ⟨c, -, -, q, -⟩ := F; exact q
theorem PI.new {k : ClassId} {z : Int32} (A : Arr Z h a (newA k ty z) ty) (q : ¬ z < 0) (hd : defaultValue ty = .int 0) : PI Z h a ty z.toNatClampNeg (fun _ => 0) :=
  ⟨_, A, sz_new _ _ _, (back32 q).2, fun i hi => by simp [newA, hd, hi]⟩
theorem PI.newL {k : ClassId} {z : Int32} {m : Nat} (A : Arr Z h a (newA k ty z) ty) (q : ¬ z < 0) (hd : defaultValue ty = .int 0) (hz : z.toNatClampNeg = m) : PI Z h a ty m (own_l (List.replicate m 0)) := by
  subst hz
  refine (PI.new A q hd).congr fun i hi => ?_
  simp [own_l, hi]
theorem PI.set {x j : Int32} (F : PI Z h a ty n g) (hn : j.toNatClampNeg < n) (W : Wr h h' a j.toNatClampNeg (.int x)) : PI Z h' a ty n (upd g j.toNatClampNeg x) := by
  obtain ⟨c, A, r1, r2, r3⟩ := F
  refine ⟨_, A.same W, by rw [sz_set]; exact r1, r2, fun i hi => ?_⟩
  by_cases q : i = j.toNatClampNeg
  · subst q; simp [upd, Cell.setSlot, r1, hn]
  · simp only [upd, if_neg q]
    rw [← r3 i hi]
    simp [Cell.setSlot, Array.getElem?_setIfInBounds, Ne.symm q]
theorem PI.setL {l l' : List Int32} {x j : Int32} {i : Nat} (F : PI Z h a ty n (own_l l)) (hn : j.toNatClampNeg < n) (W : Wr h h' a j.toNatClampNeg (.int x)) (hj : j.toNatClampNeg = i) (hi : i < l.length) (hl : l.set i x = l') : PI Z h' a ty n (own_l l') := by
  subst hl hj
  rw [← own_upd_l l _ x hi]
  exact F.set hn W
theorem own_inb {c : Cell} {j : Int32} (hs : c.slots.size = n) (hj : ¬ j < 0) (hn : j.toNatClampNeg < n) : ¬ (j < 0 ∨ c.slots.size ≤ j.toNatClampNeg) := fun q => q.elim hj fun r => by omega
end OwnArr
section OwnArr2
variable {p : Program} {l : Launch} {e : Env} {R : Room} {s : State} {m : MethodId} {args : Array Value} {below : List Frame} {meth : Method} {c : Code} {T : State} {locs : List Loc} {cells slots : Nat} {Z : State} {h : Heap} {a : Addr} {n : Nat} {g : Nat → Int32}
theorem own_iaload (X : Stand p l e R s m args below meth c T locs cells slots) (hx : p.tables.exec = Jvm.exec) (hZ : Z.Warmed39 s.vm) (eT : T.heap = h) (F : PI Z h a .int n g) {j v : Int32} (hj : ¬ j < 0) (hn : j.toNatClampNeg < n) (hv : g j.toNatClampNeg = v) {f : JFrame} (hg : f.method = m) {rest : List Value} (hs : f.stack = .int j :: .ref a :: rest) (hd : decode c.code f.pc = .ok (.iaload, 1)) (t : State)
    (k : Steps p.tables e below (T.setTop { f with pc := f.pc + 1, stack := .int v :: rest }) t) : Steps p.tables e below (T.setTop f) t := by
  obtain ⟨cl, A, r1, r2, r3⟩ := F
  exact X.iaload hx (j := j) (v := .int v) (by rw [eT]; exact A.1) (State.isArrayOf_alike hZ.alike A.2.1) A.2.2 (own_inb r1 hj hn) (by rw [r3 _ hn, hv]) hg hs hd t k
theorem own_baloadZ (X : Stand p l e R s m args below meth c T locs cells slots) (hx : p.tables.exec = Jvm.exec) (hZ : Z.Warmed39 s.vm) (eT : T.heap = h) (F : PI Z h a .boolean n g) {j v : Int32} (hj : ¬ j < 0) (hn : j.toNatClampNeg < n) (hv : g j.toNatClampNeg = v) {f : JFrame} (hg : f.method = m) {rest : List Value} (hs : f.stack = .int j :: .ref a :: rest) (hd : decode c.code f.pc = .ok (.baload, 1)) (t : State)
    (k : Steps p.tables e below (T.setTop { f with pc := f.pc + 1, stack := .int v :: rest }) t) : Steps p.tables e below (T.setTop f) t := by
  obtain ⟨cl, A, r1, r2, r3⟩ := F
  exact X.baloadBooleans hx (j := j) (v := .int v) (by rw [eT]; exact A.1) (State.isArrayOf_alike hZ.alike A.2.1) A.2.2 (own_inb r1 hj hn) (by rw [r3 _ hn, hv]) hg hs hd t k
theorem own_alen {ty : FieldType} (X : Stand p l e R s m args below meth c T locs cells slots) (hx : p.tables.exec = Jvm.exec) (hZ : Z.Warmed39 s.vm) (eT : T.heap = h) (F : PI Z h a ty n g) {z : Int32} (hz : n.toInt32 = z) {f : JFrame} (hg : f.method = m) {rest : List Value} (hs : f.stack = .ref a :: rest) (hd : decode c.code f.pc = .ok (.arraylength, 1)) (t : State)
    (k : Steps p.tables e below (T.setTop { f with pc := f.pc + 1, stack := .int z :: rest }) t) : Steps p.tables e below (T.setTop f) t := by
  obtain ⟨cl, A, r1, r2, r3⟩ := F
  exact X.arraylength hx (by rw [eT]; exact A.1) (State.isArrayOf_alike hZ.alike A.2.1) hg hs hd t (by rw [r1, hz]; exact k)
theorem own_iastore (X : Stand p l e R s m args below meth c T locs cells slots) (hx : p.tables.exec = Jvm.exec) (hZ : Z.Warmed39 s.vm) (eT : T.heap = h) (F : PI Z h a .int n g) {j x : Int32} (hj : ¬ j < 0) (hn : j.toNatClampNeg < n) {f : JFrame} (hg : f.method = m) {rest : List Value} (hs : f.stack = .int x :: .int j :: .ref a :: rest) (hd : decode c.code f.pc = .ok (.iastore, 1)) :
    ∃ T' h', Stand p l e R s m args below meth c T' (locs ++ [⟨a, j.toNatClampNeg⟩]) cells slots ∧ T'.heap = h' ∧ Wr h h' a j.toNatClampNeg (.int x) ∧ ∀ target, Steps p.tables e below (T'.setTop { f with pc := f.pc + 1, stack := rest }) target → Steps p.tables e below (T.setTop f) target := by
  obtain ⟨cl, A, r1, r2, r3⟩ := F
  exact stI X hx hZ eT A (own_inb r1 hj hn) hg hs hd
theorem own_bastoreZ (X : Stand p l e R s m args below meth c T locs cells slots) (hx : p.tables.exec = Jvm.exec) (hZ : Z.Warmed39 s.vm) (eT : T.heap = h) (F : PI Z h a .boolean n g) {j x : Int32} (hnx : nar .boolean x = x) (hj : ¬ j < 0) (hn : j.toNatClampNeg < n) {f : JFrame} (hg : f.method = m) {rest : List Value} (hs : f.stack = .int x :: .int j :: .ref a :: rest) (hd : decode c.code f.pc = .ok (.bastore, 1)) :
    ∃ T' h', Stand p l e R s m args below meth c T' (locs ++ [⟨a, j.toNatClampNeg⟩]) cells slots ∧ T'.heap = h' ∧ Wr h h' a j.toNatClampNeg (.int x) ∧ ∀ target, Steps p.tables e below (T'.setTop { f with pc := f.pc + 1, stack := rest }) target → Steps p.tables e below (T.setTop f) target := by
  obtain ⟨cl, A, r1, r2, r3⟩ := F
  obtain ⟨T', h', q1, q2, q3, q4⟩ := stZ X hx hZ eT A (x := x) (own_inb r1 hj hn) hg hs hd
  rw [hnx] at q3
  exact ⟨T', h', q1, q2, q3, q4⟩
end OwnArr2
theorem own_Lto {Z : State} {h : Heap} {a : Addr} {ty : FieldType} {n : Nat} {l l' : List Int32} (F : PI Z h a ty n (own_l l)) (q : l = l') : PI Z h a ty n (own_l l') := q ▸ F
theorem own_Gto {Z : State} {h : Heap} {a : Addr} {ty : FieldType} {n : Nat} {g g' : Nat → Int32} (F : PI Z h a ty n g) (q : g = g') : PI Z h a ty n g' := q ▸ F
/-! arraycopy of ints, dup_x2 -/
theorem own_n32 {n : Nat} (h : n < 2 ^ 31) : ¬ n.toInt32 < 0 ∧ n.toInt32.toNatClampNeg = n := by
  have h1 : n.toInt32.toInt = n := by show (Int32.ofNat n).toInt = n; exact Int32.toInt_ofNat_of_lt (by omega)
  have h2 : ¬ n.toInt32 < 0 := by rw [Int32.lt_iff_toInt_lt, h1]; have : (0 : Int32).toInt = 0 := rfl; omega
  have := nat_of h2
  exact ⟨h2, by omega⟩
theorem PI.arv {Z : State} {h : Heap} {a : Addr} {n : Nat} {g : Nat → Int32} (F : PI Z h a .int n g) : ∃ k, Arv Z h a k .int n.toInt32 ((List.range n).map fun i => Value.int (g i)) (.int 0) := by
  obtain ⟨c, A, r1, r2, r3⟩ := F
  have q := own_n32 r2
  refine ⟨_, c, A, rfl, by rw [q.2]; exact r1, q.1, fun i hi => ?_, fun i hi => ?_⟩
  · rw [r3 i (by omega)]; simp [show i < n by omega]
  · simp [show i < n by omega, fits]
theorem own_ofArv {Z : State} {h : Heap} {a : Addr} {k : ClassId} {z : Int32} {vs : List Value} {d : Value} {n : Nat} {g : Nat → Int32} (A : Arv Z h a k .int z vs d) (hn : z.toNatClampNeg = n) (q : ∀ i, i < n → vs.getD i d = .int (g i)) : PI Z h a .int n g := by
  obtain ⟨c, A, r1, r2, r3, H, G⟩ := A
  subst hn
  exact ⟨c, A, r2, (back32 r3).2, fun i hi => by rw [H i (by omega), q i hi]⟩
section OwnCp
variable {p : Program} {l : Launch} {e : Env} {R : Room} {s : State} {m : MethodId} {args : Array Value} {below : List Frame} {meth : Method} {c : Code} {T : State} {locs : List Loc} {cells slots : Nat} {Z : State} {h : Heap} {a b : Addr} {n n' : Nat} {g g' : Nat → Int32}
theorem own_cp (X : Stand p l e R s m args below meth c T locs cells slots) (hx : p.tables.exec = Jvm.exec) (hZ : Z.Warmed39 s.vm) {a0 : Array Value} {own : String} {index : Nat} (hown : s.vm.findClass own = some m.cls)
    (w1 : (Cond.methodLink own index Jvm.Stand.acN).before a0 Z = true) (w2 : (Cond.native Jvm.Stand.acN).before a0 Z = true) (w3 : (Cond.static Jvm.Stand.acN).before a0 Z = true) (w4 : (Cond.initialized "java/lang/System").before a0 Z = true) (eT : T.heap = h)
    (A : PI Z h a .int n g) (B : PI Z h b .int n' g') {nn : Int32} (h3 : ¬ nn < 0) (h4 : nn.toNatClampNeg ≤ n) (h5 : nn.toNatClampNeg = n') {n0 : Nat} (N : Fr n0 locs) (ge : n0 ≤ b)
    {f : JFrame} (hg : f.method = m) (hsize : f.locals.size = c.maxLocals) {rest : List Value} (hs : f.stack = .int nn :: .int 0 :: .ref b :: .int 0 :: .ref a :: rest) (hd : decode c.code f.pc = .ok (.invokestatic index, 3))
    (hf : 1 ≤ R.frames) {W : Nat} (hW : 2 * f.monitorRoom + (rest.map fun v => v.category).sum ≤ W) (hlo : W + (nativeFrameWords "java/lang/System" "arraycopy" 5 + 11) ≤ R.locals) :
    ∃ T' h' L, Stand p l e R s m args below meth c T' L cells slots ∧ T'.heap = h' ∧ Fr n0 L ∧ Keep h h' [b] ∧ PI Z h' b .int n' g ∧
      ∀ target, Steps p.tables e below (T'.setTop { f with pc := f.pc + 3, stack := rest }) target → Steps p.tables e below (T.setTop f) target := by
  have q1 := own_n32 A.bound
  have q2 := own_n32 B.bound
  obtain ⟨k1, A1⟩ := A.arv
  obtain ⟨k2, B1⟩ := B.arv
  have z0 : (0 : Int32).toNatClampNeg = 0 := rfl
  obtain ⟨T', h', L, r1, r2, r3, r4, r5, r6⟩ := cpA X hx hZ hown w1 w2 w3 w4 eT A1 B1 (Or.inl ⟨rfl, rfl⟩) (sp := 0) (dp := 0) (nn := nn) (by decide) (by decide) h3 (by rw [q1.2, z0]; omega) (by rw [q2.2, z0]; omega) rfl (by simp [z0]; omega) N ge hg hsize hs hd hf hW hlo
  refine ⟨T', h', L, r1, r2, r3, r4, own_ofArv r5 q2.2 fun i hi => ?_, r6⟩
  simp only [z0, List.take_zero, List.nil_append, Nat.zero_add]
  have e1 : i < nn.toNatClampNeg := by omega
  simp [List.getElem?_append, e1, show i < n by omega]
end OwnCp
theorem own_dupx2 {tb : Tables} [Ours tb] {e : Env} {below : List Frame} {T target : State} {m : MethodId} {c : Code} {g : JFrame} (h : At T m c below) (hx : tb.exec = Jvm.exec) (hg : g.method = m) {x y : Int32} {z : Addr} {rest : List Value} (hd : decode c.code g.pc = .ok (.dup_x2, 1)) (hs : g.stack = .int x :: .int y :: .ref z :: rest)
    (hr : Steps tb e below (T.setTop { g with pc := g.pc + 1, stack := .int x :: .int y :: .ref z :: .int x :: rest }) target) : Steps tb e below (T.setTop g) target := by
  subst hg
  jvm_step h [h.top, hx, hd, hs, Value.category]
  exact hr
theorem own_nn {j : Int32} (h : 0 ≤ j.toInt) : ¬ j < 0 := by rw [Int32.lt_iff_toInt_lt]; have : (0 : Int32).toInt = 0 := rfl; omega
theorem own_cl {j : Int32} (h : 0 ≤ j.toInt) : (j.toNatClampNeg : Int) = j.toInt := (nat_of (own_nn h)).symm
theorem own_lt {j : Int32} {N : Nat} (h : 0 ≤ j.toInt) (h2 : j.toInt < N) : j.toNatClampNeg < N := by have := own_cl h; omega
theorem own_t32 {N : Nat} (h : N < 2 ^ 31) : N.toInt32.toInt = N := by
  show (Int32.ofNat N).toInt = N
  exact Int32.toInt_ofNat_of_lt (by omega)
theorem own_iv {k r : Nat} {i : Int32} {N : Nat} (hk : k < 2 ^ 31) (hi : 0 ≤ i.toInt ∧ i.toInt + (r + 1 : Nat) = k) : ¬ i < 0 ∧ i.toNatClampNeg < k ∧ i < k.toInt32 ∧ (0 ≤ (i + 1).toInt ∧ (i + 1).toInt + r = k) ∧ i.toNatClampNeg = k - (r + 1) := by
  have h1 := own_cl hi.1
  have h2 := own_t32 hk
  have a1 := c_iadd i 1
  have a2 := rng32 (i + 1)
  have a3 : (1 : Int32).toInt = 1 := rfl
  rw [a3] at a1
  refine ⟨own_nn hi.1, by omega, ?_, by omega, by omega⟩
  rw [Int32.lt_iff_toInt_lt, h2]; omega
theorem own_iz {k : Nat} {i : Int32} (hk : k < 2 ^ 31) (hi : 0 ≤ i.toInt ∧ i.toInt + (0 : Nat) = k) : ¬ i < k.toInt32 := by
  have h2 := own_t32 hk
  rw [Int32.lt_iff_toInt_lt, h2]; omega
theorem pn_java_lang_Math_min_9 : plainFor (⟨"java/lang/Math", "min", "(II)I"⟩ : MethodName) = true := by first | exact plainFor_of_name (by first | (simp [plainName, overriddenIn]; done) | decide +kernel) | decide +kernel
def Q_rm9 (Z : State) (p0 : Int32) (p1 : Int32) (h0 : Heap) (n0 : Nat) (v : Option Value) (h : Heap) (L : List Loc) : Prop := v = some (.int (if p1 < p0 then p1 else p0)) ∧ Fr n0 L ∧ h = h0
set_option maxRecDepth 65536 in
set_option maxHeartbeats 4000000 in
theorem ef_rm9 (m : MethodId) (p0 : Int32) (p1 : Int32) : entryFrame m #[(.int p0), (.int p1)] 2 = mkF m 0 #[.val (.int p0), .val (.int p1)] [] := by first | (simp [entryFrame, mkF, argsToLocals, Value.category, maxLocals]; done) | rfl
theorem d9_0 : decode jdk_29_method_69_code 0 = .ok (.iload_n 0, 1) := by decide +kernel
theorem d9_1 : decode jdk_29_method_69_code 1 = .ok (.iload_n 1, 1) := by decide +kernel
theorem d9_2 : decode jdk_29_method_69_code 2 = .ok (.if_icmp .gt 7, 3) := by decide +kernel
theorem d9_5 : decode jdk_29_method_69_code 5 = .ok (.iload_n 0, 1) := by decide +kernel
theorem d9_6 : decode jdk_29_method_69_code 6 = .ok (.goto 4, 3) := by decide +kernel
theorem d9_9 : decode jdk_29_method_69_code 9 = .ok (.iload_n 1, 1) := by decide +kernel
theorem d9_10 : decode jdk_29_method_69_code 10 = .ok (.ireturn, 1) := by decide +kernel
set_option maxRecDepth 65536 in
set_option maxHeartbeats 40000000 in
theorem rm9 (l : Launch) (Z : State) (a0 : Array Value) (hw : ∀ d ∈ tables_1, d.before a0 Z = true) (ws : List Jvm.Cond) (p0 : Int32) (p1 : Int32) (h0 : Heap) (n0 : Nat) (Z0 : n0 ≤ h0.size)  :
    MetFree l (⟨"java/lang/Math", "min", "(II)I"⟩ : MethodName) (head1 (Jvm.Cond.code (⟨"java/lang/Math", "min", "(II)I"⟩ : MethodName) jdk_29_method_69_code 2 (some .int) :: ws) ({ frames := 0, cells := 0, slots := 0, locals := 0 } : Room)) (fun a U => a = #[(.int p0), (.int p1)] ∧ Z.Warmed39 U.vm ∧ U.heap = h0) (fun _ _ _ _ _ => True) (fun _ U o U' => ∃ v L, o = .returned v ∧ Q_rm9 Z p0 p1 h0 n0 v U'.heap L ∧ FrameEnd U o U' L ({ frames := 0, cells := 0, slots := 0, locals := 0 } : Room).cells ({ frames := 0, cells := 0, slots := 0, locals := 0 } : Room).slots) := by
  refine body pn_java_lang_Math_min_9 ?_
  intro p e s m below meth c s₁ hx hby hml hown hnm hret hlk hZ e0 X0
  replace hml : c.maxLocals = 2 := hml
  replace hown : s.vm.findClass "java/lang/Math" = some m.cls := hown
  replace hnm : meth.name = "min" := hnm
  replace hret : meth.sig.returnType = (some .int) := hret
  have N0 := Fr.nil n0
  rw [ef_rm9]
  obtain ⟨G, hG⟩ : ∃ G, G = End (Q_rm9 Z p0 p1 h0 n0) s ({ frames := 0, cells := 0, slots := 0, locals := 0 } : Room).cells ({ frames := 0, cells := 0, slots := 0, locals := 0 } : Room).slots := ⟨_, rfl⟩
  rw [← hG]
  refine go (u' := s₁.setTop (mkF m 1 #[.val (.int p0), .val (.int p1)] [(.int p0)])) (fun _ ks_ => XS.iloadN X0.here hx rfl (hb hby d9_0) rfl  ks_) ?_
  refine go (u' := s₁.setTop (mkF m 2 #[.val (.int p0), .val (.int p1)] [(.int p1), (.int p0)])) (fun _ ks_ => XS.iloadN X0.here hx rfl (hb hby d9_1) rfl  ks_) ?_
  by_cases c2_1 : p1 < p0
  ·
    refine go (u' := s₁.setTop (mkF m 9 #[.val (.int p0), .val (.int p1)] [])) (fun _ ks_ => XS.icmpYes X0.here hx rfl (pc0 := 2) (pc' := 9) rfl (hb hby d9_2) rfl (tlt c2_1).2.2.1 (by decide) (by decide) ks_) ?_
    refine go (u' := s₁.setTop (mkF m 10 #[.val (.int p0), .val (.int p1)] [(.int p1)])) (fun _ ks_ => XS.iloadN X0.here hx rfl (hb hby d9_9) rfl  ks_) ?_
    rw [hG]
    refine gI X0 hx hlk hret (hb hby d9_10) ?_ (Nat.le_of_ble_eq_true rfl) (Nat.le_of_ble_eq_true rfl)
    show Q_rm9 Z p0 p1 h0 n0 (some (.int p1)) s₁.heap _
    rw [e0]
    exact ⟨congrArg (fun z => some (Value.int z)) ((if_pos c2_1)).symm, N0, rfl⟩
  ·
    refine go (u' := s₁.setTop (mkF m 5 #[.val (.int p0), .val (.int p1)] [])) (fun _ ks_ => XS.icmpNo X0.here hx rfl (hb hby d9_2) rfl (flt c2_1).2.2.1 ks_) ?_
    refine go (u' := s₁.setTop (mkF m 6 #[.val (.int p0), .val (.int p1)] [(.int p0)])) (fun _ ks_ => XS.iloadN X0.here hx rfl (hb hby d9_5) rfl  ks_) ?_
    refine go (u' := s₁.setTop (mkF m 10 #[.val (.int p0), .val (.int p1)] [(.int p0)])) (fun _ ks_ => XS.goto X0.here hx rfl (pc0 := 6) (pc' := 10) rfl (hb hby d9_6) (by decide) (by decide) ks_) ?_
    rw [hG]
    refine gI X0 hx hlk hret (hb hby d9_10) ?_ (Nat.le_of_ble_eq_true rfl) (Nat.le_of_ble_eq_true rfl)
    show Q_rm9 Z p0 p1 h0 n0 (some (.int p0)) s₁.heap _
    rw [e0]
    exact ⟨congrArg (fun z => some (Value.int z)) ((if_neg c2_1)).symm, N0, rfl⟩
theorem pn_java_util_BitSet_wordIndex_5 : plainFor (⟨"java/util/BitSet", "wordIndex", "(I)I"⟩ : MethodName) = true := by first | exact plainFor_of_name (by first | (simp [plainName, overriddenIn]; done) | decide +kernel) | decide +kernel
def Q_rm5 (Z : State) (p0 : Int32) (h0 : Heap) (n0 : Nat) (v : Option Value) (h : Heap) (L : List Loc) : Prop := v = some (.int (p0 >>> ((6 : Int32) &&& 31))) ∧ Fr n0 L ∧ h = h0
set_option maxRecDepth 65536 in
set_option maxHeartbeats 4000000 in
theorem ef_rm5 (m : MethodId) (p0 : Int32) : entryFrame m #[(.int p0)] 1 = mkF m 0 #[.val (.int p0)] [] := by first | (simp [entryFrame, mkF, argsToLocals, Value.category, maxLocals]; done) | rfl
theorem d5_0 : decode jdk_92_method_1_code 0 = .ok (.iload_n 0, 1) := by decide +kernel
theorem d5_1 : decode jdk_92_method_1_code 1 = .ok (.bipush 6, 2) := by decide +kernel
theorem d5_3 : decode jdk_92_method_1_code 3 = .ok (.ishr, 1) := by decide +kernel
theorem d5_4 : decode jdk_92_method_1_code 4 = .ok (.ireturn, 1) := by decide +kernel
set_option maxRecDepth 65536 in
set_option maxHeartbeats 40000000 in
theorem rm5 (l : Launch) (Z : State) (a0 : Array Value) (hw : ∀ d ∈ tables_1, d.before a0 Z = true) (ws : List Jvm.Cond) (p0 : Int32) (h0 : Heap) (n0 : Nat) (Z0 : n0 ≤ h0.size)  :
    MetFree l (⟨"java/util/BitSet", "wordIndex", "(I)I"⟩ : MethodName) (head1 (Jvm.Cond.code (⟨"java/util/BitSet", "wordIndex", "(I)I"⟩ : MethodName) jdk_92_method_1_code 1 (some .int) :: ws) ({ frames := 0, cells := 0, slots := 0, locals := 0 } : Room)) (fun a U => a = #[(.int p0)] ∧ Z.Warmed39 U.vm ∧ U.heap = h0) (fun _ _ _ _ _ => True) (fun _ U o U' => ∃ v L, o = .returned v ∧ Q_rm5 Z p0 h0 n0 v U'.heap L ∧ FrameEnd U o U' L ({ frames := 0, cells := 0, slots := 0, locals := 0 } : Room).cells ({ frames := 0, cells := 0, slots := 0, locals := 0 } : Room).slots) := by
  refine body pn_java_util_BitSet_wordIndex_5 ?_
  intro p e s m below meth c s₁ hx hby hml hown hnm hret hlk hZ e0 X0
  replace hml : c.maxLocals = 1 := hml
  replace hown : s.vm.findClass "java/util/BitSet" = some m.cls := hown
  replace hnm : meth.name = "wordIndex" := hnm
  replace hret : meth.sig.returnType = (some .int) := hret
  have N0 := Fr.nil n0
  rw [ef_rm5]
  obtain ⟨G, hG⟩ : ∃ G, G = End (Q_rm5 Z p0 h0 n0) s ({ frames := 0, cells := 0, slots := 0, locals := 0 } : Room).cells ({ frames := 0, cells := 0, slots := 0, locals := 0 } : Room).slots := ⟨_, rfl⟩
  rw [← hG]
  refine go (u' := s₁.setTop (mkF m 1 #[.val (.int p0)] [(.int p0)])) (fun _ ks_ => XS.iloadN X0.here hx rfl (hb hby d5_0) rfl  ks_) ?_
  refine go (u' := s₁.setTop (mkF m 3 #[.val (.int p0)] [(.int (6 : Int32)), (.int p0)])) (fun _ ks_ => XS.bipush X0.here hx rfl (hb hby d5_1) ks_) ?_
  refine go (u' := s₁.setTop (mkF m 4 #[.val (.int p0)] [(.int (p0 >>> ((6 : Int32) &&& 31)))])) (fun _ ks_ => XS.ishr X0.here hx rfl (hb hby d5_3) rfl ks_) ?_
  rw [hG]
  refine gI X0 hx hlk hret (hb hby d5_4) ?_ (Nat.le_of_ble_eq_true rfl) (Nat.le_of_ble_eq_true rfl)
  show Q_rm5 Z p0 h0 n0 (some (.int (p0 >>> ((6 : Int32) &&& 31)))) s₁.heap _
  rw [e0]
  exact ⟨rfl, N0, rfl⟩
theorem pd__40_I_41_I : parseMethodDescriptor "(I)I" = some ⟨[.int], some .int⟩ := by decide +kernel
theorem pn_java_util_BitSet_initWords_4 : plainFor (⟨"java/util/BitSet", "initWords", "(I)V"⟩ : MethodName) = true := by first | exact plainFor_of_name (by first | (simp [plainName, overriddenIn]; done) | decide +kernel) | decide +kernel
def Q_rm4 (Z : State) (o0 : Addr) (h0 : Heap) (n0 : Nat) (v : Option Value) (h : Heap) (L : List Loc) : Prop := ∃ wv : Value, v = none ∧ Fr n0 L ∧ Keep h0 h [o0] ∧ (Exa Z h o0 "java/util/BitSet") ∧ (Fld Z h o0 "java/util/BitSet" "wordsInUse" "I" (.int (0 : Int32))) ∧ (Fld Z h o0 "java/util/BitSet" "sizeIsSticky" "Z" (.int (0 : Int32))) ∧ (Fld Z h o0 "java/util/BitSet" "words" "[J" wv)
set_option maxRecDepth 65536 in
set_option maxHeartbeats 4000000 in
theorem ef_rm4 (m : MethodId) (o0 : Addr) : entryFrame m #[(.ref o0), (.int (64 : Int32))] 2 = mkF m 0 #[.val (.ref o0), .val (.int (64 : Int32))] [] := by first | (simp [entryFrame, mkF, argsToLocals, Value.category, maxLocals]; done) | rfl
theorem d4_0 : decode jdk_92_method_6_code 0 = .ok (.aload_n 0, 1) := by decide +kernel
theorem d4_1 : decode jdk_92_method_6_code 1 = .ok (.iload_n 1, 1) := by decide +kernel
theorem d4_2 : decode jdk_92_method_6_code 2 = .ok (.iconst 1, 1) := by decide +kernel
theorem d4_3 : decode jdk_92_method_6_code 3 = .ok (.isub, 1) := by decide +kernel
theorem d4_4 : decode jdk_92_method_6_code 4 = .ok (.invokestatic 52, 3) := by decide +kernel
theorem d4_7 : decode jdk_92_method_6_code 7 = .ok (.iconst 1, 1) := by decide +kernel
theorem d4_8 : decode jdk_92_method_6_code 8 = .ok (.iadd, 1) := by decide +kernel
theorem d4_9 : decode jdk_92_method_6_code 9 = .ok (.newarray .long, 2) := by decide +kernel
theorem d4_11 : decode jdk_92_method_6_code 11 = .ok (.putfield 11, 3) := by decide +kernel
theorem d4_14 : decode jdk_92_method_6_code 14 = .ok (.return_, 1) := by decide +kernel
set_option maxRecDepth 65536 in
set_option maxHeartbeats 40000000 in
theorem rm4 (l : Launch) (Z : State) (a0 : Array Value) (hw : ∀ d ∈ tables_1, d.before a0 Z = true) (ws : List Jvm.Cond) (o0 : Addr) (h0 : Heap) (n0 : Nat) (Z0 : n0 ≤ h0.size) (g_o0 : n0 ≤ o0) (F0 : Exa Z h0 o0 "java/util/BitSet") (F1 : Fld Z h0 o0 "java/util/BitSet" "wordsInUse" "I" (.int (0 : Int32))) (F2 : Fld Z h0 o0 "java/util/BitSet" "sizeIsSticky" "Z" (.int (0 : Int32))) (F3 : Fld Z h0 o0 "java/util/BitSet" "words" "[J" .null) :
    MetFree l (⟨"java/util/BitSet", "initWords", "(I)V"⟩ : MethodName) (head1 (Jvm.Cond.code (⟨"java/util/BitSet", "initWords", "(I)V"⟩ : MethodName) jdk_92_method_6_code 2 none :: ws) ({ frames := 1, cells := 1, slots := 1, locals := 13 } : Room)) (fun a U => a = #[(.ref o0), (.int (64 : Int32))] ∧ Z.Warmed39 U.vm ∧ U.heap = h0) (fun _ _ _ _ _ => True) (fun _ U o U' => ∃ v L, o = .returned v ∧ Q_rm4 Z o0 h0 n0 v U'.heap L ∧ FrameEnd U o U' L ({ frames := 1, cells := 1, slots := 1, locals := 13 } : Room).cells ({ frames := 1, cells := 1, slots := 1, locals := 13 } : Room).slots) := by
  refine body pn_java_util_BitSet_initWords_4 ?_
  intro p e s m below meth c s₁ hx hby hml hown hnm hret hlk hZ e0 X0
  replace hml : c.maxLocals = 2 := hml
  replace hown : s.vm.findClass "java/util/BitSet" = some m.cls := hown
  replace hnm : meth.name = "initWords" := hnm
  replace hret : meth.sig.returnType = none := hret
  have N0 := Fr.nil n0
  rw [ef_rm4]
  obtain ⟨G, hG⟩ : ∃ G, G = End (Q_rm4 Z o0 h0 n0) s ({ frames := 1, cells := 1, slots := 1, locals := 13 } : Room).cells ({ frames := 1, cells := 1, slots := 1, locals := 13 } : Room).slots := ⟨_, rfl⟩
  rw [← hG]
  refine go (u' := s₁.setTop (mkF m 1 #[.val (.ref o0), .val (.int (64 : Int32))] [(.ref o0)])) (fun _ ks_ => XS.aloadN X0.here hx rfl (hb hby d4_0) rfl rfl ks_) ?_
  refine go (u' := s₁.setTop (mkF m 2 #[.val (.ref o0), .val (.int (64 : Int32))] [(.int (64 : Int32)), (.ref o0)])) (fun _ ks_ => XS.iloadN X0.here hx rfl (hb hby d4_1) rfl  ks_) ?_
  refine go (u' := s₁.setTop (mkF m 3 #[.val (.ref o0), .val (.int (64 : Int32))] [(.int (1 : Int32)), (.int (64 : Int32)), (.ref o0)])) (fun _ ks_ => XS.iconst X0.here hx rfl (hb hby d4_2) ks_) ?_
  refine go (u' := s₁.setTop (mkF m 4 #[.val (.ref o0), .val (.int (64 : Int32))] [(.int ((64 : Int32) - (1 : Int32))), (.ref o0)])) (fun _ ks_ => XS.isub X0.here hx rfl (hb hby d4_3) rfl ks_) ?_
  obtain ⟨_, _, ⟨T1, L1, k1, n1⟩, -, X1, ⟨Lc1, hQ1, l1, y1, z1⟩, st1⟩ := Jvm.LawKit.callS X0 hx (y := (⟨"java/util/BitSet", "wordIndex", "(I)I"⟩ : MethodName)) hown (mvT hZ (ww hw 26 rfl)) (mvT hZ (ww hw 27 rfl)) (mvT hZ (ww hw 10 rfl)) (mvT hZ (ww hw 28 rfl)) (by decide) (backOf (W := 1) (rm5 l Z a0 hw [] ((64 : Int32) - (1 : Int32)) h0 n0 Z0) hZ (ww hw 28 rfl) (ww hw 10 rfl) (by decide) (by decide)) (g := (mkF m 4 #[.val (.ref o0), .val (.int (64 : Int32))] [(.int ((64 : Int32) - (1 : Int32))), (.ref o0)])) rfl (by rw [hml]; rfl) (argsL := [(.int ((64 : Int32) - (1 : Int32)))]) (rest := [(.ref o0)]) (lenOf pd__40_I_41_I rfl) rfl (by show 2 * 0 + _ ≤ _; exact Nat.le_of_eq rfl) (hb hby d4_4) (fun _ _ => ⟨rfl, e0, (by decide : 0 + 0 ≤ _), (by decide : 0 + 0 ≤ _)⟩)
  dsimp only [Pt.U, Pt.locs, Pt.cells, Pt.slots] at X1 l1 y1 z1 st1 hQ1
  subst l1 y1 z1
  obtain ⟨rfl, N1q, eq1⟩ := hQ1
  have N1 := Fr.app N0 N1q
  refine go (u' := T1.setTop (mkF m 7 #[.val (.ref o0), .val (.int (64 : Int32))] [(.int (((64 : Int32) - (1 : Int32)) >>> ((6 : Int32) &&& 31))), (.ref o0)])) st1 ?_
  refine go (u' := T1.setTop (mkF m 8 #[.val (.ref o0), .val (.int (64 : Int32))] [(.int (1 : Int32)), (.int (((64 : Int32) - (1 : Int32)) >>> ((6 : Int32) &&& 31))), (.ref o0)])) (fun _ ks_ => XS.iconst X1.here hx rfl (hb hby d4_7) ks_) ?_
  refine go (u' := T1.setTop (mkF m 9 #[.val (.ref o0), .val (.int (64 : Int32))] [(.int ((((64 : Int32) - (1 : Int32)) >>> ((6 : Int32) &&& 31)) + (1 : Int32))), (.ref o0)])) (fun _ ks_ => XS.iadd X1.here hx rfl (hb hby d4_8) rfl ks_) ?_
  obtain ⟨T2, h2, k2, X2, e2, E2, A2, st2⟩ := newP X1 hx hZ (ww hw 29 rfl) eq1 (g := (mkF m 9 #[.val (.ref o0), .val (.int (64 : Int32))] [(.int ((((64 : Int32) - (1 : Int32)) >>> ((6 : Int32) &&& 31)) + (1 : Int32))), (.ref o0)])) rfl (hb hby d4_9) rfl (by decide) (cap := 1) (by decide) (by decide) (by decide) (by decide)
  obtain ⟨b2, g2⟩ : ∃ z, z = h0.size := ⟨_, rfl⟩
  rw [← g2] at A2 st2
  have ne_o0_b2 : o0 ≠ b2 := Nat.ne_of_lt (Nat.lt_of_lt_of_le F0.lt (Nat.le_of_eq g2.symm))
  have g_b2 : n0 ≤ b2 := Nat.le_trans Z0 (Nat.le_of_eq g2.symm)
  have sz_b2 : h0.size ≤ b2 := Nat.le_trans (Keep.refl h0 [o0]).1 (Nat.le_of_eq g2.symm)
  have K2 : Keep h0 h2 [o0] := (Keep.refl h0 [o0]).ext E2
  have Fa3 : Exa Z h2 o0 "java/util/BitSet" := F0.ext E2
  have Fa4 : Fld Z h2 o0 "java/util/BitSet" "wordsInUse" "I" (.int (0 : Int32)) := F1.ext E2
  have Fa5 : Fld Z h2 o0 "java/util/BitSet" "sizeIsSticky" "Z" (.int (0 : Int32)) := F2.ext E2
  have Fa6 : Fld Z h2 o0 "java/util/BitSet" "words" "[J" .null := F3.ext E2
  have Z2 : n0 ≤ h2.size := Nat.le_trans Z0 E2.1
  refine go (u' := T2.setTop (mkF m 11 #[.val (.ref o0), .val (.int (64 : Int32))] [(.ref b2), (.ref o0)])) st2 ?_
  obtain ⟨T8, h8, X8, e8, W8, st8⟩ := putF X2 hx hZ hown (host := "") (Or.inl (ww hw 30 rfl)) Via.refl e2 Fa6 Fa3 (Or.inl (ww hw 31 rfl)) (ww hw 9 rfl) (ty := (.array .long)) (by decide) rfl rfl (g := (mkF m 11 #[.val (.ref o0), .val (.int (64 : Int32))] [(.ref b2), (.ref o0)])) rfl rfl (hb hby d4_11)
  have N8 := Fr.snoc X8 N1 g_o0
  have K8 : Keep h0 h8 [o0] := K2.wr W8 (Or.inl (List.mem_of_getElem? (i := 0) rfl))
  have Z8 : n0 ≤ h8.size := Nat.le_trans Z2 (Keep.of_wr W8).1
  have Fa9 : Exa Z h8 o0 "java/util/BitSet" := Fa3.wr W8
  have Fa10 : Fld Z h8 o0 "java/util/BitSet" "wordsInUse" "I" (.int (0 : Int32)) := Fa4.other W8 (Or.inr (slot_ne (Or.inl (ww hw 18 rfl)) (Or.inl (ww hw 31 rfl)) (by decide) (t := .int) (t' := (.array .long)) (by decide) (by decide)))
  have Fa11 : Fld Z h8 o0 "java/util/BitSet" "sizeIsSticky" "Z" (.int (0 : Int32)) := Fa5.other W8 (Or.inr (slot_ne (Or.inl (ww hw 20 rfl)) (Or.inl (ww hw 31 rfl)) (by decide) (t := .boolean) (t' := (.array .long)) (by decide) (by decide)))
  have Fa12 : Fld Z h8 o0 "java/util/BitSet" "words" "[J" (.ref b2) := Fa6.same W8
  refine go (u' := T8.setTop (mkF m 14 #[.val (.ref o0), .val (.int (64 : Int32))] [])) st8 ?_
  rw [hG]
  refine g0 X8 hx hlk hret (hb hby d4_14) ?_ (Nat.le_of_ble_eq_true rfl) (Nat.le_of_ble_eq_true rfl)
  show Q_rm4 Z o0 h0 n0 (none) T8.heap _
  rw [e8]
  exact ⟨(.ref b2), rfl, N8, K8, Fa9, Fa10, Fa11, Fa12⟩
theorem pd__40_I_41_V : parseMethodDescriptor "(I)V" = some ⟨[.int], none⟩ := by decide +kernel
theorem pn_java_util_BitSet__init__2 : plainFor (⟨"java/util/BitSet", "<init>", "()V"⟩ : MethodName) = true := by first | exact plainFor_of_name (by first | (simp [plainName, overriddenIn]; done) | decide +kernel) | decide +kernel
def Q_rm2 (Z : State) (o0 : Addr) (h0 : Heap) (n0 : Nat) (v : Option Value) (h : Heap) (L : List Loc) : Prop := ∃ wv : Value, v = none ∧ Fr n0 L ∧ Keep h0 h [o0] ∧ (Exa Z h o0 "java/util/BitSet") ∧ (Fld Z h o0 "java/util/BitSet" "wordsInUse" "I" (.int (0 : Int32))) ∧ (Fld Z h o0 "java/util/BitSet" "sizeIsSticky" "Z" (.int (0 : Int32))) ∧ (Fld Z h o0 "java/util/BitSet" "words" "[J" wv)
set_option maxRecDepth 65536 in
set_option maxHeartbeats 4000000 in
theorem ef_rm2 (m : MethodId) (o0 : Addr) : entryFrame m #[(.ref o0)] 1 = mkF m 0 #[.val (.ref o0)] [] := by first | (simp [entryFrame, mkF, argsToLocals, Value.category, maxLocals]; done) | rfl
theorem d2_0 : decode jdk_92_method_4_code 0 = .ok (.aload_n 0, 1) := by decide +kernel
theorem d2_1 : decode jdk_92_method_4_code 1 = .ok (.invokespecial 21, 3) := by decide +kernel
theorem d2_4 : decode jdk_92_method_4_code 4 = .ok (.aload_n 0, 1) := by decide +kernel
theorem d2_5 : decode jdk_92_method_4_code 5 = .ok (.iconst 0, 1) := by decide +kernel
theorem d2_6 : decode jdk_92_method_4_code 6 = .ok (.putfield 7, 3) := by decide +kernel
theorem d2_9 : decode jdk_92_method_4_code 9 = .ok (.aload_n 0, 1) := by decide +kernel
theorem d2_10 : decode jdk_92_method_4_code 10 = .ok (.iconst 0, 1) := by decide +kernel
theorem d2_11 : decode jdk_92_method_4_code 11 = .ok (.putfield 24, 3) := by decide +kernel
theorem d2_14 : decode jdk_92_method_4_code 14 = .ok (.aload_n 0, 1) := by decide +kernel
theorem d2_15 : decode jdk_92_method_4_code 15 = .ok (.bipush 64, 2) := by decide +kernel
theorem d2_17 : decode jdk_92_method_4_code 17 = .ok (.invokevirtual 27, 3) := by decide +kernel
theorem d2_20 : decode jdk_92_method_4_code 20 = .ok (.aload_n 0, 1) := by decide +kernel
theorem d2_21 : decode jdk_92_method_4_code 21 = .ok (.iconst 0, 1) := by decide +kernel
theorem d2_22 : decode jdk_92_method_4_code 22 = .ok (.putfield 24, 3) := by decide +kernel
theorem d2_25 : decode jdk_92_method_4_code 25 = .ok (.return_, 1) := by decide +kernel
set_option maxRecDepth 65536 in
set_option maxHeartbeats 40000000 in
theorem rm2 (l : Launch) (Z : State) (a0 : Array Value) (hw : ∀ d ∈ tables_1, d.before a0 Z = true) (ws : List Jvm.Cond) (o0 : Addr) (h0 : Heap) (n0 : Nat) (Z0 : n0 ≤ h0.size) (g_o0 : n0 ≤ o0) (F0 : Exa Z h0 o0 "java/util/BitSet") (F1 : Fld Z h0 o0 "java/util/BitSet" "wordsInUse" "I" (.int (0 : Int32))) (F2 : Fld Z h0 o0 "java/util/BitSet" "sizeIsSticky" "Z" (.int (0 : Int32))) (F3 : Fld Z h0 o0 "java/util/BitSet" "words" "[J" .null) :
    MetFree l (⟨"java/util/BitSet", "<init>", "()V"⟩ : MethodName) (head1 (Jvm.Cond.code (⟨"java/util/BitSet", "<init>", "()V"⟩ : MethodName) jdk_92_method_4_code 1 none :: ws) ({ frames := 2, cells := 1, slots := 1, locals := 26 } : Room)) (fun a U => a = #[(.ref o0)] ∧ Z.Warmed39 U.vm ∧ U.heap = h0) (fun _ _ _ _ _ => True) (fun _ U o U' => ∃ v L, o = .returned v ∧ Q_rm2 Z o0 h0 n0 v U'.heap L ∧ FrameEnd U o U' L ({ frames := 2, cells := 1, slots := 1, locals := 26 } : Room).cells ({ frames := 2, cells := 1, slots := 1, locals := 26 } : Room).slots) := by
  refine body pn_java_util_BitSet__init__2 ?_
  intro p e s m below meth c s₁ hx hby hml hown hnm hret hlk hZ e0 X0
  replace hml : c.maxLocals = 1 := hml
  replace hown : s.vm.findClass "java/util/BitSet" = some m.cls := hown
  replace hnm : meth.name = "<init>" := hnm
  replace hret : meth.sig.returnType = none := hret
  have N0 := Fr.nil n0
  rw [ef_rm2]
  obtain ⟨G, hG⟩ : ∃ G, G = End (Q_rm2 Z o0 h0 n0) s ({ frames := 2, cells := 1, slots := 1, locals := 26 } : Room).cells ({ frames := 2, cells := 1, slots := 1, locals := 26 } : Room).slots := ⟨_, rfl⟩
  rw [← hG]
  refine go (u' := s₁.setTop (mkF m 1 #[.val (.ref o0)] [(.ref o0)])) (fun _ ks_ => XS.aloadN X0.here hx rfl (hb hby d2_0) rfl rfl ks_) ?_
  obtain ⟨T1, X1, e1, st1⟩ := initO X0 hx hZ hown (ww hw 14 rfl) (ww hw 15 rfl) (ww hw 16 rfl) e0 (g := (mkF m 1 #[.val (.ref o0)] [(.ref o0)])) rfl (by rw [hml]; rfl) rfl (hb hby d2_1) (by decide) (W := 0) (by show 2 * 0 + _ ≤ _; exact Nat.le_of_eq rfl) (by decide)
  refine go (u' := T1.setTop (mkF m 4 #[.val (.ref o0)] [])) st1 ?_
  refine go (u' := T1.setTop (mkF m 5 #[.val (.ref o0)] [(.ref o0)])) (fun _ ks_ => XS.aloadN X1.here hx rfl (hb hby d2_4) rfl rfl ks_) ?_
  refine go (u' := T1.setTop (mkF m 6 #[.val (.ref o0)] [(.int (0 : Int32)), (.ref o0)])) (fun _ ks_ => XS.iconst X1.here hx rfl (hb hby d2_5) ks_) ?_
  obtain ⟨T2, h2, X2, e2, W2, st2⟩ := putF X1 hx hZ hown (host := "") (Or.inl (ww hw 17 rfl)) Via.refl e1 F1 F0 (Or.inl (ww hw 18 rfl)) (ww hw 9 rfl) (ty := .int) (by decide) rfl rfl (g := (mkF m 6 #[.val (.ref o0)] [(.int (0 : Int32)), (.ref o0)])) rfl rfl (hb hby d2_6)
  have N2 := Fr.snoc X2 N0 g_o0
  have K2 : Keep h0 h2 [o0] := (Keep.refl h0 [o0]).wr W2 (Or.inl (List.mem_of_getElem? (i := 0) rfl))
  have Z2 : n0 ≤ h2.size := Nat.le_trans Z0 (Keep.of_wr W2).1
  have Fa3 : Exa Z h2 o0 "java/util/BitSet" := F0.wr W2
  have Fa4 : Fld Z h2 o0 "java/util/BitSet" "sizeIsSticky" "Z" (.int (0 : Int32)) := F2.other W2 (Or.inr (slot_ne (Or.inl (ww hw 20 rfl)) (Or.inl (ww hw 18 rfl)) (by decide) (t := .boolean) (t' := .int) (by decide) (by decide)))
  have Fa5 : Fld Z h2 o0 "java/util/BitSet" "words" "[J" .null := F3.other W2 (Or.inr (slot_ne (Or.inl (ww hw 31 rfl)) (Or.inl (ww hw 18 rfl)) (by decide) (t := (.array .long)) (t' := .int) (by decide) (by decide)))
  have Fa6 : Fld Z h2 o0 "java/util/BitSet" "wordsInUse" "I" (.int (0 : Int32)) := F1.same W2
  refine go (u' := T2.setTop (mkF m 9 #[.val (.ref o0)] [])) st2 ?_
  refine go (u' := T2.setTop (mkF m 10 #[.val (.ref o0)] [(.ref o0)])) (fun _ ks_ => XS.aloadN X2.here hx rfl (hb hby d2_9) rfl rfl ks_) ?_
  refine go (u' := T2.setTop (mkF m 11 #[.val (.ref o0)] [(.int (0 : Int32)), (.ref o0)])) (fun _ ks_ => XS.iconst X2.here hx rfl (hb hby d2_10) ks_) ?_
  have hn7 : narrow .boolean (.int (0 : Int32)) = .int (0 : Int32) := rfl
  have hf7 : fits .boolean (.int (0 : Int32)) = true := rfl
  obtain ⟨T7, h7, X7, e7, W7, st7⟩ := putFN X2 hx hZ hown (ww hw 19 rfl) Via.refl e2 Fa4 Fa3 (Or.inl (ww hw 20 rfl)) (ww hw 9 rfl) (ty := .boolean) (v' := .int (0 : Int32)) (by decide) hn7 hf7 (g := (mkF m 11 #[.val (.ref o0)] [(.int (0 : Int32)), (.ref o0)])) rfl rfl (hb hby d2_11)
  have N7 := Fr.snoc X7 N2 g_o0
  have K7 : Keep h0 h7 [o0] := K2.wr W7 (Or.inl (List.mem_of_getElem? (i := 0) rfl))
  have Z7 : n0 ≤ h7.size := Nat.le_trans Z2 (Keep.of_wr W7).1
  have Fa8 : Exa Z h7 o0 "java/util/BitSet" := Fa3.wr W7
  have Fa9 : Fld Z h7 o0 "java/util/BitSet" "wordsInUse" "I" (.int (0 : Int32)) := Fa6.other W7 (Or.inr (slot_ne (Or.inl (ww hw 18 rfl)) (Or.inl (ww hw 20 rfl)) (by decide) (t := .int) (t' := .boolean) (by decide) (by decide)))
  have Fa10 : Fld Z h7 o0 "java/util/BitSet" "words" "[J" .null := Fa5.other W7 (Or.inr (slot_ne (Or.inl (ww hw 31 rfl)) (Or.inl (ww hw 20 rfl)) (by decide) (t := (.array .long)) (t' := .boolean) (by decide) (by decide)))
  have Fa11 : Fld Z h7 o0 "java/util/BitSet" "sizeIsSticky" "Z" (.int (0 : Int32)) := Fa4.same W7
  refine go (u' := T7.setTop (mkF m 14 #[.val (.ref o0)] [])) st7 ?_
  refine go (u' := T7.setTop (mkF m 15 #[.val (.ref o0)] [(.ref o0)])) (fun _ ks_ => XS.aloadN X7.here hx rfl (hb hby d2_14) rfl rfl ks_) ?_
  refine go (u' := T7.setTop (mkF m 17 #[.val (.ref o0)] [(.int (64 : Int32)), (.ref o0)])) (fun _ ks_ => XS.bipush X7.here hx rfl (hb hby d2_15) ks_) ?_
  obtain ⟨cq12, q12, q12'⟩ := Fa8.cell
  obtain ⟨_, _, ⟨T12, L12, k12, n12⟩, -, X12, ⟨Lc12, hQ12, l12, y12, z12⟩, st12⟩ := X7.privateBack hx (y := (⟨"java/util/BitSet", "initWords", "(I)V"⟩ : MethodName)) hown (mvT hZ (ww hw 21 rfl)) (mvT hZ (ww hw 22 rfl)) (mvT hZ (ww hw 24 rfl)) (Cond.privateMethod_at (mvP hZ (ww hw 23 rfl) (args := #[]))) (mvT hZ (ww hw 25 rfl)) (by decide) (backOf (W := 0) (rm4 l Z a0 hw [] o0 h7 n0 Z7 g_o0 Fa8 Fa9 Fa11 Fa10) hZ (ww hw 25 rfl) (ww hw 10 rfl) (by decide) (by decide)) (g := (mkF m 17 #[.val (.ref o0)] [(.int (64 : Int32)), (.ref o0)])) rfl (by rw [hml]; rfl) (Steps.refl _) (a := o0) (by rw [e7]; exact q12) q12' (argsL := [(.int (64 : Int32))]) (rest := []) (lenOf pd__40_I_41_V rfl) rfl (by show 2 * 0 + _ ≤ _; exact Nat.le_of_eq rfl) (hb hby d2_17) (fun _ _ => ⟨rfl, e7, (by decide : 0 + 1 ≤ _), (by decide : 0 + 1 ≤ _)⟩)
  dsimp only [Pt.U, Pt.locs, Pt.cells, Pt.slots] at X12 l12 y12 z12 st12 hQ12
  subst l12 y12 z12
  obtain ⟨wv12, rfl, N12q, Kq12, Fa13, Fa14, Fa15, Fa16⟩ := hQ12
  have N12 := Fr.app N7 N12q
  have K12 : Keep h0 T12.heap [o0] := K7.trans Kq12 (allS (P := fun x => x ∈ [o0] ∨ h0.size ≤ x) (Or.inl (List.mem_of_getElem? (i := 0) rfl)) all0)
  have Z12 : n0 ≤ T12.heap.size := Nat.le_trans Z7 Kq12.1
  have Fa17 : Exa Z T12.heap o0 "java/util/BitSet" := Fa8.keep Kq12
  refine goT (u' := T12.setTop (mkF m 20 #[.val (.ref o0)] [])) st12 ?_
  refine go (u' := T12.setTop (mkF m 21 #[.val (.ref o0)] [(.ref o0)])) (fun _ ks_ => XS.aloadN X12.here hx rfl (hb hby d2_20) rfl rfl ks_) ?_
  refine go (u' := T12.setTop (mkF m 22 #[.val (.ref o0)] [(.int (0 : Int32)), (.ref o0)])) (fun _ ks_ => XS.iconst X12.here hx rfl (hb hby d2_21) ks_) ?_
  have hn18 : narrow .boolean (.int (0 : Int32)) = .int (0 : Int32) := rfl
  have hf18 : fits .boolean (.int (0 : Int32)) = true := rfl
  obtain ⟨T18, h18, X18, e18, W18, st18⟩ := putFN X12 hx hZ hown (ww hw 19 rfl) Via.refl (rfl : T12.heap = _) Fa15 Fa13 (Or.inl (ww hw 20 rfl)) (ww hw 9 rfl) (ty := .boolean) (v' := .int (0 : Int32)) (by decide) hn18 hf18 (g := (mkF m 22 #[.val (.ref o0)] [(.int (0 : Int32)), (.ref o0)])) rfl rfl (hb hby d2_22)
  have N18 := Fr.snoc X18 N12 g_o0
  have K18 : Keep h0 h18 [o0] := K12.wr W18 (Or.inl (List.mem_of_getElem? (i := 0) rfl))
  have Z18 : n0 ≤ h18.size := Nat.le_trans Z12 (Keep.of_wr W18).1
  have Fa19 : Exa Z h18 o0 "java/util/BitSet" := Fa13.wr W18
  have Fa20 : Fld Z h18 o0 "java/util/BitSet" "wordsInUse" "I" (.int (0 : Int32)) := Fa14.other W18 (Or.inr (slot_ne (Or.inl (ww hw 18 rfl)) (Or.inl (ww hw 20 rfl)) (by decide) (t := .int) (t' := .boolean) (by decide) (by decide)))
  have Fa21 : Fld Z h18 o0 "java/util/BitSet" "words" "[J" wv12 := Fa16.other W18 (Or.inr (slot_ne (Or.inl (ww hw 31 rfl)) (Or.inl (ww hw 20 rfl)) (by decide) (t := (.array .long)) (t' := .boolean) (by decide) (by decide)))
  have Fa22 : Fld Z h18 o0 "java/util/BitSet" "sizeIsSticky" "Z" (.int (0 : Int32)) := Fa15.same W18
  refine go (u' := T18.setTop (mkF m 25 #[.val (.ref o0)] [])) st18 ?_
  rw [hG]
  refine g0 X18 hx hlk hret (hb hby d2_25) ?_ (Nat.le_of_ble_eq_true rfl) (Nat.le_of_ble_eq_true rfl)
  show Q_rm2 Z o0 h0 n0 (none) T18.heap _
  rw [e18]
  exact ⟨wv12, rfl, N18, K18, Fa19, Fa20, Fa22, Fa21⟩
theorem pn_java_util_Arrays_rangeCheck_11 : plainFor (⟨"java/util/Arrays", "rangeCheck", "(III)V"⟩ : MethodName) = true := by first | exact plainFor_of_name (by first | (simp [plainName, overriddenIn]; done) | decide +kernel) | decide +kernel
def Q_rm11 (Z : State) (p0 : Int32) (p1 : Int32) (p2 : Int32) (h0 : Heap) (n0 : Nat) (v : Option Value) (h : Heap) (L : List Loc) : Prop := v = none ∧ Fr n0 L ∧ h = h0
set_option maxRecDepth 65536 in
set_option maxHeartbeats 4000000 in
theorem ef_rm11 (m : MethodId) (p0 : Int32) (p1 : Int32) (p2 : Int32) : entryFrame m #[(.int p0), (.int p1), (.int p2)] 3 = mkF m 0 #[.val (.int p0), .val (.int p1), .val (.int p2)] [] := by first | (simp [entryFrame, mkF, argsToLocals, Value.category, maxLocals]; done) | rfl
theorem d11_0 : decode jdk_65_method_30_code 0 = .ok (.iload_n 1, 1) := by decide +kernel
theorem d11_1 : decode jdk_65_method_30_code 1 = .ok (.iload_n 2, 1) := by decide +kernel
theorem d11_2 : decode jdk_65_method_30_code 2 = .ok (.if_icmp .le 44, 3) := by decide +kernel
theorem d11_46 : decode jdk_65_method_30_code 46 = .ok (.iload_n 1, 1) := by decide +kernel
theorem d11_47 : decode jdk_65_method_30_code 47 = .ok (.ifCond .ge 12, 3) := by decide +kernel
theorem d11_59 : decode jdk_65_method_30_code 59 = .ok (.iload_n 2, 1) := by decide +kernel
theorem d11_60 : decode jdk_65_method_30_code 60 = .ok (.iload_n 0, 1) := by decide +kernel
theorem d11_61 : decode jdk_65_method_30_code 61 = .ok (.if_icmp .le 12, 3) := by decide +kernel
theorem d11_73 : decode jdk_65_method_30_code 73 = .ok (.return_, 1) := by decide +kernel
set_option maxRecDepth 65536 in
set_option maxHeartbeats 40000000 in
theorem rm11 (l : Launch) (Z : State) (a0 : Array Value) (hw : ∀ d ∈ tables_1, d.before a0 Z = true) (ws : List Jvm.Cond) (p0 : Int32) (p1 : Int32) (p2 : Int32) (h0 : Heap) (n0 : Nat) (Z0 : n0 ≤ h0.size) (h1 : ¬ p2 < p1) (h2 : ¬ p1 < 0) (h3 : ¬ p0 < p2) :
    MetFree l (⟨"java/util/Arrays", "rangeCheck", "(III)V"⟩ : MethodName) (head1 (Jvm.Cond.code (⟨"java/util/Arrays", "rangeCheck", "(III)V"⟩ : MethodName) jdk_65_method_30_code 3 none :: ws) ({ frames := 0, cells := 0, slots := 0, locals := 0 } : Room)) (fun a U => a = #[(.int p0), (.int p1), (.int p2)] ∧ Z.Warmed39 U.vm ∧ U.heap = h0) (fun _ _ _ _ _ => True) (fun _ U o U' => ∃ v L, o = .returned v ∧ Q_rm11 Z p0 p1 p2 h0 n0 v U'.heap L ∧ FrameEnd U o U' L ({ frames := 0, cells := 0, slots := 0, locals := 0 } : Room).cells ({ frames := 0, cells := 0, slots := 0, locals := 0 } : Room).slots) := by
  refine body pn_java_util_Arrays_rangeCheck_11 ?_
  intro p e s m below meth c s₁ hx hby hml hown hnm hret hlk hZ e0 X0
  replace hml : c.maxLocals = 3 := hml
  replace hown : s.vm.findClass "java/util/Arrays" = some m.cls := hown
  replace hnm : meth.name = "rangeCheck" := hnm
  replace hret : meth.sig.returnType = none := hret
  have N0 := Fr.nil n0
  rw [ef_rm11]
  obtain ⟨G, hG⟩ : ∃ G, G = End (Q_rm11 Z p0 p1 p2 h0 n0) s ({ frames := 0, cells := 0, slots := 0, locals := 0 } : Room).cells ({ frames := 0, cells := 0, slots := 0, locals := 0 } : Room).slots := ⟨_, rfl⟩
  rw [← hG]
  refine go (u' := s₁.setTop (mkF m 1 #[.val (.int p0), .val (.int p1), .val (.int p2)] [(.int p1)])) (fun _ ks_ => XS.iloadN X0.here hx rfl (hb hby d11_0) rfl  ks_) ?_
  refine go (u' := s₁.setTop (mkF m 2 #[.val (.int p0), .val (.int p1), .val (.int p2)] [(.int p2), (.int p1)])) (fun _ ks_ => XS.iloadN X0.here hx rfl (hb hby d11_1) rfl  ks_) ?_
  refine go (u' := s₁.setTop (mkF m 46 #[.val (.int p0), .val (.int p1), .val (.int p2)] [])) (fun _ ks_ => XS.icmpYes X0.here hx rfl (pc0 := 2) (pc' := 46) rfl (hb hby d11_2) rfl (flt h1).2.2.2 (by decide) (by decide) ks_) ?_
  refine go (u' := s₁.setTop (mkF m 47 #[.val (.int p0), .val (.int p1), .val (.int p2)] [(.int p1)])) (fun _ ks_ => XS.iloadN X0.here hx rfl (hb hby d11_46) rfl  ks_) ?_
  refine go (u' := s₁.setTop (mkF m 59 #[.val (.int p0), .val (.int p1), .val (.int p2)] [])) (fun _ ks_ => XS.ifYes X0.here hx rfl (pc0 := 47) (pc' := 59) rfl (hb hby d11_47) rfl ((if0 _ _).trans (flt h2).2.1) (by decide) (by decide) ks_) ?_
  refine go (u' := s₁.setTop (mkF m 60 #[.val (.int p0), .val (.int p1), .val (.int p2)] [(.int p2)])) (fun _ ks_ => XS.iloadN X0.here hx rfl (hb hby d11_59) rfl  ks_) ?_
  refine go (u' := s₁.setTop (mkF m 61 #[.val (.int p0), .val (.int p1), .val (.int p2)] [(.int p0), (.int p2)])) (fun _ ks_ => XS.iloadN X0.here hx rfl (hb hby d11_60) rfl  ks_) ?_
  refine go (u' := s₁.setTop (mkF m 73 #[.val (.int p0), .val (.int p1), .val (.int p2)] [])) (fun _ ks_ => XS.icmpYes X0.here hx rfl (pc0 := 61) (pc' := 73) rfl (hb hby d11_61) rfl (flt h3).2.2.2 (by decide) (by decide) ks_) ?_
  rw [hG]
  refine g0 X0 hx hlk hret (hb hby d11_73) ?_ (Nat.le_of_ble_eq_true rfl) (Nat.le_of_ble_eq_true rfl)
  show Q_rm11 Z p0 p1 p2 h0 n0 (none) s₁.heap _
  rw [e0]
  exact ⟨rfl, N0, rfl⟩
theorem own_is {n : Nat} {p1 p2 k : Int32} {t : Nat} (hn : n ≤ 4) (hb : 0 ≤ p1.toInt ∧ p1.toInt ≤ p2.toInt ∧ p2.toInt ≤ n) (hk : p1.toInt ≤ k.toInt ∧ k.toInt ≤ p2.toInt ∧ p2.toInt ≤ k.toInt + 1 + (t + 1 : Nat)) (hc : (k + 1) < p2) :
    (0 ≤ (k + 1).toInt ∧ (k + 1).toInt < n) ∧ (0 ≤ ((k + 1) - 1).toInt ∧ ((k + 1) - 1).toInt < n) ∧ ((k + 1).toInt = p1.toInt + (((k + 1).toInt - p1.toInt).toNat : Nat) ∧ (k + 1).toInt < n) ∧ (p1.toInt ≤ (k + 1).toInt ∧ (k + 1).toInt ≤ p2.toInt ∧ p2.toInt ≤ (k + 1).toInt + 1 + (t : Nat)) := by
  rw [Int32.lt_iff_toInt_lt] at hc
  have a1 := c_iadd k 1
  have a2 := rng32 (k + 1)
  have a3 : (1 : Int32).toInt = 1 := rfl
  have a4 := c_isub (k + 1) 1
  have a5 := rng32 ((k + 1) - 1)
  rw [a3] at a1 a4
  omega
theorem own_is0 {n : Nat} {p1 p2 k : Int32} (hn : n ≤ 4) (hb : 0 ≤ p1.toInt ∧ p1.toInt ≤ p2.toInt ∧ p2.toInt ≤ n) (hk : p1.toInt ≤ k.toInt ∧ k.toInt ≤ p2.toInt ∧ p2.toInt ≤ k.toInt + 1 + (0 : Nat)) : ¬ (k + 1) < p2 := by
  rw [Int32.lt_iff_toInt_lt]
  have a1 := c_iadd k 1
  have a2 := rng32 (k + 1)
  have a3 : (1 : Int32).toInt = 1 := rfl
  rw [a3] at a1
  omega
theorem own_first {n : Nat} {p1 p2 : Int32} (hb : 0 ≤ p1.toInt ∧ p1.toInt ≤ p2.toInt ∧ p2.toInt ≤ n) : p1.toInt ≤ p1.toInt ∧ p1.toInt ≤ p2.toInt ∧ p2.toInt ≤ p1.toInt + 1 + ((p2.toInt - p1.toInt).toNat : Nat) := by omega
theorem own_in {n : Nat} {p1 i : Int32} {t : Nat} (hn : n ≤ 4) (h0 : 0 ≤ p1.toInt) (hi : i.toInt = p1.toInt + (t : Nat) ∧ i.toInt < n) : (i + (-1)).toInt = i.toInt - 1 ∧ ((i + (-1)) + 1).toInt = i.toInt := by
  have a1 := c_iadd i (-1)
  have a2 := rng32 (i + (-1))
  have a3 : (1 : Int32).toInt = 1 := rfl
  have a6 : (-1 : Int32).toInt = -1 := rfl
  have a4 := c_iadd (i + (-1)) 1
  have a5 := rng32 ((i + (-1)) + 1)
  rw [a6] at a1
  rw [a3] at a4
  omega
theorem own_in0 {n : Nat} {p1 i : Int32} (hn : n ≤ 4) (h0 : 0 ≤ p1.toInt) (hi : i.toInt = p1.toInt + (0 : Nat) ∧ i.toInt < n) : (i + (-1)) < p1 ∧ (0 ≤ ((i + (-1)) + 1).toInt ∧ ((i + (-1)) + 1).toInt < n) := by
  have h := own_in hn h0 hi
  rw [Int32.lt_iff_toInt_lt]; omega
theorem own_inS {n : Nat} {p1 i : Int32} {t : Nat} (hn : n ≤ 4) (h0 : 0 ≤ p1.toInt) (hi : i.toInt = p1.toInt + (t + 1 : Nat) ∧ i.toInt < n) : ¬ (i + (-1)) < p1 ∧ (0 ≤ ((i + (-1)) + 1).toInt ∧ ((i + (-1)) + 1).toInt < n) ∧ (0 ≤ (i + (-1)).toInt ∧ (i + (-1)).toInt < n) ∧ ((i + (-1)).toInt = p1.toInt + (t : Nat) ∧ (i + (-1)).toInt < n) := by
  have h := own_in hn h0 hi
  rw [Int32.lt_iff_toInt_lt]; omega
theorem pn_java_util_DualPivotQuicksort_insertionSort_14 : plainFor (⟨"java/util/DualPivotQuicksort", "insertionSort", "([III)V"⟩ : MethodName) = true := by first | exact plainFor_of_name (by first | (simp [plainName, overriddenIn]; done) | decide +kernel) | decide +kernel
def Q_rm14 (Z : State) (o0 : Addr) (p1 : Int32) (p2 : Int32) (n : Nat) (g : Nat → Int32) (h0 : Heap) (n0 : Nat) (v : Option Value) (h : Heap) (L : List Loc) : Prop := ∃ g1 : Nat → Int32, v = none ∧ Fr n0 L ∧ Keep h0 h [o0] ∧ (PI Z h o0 .int n g1)
set_option maxRecDepth 65536 in
set_option maxHeartbeats 4000000 in
theorem ef_rm14 (m : MethodId) (o0 : Addr) (p1 : Int32) (p2 : Int32) : entryFrame m #[(.ref o0), (.int p1), (.int p2)] 6 = mkF m 0 #[.val (.ref o0), .val (.int p1), .val (.int p2), .unset, .unset, .unset] [] := by first | (simp [entryFrame, mkF, argsToLocals, Value.category, maxLocals]; done) | rfl
theorem d14_0 : decode jdk_2529_method_6_code 0 = .ok (.iload_n 1, 1) := by decide +kernel
theorem d14_1 : decode jdk_2529_method_6_code 1 = .ok (.istore 4, 2) := by decide +kernel
theorem d14_3 : decode jdk_2529_method_6_code 3 = .ok (.iinc 4 1, 3) := by decide +kernel
theorem d14_6 : decode jdk_2529_method_6_code 6 = .ok (.iload 4, 2) := by decide +kernel
theorem d14_8 : decode jdk_2529_method_6_code 8 = .ok (.iload_n 2, 1) := by decide +kernel
theorem d14_9 : decode jdk_2529_method_6_code 9 = .ok (.if_icmp .ge 58, 3) := by decide +kernel
theorem d14_12 : decode jdk_2529_method_6_code 12 = .ok (.aload_n 0, 1) := by decide +kernel
theorem d14_13 : decode jdk_2529_method_6_code 13 = .ok (.iload 4, 2) := by decide +kernel
theorem d14_15 : decode jdk_2529_method_6_code 15 = .ok (.dup, 1) := by decide +kernel
theorem d14_16 : decode jdk_2529_method_6_code 16 = .ok (.istore_n 3, 1) := by decide +kernel
theorem d14_17 : decode jdk_2529_method_6_code 17 = .ok (.iaload, 1) := by decide +kernel
theorem d14_18 : decode jdk_2529_method_6_code 18 = .ok (.istore 5, 2) := by decide +kernel
theorem d14_20 : decode jdk_2529_method_6_code 20 = .ok (.iload 5, 2) := by decide +kernel
theorem d14_22 : decode jdk_2529_method_6_code 22 = .ok (.aload_n 0, 1) := by decide +kernel
theorem d14_23 : decode jdk_2529_method_6_code 23 = .ok (.iload_n 3, 1) := by decide +kernel
theorem d14_24 : decode jdk_2529_method_6_code 24 = .ok (.iconst 1, 1) := by decide +kernel
theorem d14_25 : decode jdk_2529_method_6_code 25 = .ok (.isub, 1) := by decide +kernel
theorem d14_26 : decode jdk_2529_method_6_code 26 = .ok (.iaload, 1) := by decide +kernel
theorem d14_27 : decode jdk_2529_method_6_code 27 = .ok (.if_icmp .ge 37, 3) := by decide +kernel
theorem d14_30 : decode jdk_2529_method_6_code 30 = .ok (.iinc 3 (-1), 3) := by decide +kernel
theorem d14_33 : decode jdk_2529_method_6_code 33 = .ok (.iload_n 3, 1) := by decide +kernel
theorem d14_34 : decode jdk_2529_method_6_code 34 = .ok (.iload_n 1, 1) := by decide +kernel
theorem d14_35 : decode jdk_2529_method_6_code 35 = .ok (.if_icmp .lt 22, 3) := by decide +kernel
theorem d14_38 : decode jdk_2529_method_6_code 38 = .ok (.iload 5, 2) := by decide +kernel
theorem d14_40 : decode jdk_2529_method_6_code 40 = .ok (.aload_n 0, 1) := by decide +kernel
theorem d14_41 : decode jdk_2529_method_6_code 41 = .ok (.iload_n 3, 1) := by decide +kernel
theorem d14_42 : decode jdk_2529_method_6_code 42 = .ok (.iaload, 1) := by decide +kernel
theorem d14_43 : decode jdk_2529_method_6_code 43 = .ok (.if_icmp .ge 14, 3) := by decide +kernel
theorem d14_46 : decode jdk_2529_method_6_code 46 = .ok (.aload_n 0, 1) := by decide +kernel
theorem d14_47 : decode jdk_2529_method_6_code 47 = .ok (.iload_n 3, 1) := by decide +kernel
theorem d14_48 : decode jdk_2529_method_6_code 48 = .ok (.iconst 1, 1) := by decide +kernel
theorem d14_49 : decode jdk_2529_method_6_code 49 = .ok (.iadd, 1) := by decide +kernel
theorem d14_50 : decode jdk_2529_method_6_code 50 = .ok (.aload_n 0, 1) := by decide +kernel
theorem d14_51 : decode jdk_2529_method_6_code 51 = .ok (.iload_n 3, 1) := by decide +kernel
theorem d14_52 : decode jdk_2529_method_6_code 52 = .ok (.iaload, 1) := by decide +kernel
theorem d14_53 : decode jdk_2529_method_6_code 53 = .ok (.iastore, 1) := by decide +kernel
theorem d14_54 : decode jdk_2529_method_6_code 54 = .ok (.goto (-24), 3) := by decide +kernel
theorem d14_57 : decode jdk_2529_method_6_code 57 = .ok (.aload_n 0, 1) := by decide +kernel
theorem d14_58 : decode jdk_2529_method_6_code 58 = .ok (.iload_n 3, 1) := by decide +kernel
theorem d14_59 : decode jdk_2529_method_6_code 59 = .ok (.iconst 1, 1) := by decide +kernel
theorem d14_60 : decode jdk_2529_method_6_code 60 = .ok (.iadd, 1) := by decide +kernel
theorem d14_61 : decode jdk_2529_method_6_code 61 = .ok (.iload 5, 2) := by decide +kernel
theorem d14_63 : decode jdk_2529_method_6_code 63 = .ok (.iastore, 1) := by decide +kernel
theorem d14_64 : decode jdk_2529_method_6_code 64 = .ok (.goto (-61), 3) := by decide +kernel
theorem d14_67 : decode jdk_2529_method_6_code 67 = .ok (.return_, 1) := by decide +kernel
set_option maxRecDepth 65536 in
set_option maxHeartbeats 40000000 in
theorem rm14 (l : Launch) (Z : State) (a0 : Array Value) (hw : ∀ d ∈ tables_1, d.before a0 Z = true) (ws : List Jvm.Cond) (o0 : Addr) (p1 : Int32) (p2 : Int32) (n : Nat) (g : Nat → Int32) (h0 : Heap) (n0 : Nat) (Z0 : n0 ≤ h0.size) (g_o0 : n0 ≤ o0) (F0 : PI Z h0 o0 .int n g) (hn : n ≤ 4) (hbd : 0 ≤ p1.toInt ∧ p1.toInt ≤ p2.toInt ∧ p2.toInt ≤ n) :
    MetFree l (⟨"java/util/DualPivotQuicksort", "insertionSort", "([III)V"⟩ : MethodName) (head1 (Jvm.Cond.code (⟨"java/util/DualPivotQuicksort", "insertionSort", "([III)V"⟩ : MethodName) jdk_2529_method_6_code 6 none :: ws) ({ frames := 0, cells := 0, slots := 0, locals := 0 } : Room)) (fun a U => a = #[(.ref o0), (.int p1), (.int p2)] ∧ Z.Warmed39 U.vm ∧ U.heap = h0) (fun _ _ _ _ _ => True) (fun _ U o U' => ∃ v L, o = .returned v ∧ Q_rm14 Z o0 p1 p2 n g h0 n0 v U'.heap L ∧ FrameEnd U o U' L ({ frames := 0, cells := 0, slots := 0, locals := 0 } : Room).cells ({ frames := 0, cells := 0, slots := 0, locals := 0 } : Room).slots) := by
  refine body pn_java_util_DualPivotQuicksort_insertionSort_14 ?_
  intro p e s m below meth c s₁ hx hby hml hown hnm hret hlk hZ e0 X0
  replace hml : c.maxLocals = 6 := hml
  replace hown : s.vm.findClass "java/util/DualPivotQuicksort" = some m.cls := hown
  replace hnm : meth.name = "insertionSort" := hnm
  replace hret : meth.sig.returnType = none := hret
  have N0 := Fr.nil n0
  rw [ef_rm14]
  obtain ⟨G, hG⟩ : ∃ G, G = End (Q_rm14 Z o0 p1 p2 n g h0 n0) s ({ frames := 0, cells := 0, slots := 0, locals := 0 } : Room).cells ({ frames := 0, cells := 0, slots := 0, locals := 0 } : Room).slots := ⟨_, rfl⟩
  rw [← hG]
  refine go (u' := s₁.setTop (mkF m 1 #[.val (.ref o0), .val (.int p1), .val (.int p2), .unset, .unset, .unset] [(.int p1)])) (fun _ ks_ => XS.iloadN X0.here hx rfl (hb hby d14_0) rfl  ks_) ?_
  refine go (u' := s₁.setTop (mkF m 3 #[.val (.ref o0), .val (.int p1), .val (.int p2), .unset, .val (.int p1), .unset] [])) (fun _ ks_ => XS.istore X0.here hx rfl (hb hby d14_1) rfl  (l' := #[.val (.ref o0), .val (.int p1), .val (.int p2), .unset, .val (.int p1), .unset]) rfl ks_) ?_
  have C3_1 : ∀ (t : Nat) (k : Int32) (gc : Nat → Int32) (s3 : Slot) (s5 : Slot) (T1 : State) (h1 : Heap) (Ls1 : List Loc), (Stand p l e ({ frames := 0, cells := 0, slots := 0, locals := 0 } : Room) s m #[(.ref o0), (.int p1), (.int p2)] below meth c T1 Ls1 0 0) → (T1.heap = h1) → (Fr n0 Ls1) → (n0 ≤ h1.size) → (Keep h0 h1 [o0]) → (PI Z h1 o0 .int n gc) → (p1.toInt ≤ k.toInt ∧ k.toInt ≤ p2.toInt ∧ p2.toInt ≤ k.toInt + 1 + (t : Nat)) → (One s3) → (One s5) → Go p.tables e below G (T1.setTop (mkF m 3 #[.val (.ref o0), .val (.int p1), .val (.int p2), s3, .val (.int k), s5] [])) := by
    intro t
    induction t with
    | zero =>
      intro k gc s3 s5 T1 h1 Ls1 X1 e1 N1 Z1 K1 F1_0 hk hs3 hs5
      refine go (u' := T1.setTop (mkF m 6 #[.val (.ref o0), .val (.int p1), .val (.int p2), s3, .val (.int (k + (1 : Int32))), s5] [])) (fun _ ks_ => XS.iinc X1.here hx rfl (hb hby d14_3) rfl (l' := #[.val (.ref o0), .val (.int p1), .val (.int p2), s3, .val (.int (k + (1 : Int32))), s5]) rfl ks_) ?_
      refine go (u' := T1.setTop (mkF m 8 #[.val (.ref o0), .val (.int p1), .val (.int p2), s3, .val (.int (k + (1 : Int32))), s5] [(.int (k + (1 : Int32)))])) (fun _ ks_ => XS.iload X1.here hx rfl (hb hby d14_6) rfl  ks_) ?_
      refine go (u' := T1.setTop (mkF m 9 #[.val (.ref o0), .val (.int p1), .val (.int p2), s3, .val (.int (k + (1 : Int32))), s5] [(.int p2), (.int (k + (1 : Int32)))])) (fun _ ks_ => XS.iloadN X1.here hx rfl (hb hby d14_8) rfl  ks_) ?_
      refine go (u' := T1.setTop (mkF m 67 #[.val (.ref o0), .val (.int p1), .val (.int p2), s3, .val (.int (k + (1 : Int32))), s5] [])) (fun _ ks_ => XS.icmpYes X1.here hx rfl (pc0 := 9) (pc' := 67) rfl (hb hby d14_9) rfl (flt (show ¬ ((k + (1 : Int32)) < p2) from (own_is0 hn hbd hk))).2.1 (by decide) (by decide) ks_) ?_
      rw [hG]
      refine g0 X1 hx hlk hret (hb hby d14_67) ?_ (Nat.le_of_ble_eq_true rfl) (Nat.le_of_ble_eq_true rfl)
      show Q_rm14 Z o0 p1 p2 n g h0 n0 (none) T1.heap _
      rw [e1]
      exact ⟨gc, rfl, N1, K1, F1_0⟩
    | succ t ih3 =>
      intro k gc s3 s5 T1 h1 Ls1 X1 e1 N1 Z1 K1 F1_0 hk hs3 hs5
      refine go (u' := T1.setTop (mkF m 6 #[.val (.ref o0), .val (.int p1), .val (.int p2), s3, .val (.int (k + (1 : Int32))), s5] [])) (fun _ ks_ => XS.iinc X1.here hx rfl (hb hby d14_3) rfl (l' := #[.val (.ref o0), .val (.int p1), .val (.int p2), s3, .val (.int (k + (1 : Int32))), s5]) rfl ks_) ?_
      refine go (u' := T1.setTop (mkF m 8 #[.val (.ref o0), .val (.int p1), .val (.int p2), s3, .val (.int (k + (1 : Int32))), s5] [(.int (k + (1 : Int32)))])) (fun _ ks_ => XS.iload X1.here hx rfl (hb hby d14_6) rfl  ks_) ?_
      refine go (u' := T1.setTop (mkF m 9 #[.val (.ref o0), .val (.int p1), .val (.int p2), s3, .val (.int (k + (1 : Int32))), s5] [(.int p2), (.int (k + (1 : Int32)))])) (fun _ ks_ => XS.iloadN X1.here hx rfl (hb hby d14_8) rfl  ks_) ?_
      by_cases c9 : (k + (1 : Int32)) < p2
      ·
        refine go (u' := T1.setTop (mkF m 12 #[.val (.ref o0), .val (.int p1), .val (.int p2), s3, .val (.int (k + (1 : Int32))), s5] [])) (fun _ ks_ => XS.icmpNo X1.here hx rfl (hb hby d14_9) rfl (tlt c9).2.1 ks_) ?_
        have hs1 := own_is hn hbd hk c9
        refine go (u' := T1.setTop (mkF m 13 #[.val (.ref o0), .val (.int p1), .val (.int p2), s3, .val (.int (k + (1 : Int32))), s5] [(.ref o0)])) (fun _ ks_ => XS.aloadN X1.here hx rfl (hb hby d14_12) rfl rfl ks_) ?_
        refine go (u' := T1.setTop (mkF m 15 #[.val (.ref o0), .val (.int p1), .val (.int p2), s3, .val (.int (k + (1 : Int32))), s5] [(.int (k + (1 : Int32))), (.ref o0)])) (fun _ ks_ => XS.iload X1.here hx rfl (hb hby d14_13) rfl  ks_) ?_
        refine go (u' := T1.setTop (mkF m 16 #[.val (.ref o0), .val (.int p1), .val (.int p2), s3, .val (.int (k + (1 : Int32))), s5] [(.int (k + (1 : Int32))), (.int (k + (1 : Int32))), (.ref o0)])) (fun _ ks_ => XS.dup X1.here hx rfl (hb hby d14_15) rfl rfl ks_) ?_
        refine go (u' := T1.setTop (mkF m 17 #[.val (.ref o0), .val (.int p1), .val (.int p2), .val (.int (k + (1 : Int32))), .val (.int (k + (1 : Int32))), s5] [(.int (k + (1 : Int32))), (.ref o0)])) (fun _ ks_ => XS.istoreNS X1.here hx rfl (hb hby d14_16) rfl  rfl hs3 ks_) ?_
        refine go (u' := T1.setTop (mkF m 18 #[.val (.ref o0), .val (.int p1), .val (.int p2), .val (.int (k + (1 : Int32))), .val (.int (k + (1 : Int32))), s5] [(.int (gc (k + (1 : Int32)).toNatClampNeg))])) (own_iaload X1 hx hZ e1 F1_0 (j := (k + (1 : Int32))) (v := (gc (k + (1 : Int32)).toNatClampNeg)) (own_nn hs1.1.1) (own_lt hs1.1.1 hs1.1.2) rfl (f := (mkF m 17 #[.val (.ref o0), .val (.int p1), .val (.int p2), .val (.int (k + (1 : Int32))), .val (.int (k + (1 : Int32))), s5] [(.int (k + (1 : Int32))), (.ref o0)])) rfl rfl (hb hby d14_17)) ?_
        obtain ⟨ai, hai⟩ : ∃ z, z = (gc (k + (1 : Int32)).toNatClampNeg) := ⟨_, rfl⟩
        rw [← hai]
        refine go (u' := T1.setTop (mkF m 20 #[.val (.ref o0), .val (.int p1), .val (.int p2), .val (.int (k + (1 : Int32))), .val (.int (k + (1 : Int32))), .val (.int ai)] [])) (fun _ ks_ => XS.istoreS X1.here hx rfl (hb hby d14_18) rfl  rfl hs5 ks_) ?_
        refine go (u' := T1.setTop (mkF m 22 #[.val (.ref o0), .val (.int p1), .val (.int p2), .val (.int (k + (1 : Int32))), .val (.int (k + (1 : Int32))), .val (.int ai)] [(.int ai)])) (fun _ ks_ => XS.iload X1.here hx rfl (hb hby d14_20) rfl  ks_) ?_
        refine go (u' := T1.setTop (mkF m 23 #[.val (.ref o0), .val (.int p1), .val (.int p2), .val (.int (k + (1 : Int32))), .val (.int (k + (1 : Int32))), .val (.int ai)] [(.ref o0), (.int ai)])) (fun _ ks_ => XS.aloadN X1.here hx rfl (hb hby d14_22) rfl rfl ks_) ?_
        refine go (u' := T1.setTop (mkF m 24 #[.val (.ref o0), .val (.int p1), .val (.int p2), .val (.int (k + (1 : Int32))), .val (.int (k + (1 : Int32))), .val (.int ai)] [(.int (k + (1 : Int32))), (.ref o0), (.int ai)])) (fun _ ks_ => XS.iloadN X1.here hx rfl (hb hby d14_23) rfl  ks_) ?_
        refine go (u' := T1.setTop (mkF m 25 #[.val (.ref o0), .val (.int p1), .val (.int p2), .val (.int (k + (1 : Int32))), .val (.int (k + (1 : Int32))), .val (.int ai)] [(.int (1 : Int32)), (.int (k + (1 : Int32))), (.ref o0), (.int ai)])) (fun _ ks_ => XS.iconst X1.here hx rfl (hb hby d14_24) ks_) ?_
        refine go (u' := T1.setTop (mkF m 26 #[.val (.ref o0), .val (.int p1), .val (.int p2), .val (.int (k + (1 : Int32))), .val (.int (k + (1 : Int32))), .val (.int ai)] [(.int ((k + (1 : Int32)) - (1 : Int32))), (.ref o0), (.int ai)])) (fun _ ks_ => XS.isub X1.here hx rfl (hb hby d14_25) rfl ks_) ?_
        refine go (u' := T1.setTop (mkF m 27 #[.val (.ref o0), .val (.int p1), .val (.int p2), .val (.int (k + (1 : Int32))), .val (.int (k + (1 : Int32))), .val (.int ai)] [(.int (gc ((k + (1 : Int32)) - (1 : Int32)).toNatClampNeg)), (.int ai)])) (own_iaload X1 hx hZ e1 F1_0 (j := ((k + (1 : Int32)) - (1 : Int32))) (v := (gc ((k + (1 : Int32)) - (1 : Int32)).toNatClampNeg)) (own_nn hs1.2.1.1) (own_lt hs1.2.1.1 hs1.2.1.2) rfl (f := (mkF m 26 #[.val (.ref o0), .val (.int p1), .val (.int p2), .val (.int (k + (1 : Int32))), .val (.int (k + (1 : Int32))), .val (.int ai)] [(.int ((k + (1 : Int32)) - (1 : Int32))), (.ref o0), (.int ai)])) rfl rfl (hb hby d14_26)) ?_
        by_cases c27_2 : ai < (gc ((k + (1 : Int32)) - (1 : Int32)).toNatClampNeg)
        ·
          refine go (u' := T1.setTop (mkF m 30 #[.val (.ref o0), .val (.int p1), .val (.int p2), .val (.int (k + (1 : Int32))), .val (.int (k + (1 : Int32))), .val (.int ai)] [])) (fun _ ks_ => XS.icmpNo X1.here hx rfl (hb hby d14_27) rfl (tlt c27_2).2.1 ks_) ?_
          have C30_2 : ∀ (t2 : Nat) (i : Int32) (gd : Nat → Int32) (T2 : State) (h2 : Heap) (Ls2 : List Loc), (Stand p l e ({ frames := 0, cells := 0, slots := 0, locals := 0 } : Room) s m #[(.ref o0), (.int p1), (.int p2)] below meth c T2 Ls2 0 0) → (T2.heap = h2) → (Fr n0 Ls2) → (n0 ≤ h2.size) → (Keep h0 h2 [o0]) → (PI Z h2 o0 .int n gd) → (i.toInt = p1.toInt + (t2 : Nat) ∧ i.toInt < n) → Go p.tables e below G (T2.setTop (mkF m 30 #[.val (.ref o0), .val (.int p1), .val (.int p2), .val (.int i), .val (.int (k + (1 : Int32))), .val (.int ai)] [])) := by
            intro t2
            induction t2 with
            | zero =>
              intro i gd T2 h2 Ls2 X2 e2 N2 Z2 K2 F2_0 hi
              have hv := own_in0 hn hbd.1 hi
              refine go (u' := T2.setTop (mkF m 33 #[.val (.ref o0), .val (.int p1), .val (.int p2), .val (.int (i + (-1 : Int32))), .val (.int (k + (1 : Int32))), .val (.int ai)] [])) (fun _ ks_ => XS.iinc X2.here hx rfl (hb hby d14_30) rfl (l' := #[.val (.ref o0), .val (.int p1), .val (.int p2), .val (.int (i + (-1 : Int32))), .val (.int (k + (1 : Int32))), .val (.int ai)]) rfl ks_) ?_
              refine go (u' := T2.setTop (mkF m 34 #[.val (.ref o0), .val (.int p1), .val (.int p2), .val (.int (i + (-1 : Int32))), .val (.int (k + (1 : Int32))), .val (.int ai)] [(.int (i + (-1 : Int32)))])) (fun _ ks_ => XS.iloadN X2.here hx rfl (hb hby d14_33) rfl  ks_) ?_
              refine go (u' := T2.setTop (mkF m 35 #[.val (.ref o0), .val (.int p1), .val (.int p2), .val (.int (i + (-1 : Int32))), .val (.int (k + (1 : Int32))), .val (.int ai)] [(.int p1), (.int (i + (-1 : Int32)))])) (fun _ ks_ => XS.iloadN X2.here hx rfl (hb hby d14_34) rfl  ks_) ?_
              refine go (u' := T2.setTop (mkF m 57 #[.val (.ref o0), .val (.int p1), .val (.int p2), .val (.int (i + (-1 : Int32))), .val (.int (k + (1 : Int32))), .val (.int ai)] [])) (fun _ ks_ => XS.icmpYes X2.here hx rfl (pc0 := 35) (pc' := 57) rfl (hb hby d14_35) rfl (tlt hv.1).1 (by decide) (by decide) ks_) ?_
              refine go (u' := T2.setTop (mkF m 58 #[.val (.ref o0), .val (.int p1), .val (.int p2), .val (.int (i + (-1 : Int32))), .val (.int (k + (1 : Int32))), .val (.int ai)] [(.ref o0)])) (fun _ ks_ => XS.aloadN X2.here hx rfl (hb hby d14_57) rfl rfl ks_) ?_
              refine go (u' := T2.setTop (mkF m 59 #[.val (.ref o0), .val (.int p1), .val (.int p2), .val (.int (i + (-1 : Int32))), .val (.int (k + (1 : Int32))), .val (.int ai)] [(.int (i + (-1 : Int32))), (.ref o0)])) (fun _ ks_ => XS.iloadN X2.here hx rfl (hb hby d14_58) rfl  ks_) ?_
              refine go (u' := T2.setTop (mkF m 60 #[.val (.ref o0), .val (.int p1), .val (.int p2), .val (.int (i + (-1 : Int32))), .val (.int (k + (1 : Int32))), .val (.int ai)] [(.int (1 : Int32)), (.int (i + (-1 : Int32))), (.ref o0)])) (fun _ ks_ => XS.iconst X2.here hx rfl (hb hby d14_59) ks_) ?_
              refine go (u' := T2.setTop (mkF m 61 #[.val (.ref o0), .val (.int p1), .val (.int p2), .val (.int (i + (-1 : Int32))), .val (.int (k + (1 : Int32))), .val (.int ai)] [(.int ((i + (-1 : Int32)) + (1 : Int32))), (.ref o0)])) (fun _ ks_ => XS.iadd X2.here hx rfl (hb hby d14_60) rfl ks_) ?_
              refine go (u' := T2.setTop (mkF m 63 #[.val (.ref o0), .val (.int p1), .val (.int p2), .val (.int (i + (-1 : Int32))), .val (.int (k + (1 : Int32))), .val (.int ai)] [(.int ai), (.int ((i + (-1 : Int32)) + (1 : Int32))), (.ref o0)])) (fun _ ks_ => XS.iload X2.here hx rfl (hb hby d14_61) rfl  ks_) ?_
              obtain ⟨T3, h3, X3, e3, W3, st3⟩ := own_iastore X2 hx hZ e2 F2_0 (j := ((i + (-1 : Int32)) + (1 : Int32))) (x := ai)  (own_nn hv.2.1) (own_lt hv.2.1 hv.2.2) (f := (mkF m 63 #[.val (.ref o0), .val (.int p1), .val (.int p2), .val (.int (i + (-1 : Int32))), .val (.int (k + (1 : Int32))), .val (.int ai)] [(.int ai), (.int ((i + (-1 : Int32)) + (1 : Int32))), (.ref o0)])) rfl rfl (hb hby d14_63)
              have N3 := Fr.snoc X3 N2 g_o0
              have K3 : Keep h0 h3 [o0] := K2.wr W3 (Or.inl (List.mem_of_getElem? (i := 0) rfl))
              have Z3 : n0 ≤ h3.size := Nat.le_trans Z2 (Keep.of_wr W3).1
              have Fa4 : PI Z h3 o0 .int n (upd gd (((i + (-1 : Int32)) + (1 : Int32))).toNatClampNeg ai) := F2_0.set (own_lt hv.2.1 hv.2.2) W3
              refine go (u' := T3.setTop (mkF m 64 #[.val (.ref o0), .val (.int p1), .val (.int p2), .val (.int (i + (-1 : Int32))), .val (.int (k + (1 : Int32))), .val (.int ai)] [])) st3 ?_
              refine go (u' := T3.setTop (mkF m 3 #[.val (.ref o0), .val (.int p1), .val (.int p2), .val (.int (i + (-1 : Int32))), .val (.int (k + (1 : Int32))), .val (.int ai)] [])) (fun _ ks_ => XS.goto X3.here hx rfl (pc0 := 64) (pc' := 3) rfl (hb hby d14_64) (by decide) (by decide) ks_) ?_
              exact ih3 ((k + (1 : Int32))) ((upd gd (((i + (-1 : Int32)) + (1 : Int32))).toNatClampNeg ai)) (.val (.int (i + (-1 : Int32)))) (.val (.int ai)) _ _ _ X3 e3 N3 Z3 K3 Fa4 hs1.2.2.2 (One.val rfl) (One.val rfl)
            | succ t2 ih30 =>
              intro i gd T2 h2 Ls2 X2 e2 N2 Z2 K2 F2_0 hi
              have hv := own_inS hn hbd.1 hi
              refine go (u' := T2.setTop (mkF m 33 #[.val (.ref o0), .val (.int p1), .val (.int p2), .val (.int (i + (-1 : Int32))), .val (.int (k + (1 : Int32))), .val (.int ai)] [])) (fun _ ks_ => XS.iinc X2.here hx rfl (hb hby d14_30) rfl (l' := #[.val (.ref o0), .val (.int p1), .val (.int p2), .val (.int (i + (-1 : Int32))), .val (.int (k + (1 : Int32))), .val (.int ai)]) rfl ks_) ?_
              refine go (u' := T2.setTop (mkF m 34 #[.val (.ref o0), .val (.int p1), .val (.int p2), .val (.int (i + (-1 : Int32))), .val (.int (k + (1 : Int32))), .val (.int ai)] [(.int (i + (-1 : Int32)))])) (fun _ ks_ => XS.iloadN X2.here hx rfl (hb hby d14_33) rfl  ks_) ?_
              refine go (u' := T2.setTop (mkF m 35 #[.val (.ref o0), .val (.int p1), .val (.int p2), .val (.int (i + (-1 : Int32))), .val (.int (k + (1 : Int32))), .val (.int ai)] [(.int p1), (.int (i + (-1 : Int32)))])) (fun _ ks_ => XS.iloadN X2.here hx rfl (hb hby d14_34) rfl  ks_) ?_
              refine go (u' := T2.setTop (mkF m 38 #[.val (.ref o0), .val (.int p1), .val (.int p2), .val (.int (i + (-1 : Int32))), .val (.int (k + (1 : Int32))), .val (.int ai)] [])) (fun _ ks_ => XS.icmpNo X2.here hx rfl (hb hby d14_35) rfl (flt hv.1).1 ks_) ?_
              refine go (u' := T2.setTop (mkF m 40 #[.val (.ref o0), .val (.int p1), .val (.int p2), .val (.int (i + (-1 : Int32))), .val (.int (k + (1 : Int32))), .val (.int ai)] [(.int ai)])) (fun _ ks_ => XS.iload X2.here hx rfl (hb hby d14_38) rfl  ks_) ?_
              refine go (u' := T2.setTop (mkF m 41 #[.val (.ref o0), .val (.int p1), .val (.int p2), .val (.int (i + (-1 : Int32))), .val (.int (k + (1 : Int32))), .val (.int ai)] [(.ref o0), (.int ai)])) (fun _ ks_ => XS.aloadN X2.here hx rfl (hb hby d14_40) rfl rfl ks_) ?_
              refine go (u' := T2.setTop (mkF m 42 #[.val (.ref o0), .val (.int p1), .val (.int p2), .val (.int (i + (-1 : Int32))), .val (.int (k + (1 : Int32))), .val (.int ai)] [(.int (i + (-1 : Int32))), (.ref o0), (.int ai)])) (fun _ ks_ => XS.iloadN X2.here hx rfl (hb hby d14_41) rfl  ks_) ?_
              refine go (u' := T2.setTop (mkF m 43 #[.val (.ref o0), .val (.int p1), .val (.int p2), .val (.int (i + (-1 : Int32))), .val (.int (k + (1 : Int32))), .val (.int ai)] [(.int (gd (i + (-1 : Int32)).toNatClampNeg)), (.int ai)])) (own_iaload X2 hx hZ e2 F2_0 (j := (i + (-1 : Int32))) (v := (gd (i + (-1 : Int32)).toNatClampNeg)) (own_nn hv.2.2.1.1) (own_lt hv.2.2.1.1 hv.2.2.1.2) rfl (f := (mkF m 42 #[.val (.ref o0), .val (.int p1), .val (.int p2), .val (.int (i + (-1 : Int32))), .val (.int (k + (1 : Int32))), .val (.int ai)] [(.int (i + (-1 : Int32))), (.ref o0), (.int ai)])) rfl rfl (hb hby d14_42)) ?_
              by_cases c43_3 : ai < (gd (i + (-1 : Int32)).toNatClampNeg)
              ·
                refine go (u' := T2.setTop (mkF m 46 #[.val (.ref o0), .val (.int p1), .val (.int p2), .val (.int (i + (-1 : Int32))), .val (.int (k + (1 : Int32))), .val (.int ai)] [])) (fun _ ks_ => XS.icmpNo X2.here hx rfl (hb hby d14_43) rfl (tlt c43_3).2.1 ks_) ?_
                refine go (u' := T2.setTop (mkF m 47 #[.val (.ref o0), .val (.int p1), .val (.int p2), .val (.int (i + (-1 : Int32))), .val (.int (k + (1 : Int32))), .val (.int ai)] [(.ref o0)])) (fun _ ks_ => XS.aloadN X2.here hx rfl (hb hby d14_46) rfl rfl ks_) ?_
                refine go (u' := T2.setTop (mkF m 48 #[.val (.ref o0), .val (.int p1), .val (.int p2), .val (.int (i + (-1 : Int32))), .val (.int (k + (1 : Int32))), .val (.int ai)] [(.int (i + (-1 : Int32))), (.ref o0)])) (fun _ ks_ => XS.iloadN X2.here hx rfl (hb hby d14_47) rfl  ks_) ?_
                refine go (u' := T2.setTop (mkF m 49 #[.val (.ref o0), .val (.int p1), .val (.int p2), .val (.int (i + (-1 : Int32))), .val (.int (k + (1 : Int32))), .val (.int ai)] [(.int (1 : Int32)), (.int (i + (-1 : Int32))), (.ref o0)])) (fun _ ks_ => XS.iconst X2.here hx rfl (hb hby d14_48) ks_) ?_
                refine go (u' := T2.setTop (mkF m 50 #[.val (.ref o0), .val (.int p1), .val (.int p2), .val (.int (i + (-1 : Int32))), .val (.int (k + (1 : Int32))), .val (.int ai)] [(.int ((i + (-1 : Int32)) + (1 : Int32))), (.ref o0)])) (fun _ ks_ => XS.iadd X2.here hx rfl (hb hby d14_49) rfl ks_) ?_
                refine go (u' := T2.setTop (mkF m 51 #[.val (.ref o0), .val (.int p1), .val (.int p2), .val (.int (i + (-1 : Int32))), .val (.int (k + (1 : Int32))), .val (.int ai)] [(.ref o0), (.int ((i + (-1 : Int32)) + (1 : Int32))), (.ref o0)])) (fun _ ks_ => XS.aloadN X2.here hx rfl (hb hby d14_50) rfl rfl ks_) ?_
                refine go (u' := T2.setTop (mkF m 52 #[.val (.ref o0), .val (.int p1), .val (.int p2), .val (.int (i + (-1 : Int32))), .val (.int (k + (1 : Int32))), .val (.int ai)] [(.int (i + (-1 : Int32))), (.ref o0), (.int ((i + (-1 : Int32)) + (1 : Int32))), (.ref o0)])) (fun _ ks_ => XS.iloadN X2.here hx rfl (hb hby d14_51) rfl  ks_) ?_
                refine go (u' := T2.setTop (mkF m 53 #[.val (.ref o0), .val (.int p1), .val (.int p2), .val (.int (i + (-1 : Int32))), .val (.int (k + (1 : Int32))), .val (.int ai)] [(.int (gd (i + (-1 : Int32)).toNatClampNeg)), (.int ((i + (-1 : Int32)) + (1 : Int32))), (.ref o0)])) (own_iaload X2 hx hZ e2 F2_0 (j := (i + (-1 : Int32))) (v := (gd (i + (-1 : Int32)).toNatClampNeg)) (own_nn hv.2.2.1.1) (own_lt hv.2.2.1.1 hv.2.2.1.2) rfl (f := (mkF m 52 #[.val (.ref o0), .val (.int p1), .val (.int p2), .val (.int (i + (-1 : Int32))), .val (.int (k + (1 : Int32))), .val (.int ai)] [(.int (i + (-1 : Int32))), (.ref o0), (.int ((i + (-1 : Int32)) + (1 : Int32))), (.ref o0)])) rfl rfl (hb hby d14_52)) ?_
                obtain ⟨T5, h5, X5, e5, W5, st5⟩ := own_iastore X2 hx hZ e2 F2_0 (j := ((i + (-1 : Int32)) + (1 : Int32))) (x := (gd (i + (-1 : Int32)).toNatClampNeg))  (own_nn hv.2.1.1) (own_lt hv.2.1.1 hv.2.1.2) (f := (mkF m 53 #[.val (.ref o0), .val (.int p1), .val (.int p2), .val (.int (i + (-1 : Int32))), .val (.int (k + (1 : Int32))), .val (.int ai)] [(.int (gd (i + (-1 : Int32)).toNatClampNeg)), (.int ((i + (-1 : Int32)) + (1 : Int32))), (.ref o0)])) rfl rfl (hb hby d14_53)
                have N5 := Fr.snoc X5 N2 g_o0
                have K5 : Keep h0 h5 [o0] := K2.wr W5 (Or.inl (List.mem_of_getElem? (i := 0) rfl))
                have Z5 : n0 ≤ h5.size := Nat.le_trans Z2 (Keep.of_wr W5).1
                have Fa6 : PI Z h5 o0 .int n (upd gd (((i + (-1 : Int32)) + (1 : Int32))).toNatClampNeg (gd (i + (-1 : Int32)).toNatClampNeg)) := F2_0.set (own_lt hv.2.1.1 hv.2.1.2) W5
                refine go (u' := T5.setTop (mkF m 54 #[.val (.ref o0), .val (.int p1), .val (.int p2), .val (.int (i + (-1 : Int32))), .val (.int (k + (1 : Int32))), .val (.int ai)] [])) st5 ?_
                refine go (u' := T5.setTop (mkF m 30 #[.val (.ref o0), .val (.int p1), .val (.int p2), .val (.int (i + (-1 : Int32))), .val (.int (k + (1 : Int32))), .val (.int ai)] [])) (fun _ ks_ => XS.goto X5.here hx rfl (pc0 := 54) (pc' := 30) rfl (hb hby d14_54) (by decide) (by decide) ks_) ?_
                exact ih30 ((i + (-1 : Int32))) ((upd gd (((i + (-1 : Int32)) + (1 : Int32))).toNatClampNeg (gd (i + (-1 : Int32)).toNatClampNeg))) _ _ _ X5 e5 N5 Z5 K5 Fa6 hv.2.2.2
              ·
                refine go (u' := T2.setTop (mkF m 57 #[.val (.ref o0), .val (.int p1), .val (.int p2), .val (.int (i + (-1 : Int32))), .val (.int (k + (1 : Int32))), .val (.int ai)] [])) (fun _ ks_ => XS.icmpYes X2.here hx rfl (pc0 := 43) (pc' := 57) rfl (hb hby d14_43) rfl (flt c43_3).2.1 (by decide) (by decide) ks_) ?_
                refine go (u' := T2.setTop (mkF m 58 #[.val (.ref o0), .val (.int p1), .val (.int p2), .val (.int (i + (-1 : Int32))), .val (.int (k + (1 : Int32))), .val (.int ai)] [(.ref o0)])) (fun _ ks_ => XS.aloadN X2.here hx rfl (hb hby d14_57) rfl rfl ks_) ?_
                refine go (u' := T2.setTop (mkF m 59 #[.val (.ref o0), .val (.int p1), .val (.int p2), .val (.int (i + (-1 : Int32))), .val (.int (k + (1 : Int32))), .val (.int ai)] [(.int (i + (-1 : Int32))), (.ref o0)])) (fun _ ks_ => XS.iloadN X2.here hx rfl (hb hby d14_58) rfl  ks_) ?_
                refine go (u' := T2.setTop (mkF m 60 #[.val (.ref o0), .val (.int p1), .val (.int p2), .val (.int (i + (-1 : Int32))), .val (.int (k + (1 : Int32))), .val (.int ai)] [(.int (1 : Int32)), (.int (i + (-1 : Int32))), (.ref o0)])) (fun _ ks_ => XS.iconst X2.here hx rfl (hb hby d14_59) ks_) ?_
                refine go (u' := T2.setTop (mkF m 61 #[.val (.ref o0), .val (.int p1), .val (.int p2), .val (.int (i + (-1 : Int32))), .val (.int (k + (1 : Int32))), .val (.int ai)] [(.int ((i + (-1 : Int32)) + (1 : Int32))), (.ref o0)])) (fun _ ks_ => XS.iadd X2.here hx rfl (hb hby d14_60) rfl ks_) ?_
                refine go (u' := T2.setTop (mkF m 63 #[.val (.ref o0), .val (.int p1), .val (.int p2), .val (.int (i + (-1 : Int32))), .val (.int (k + (1 : Int32))), .val (.int ai)] [(.int ai), (.int ((i + (-1 : Int32)) + (1 : Int32))), (.ref o0)])) (fun _ ks_ => XS.iload X2.here hx rfl (hb hby d14_61) rfl  ks_) ?_
                obtain ⟨T7, h7, X7, e7, W7, st7⟩ := own_iastore X2 hx hZ e2 F2_0 (j := ((i + (-1 : Int32)) + (1 : Int32))) (x := ai)  (own_nn hv.2.1.1) (own_lt hv.2.1.1 hv.2.1.2) (f := (mkF m 63 #[.val (.ref o0), .val (.int p1), .val (.int p2), .val (.int (i + (-1 : Int32))), .val (.int (k + (1 : Int32))), .val (.int ai)] [(.int ai), (.int ((i + (-1 : Int32)) + (1 : Int32))), (.ref o0)])) rfl rfl (hb hby d14_63)
                have N7 := Fr.snoc X7 N2 g_o0
                have K7 : Keep h0 h7 [o0] := K2.wr W7 (Or.inl (List.mem_of_getElem? (i := 0) rfl))
                have Z7 : n0 ≤ h7.size := Nat.le_trans Z2 (Keep.of_wr W7).1
                have Fa8 : PI Z h7 o0 .int n (upd gd (((i + (-1 : Int32)) + (1 : Int32))).toNatClampNeg ai) := F2_0.set (own_lt hv.2.1.1 hv.2.1.2) W7
                refine go (u' := T7.setTop (mkF m 64 #[.val (.ref o0), .val (.int p1), .val (.int p2), .val (.int (i + (-1 : Int32))), .val (.int (k + (1 : Int32))), .val (.int ai)] [])) st7 ?_
                refine go (u' := T7.setTop (mkF m 3 #[.val (.ref o0), .val (.int p1), .val (.int p2), .val (.int (i + (-1 : Int32))), .val (.int (k + (1 : Int32))), .val (.int ai)] [])) (fun _ ks_ => XS.goto X7.here hx rfl (pc0 := 64) (pc' := 3) rfl (hb hby d14_64) (by decide) (by decide) ks_) ?_
                exact ih3 ((k + (1 : Int32))) ((upd gd (((i + (-1 : Int32)) + (1 : Int32))).toNatClampNeg ai)) (.val (.int (i + (-1 : Int32)))) (.val (.int ai)) _ _ _ X7 e7 N7 Z7 K7 Fa8 hs1.2.2.2 (One.val rfl) (One.val rfl)
          exact C30_2 (((k + 1).toInt - p1.toInt).toNat) ((k + (1 : Int32))) gc _ _ _ X1 e1 N1 Z1 K1 F1_0 hs1.2.2.1
        ·
          refine go (u' := T1.setTop (mkF m 64 #[.val (.ref o0), .val (.int p1), .val (.int p2), .val (.int (k + (1 : Int32))), .val (.int (k + (1 : Int32))), .val (.int ai)] [])) (fun _ ks_ => XS.icmpYes X1.here hx rfl (pc0 := 27) (pc' := 64) rfl (hb hby d14_27) rfl (flt c27_2).2.1 (by decide) (by decide) ks_) ?_
          refine go (u' := T1.setTop (mkF m 3 #[.val (.ref o0), .val (.int p1), .val (.int p2), .val (.int (k + (1 : Int32))), .val (.int (k + (1 : Int32))), .val (.int ai)] [])) (fun _ ks_ => XS.goto X1.here hx rfl (pc0 := 64) (pc' := 3) rfl (hb hby d14_64) (by decide) (by decide) ks_) ?_
          exact ih3 ((k + (1 : Int32))) gc (.val (.int (k + (1 : Int32)))) (.val (.int ai)) _ _ _ X1 e1 N1 Z1 K1 F1_0 hs1.2.2.2 (One.val rfl) (One.val rfl)
      ·
        refine go (u' := T1.setTop (mkF m 67 #[.val (.ref o0), .val (.int p1), .val (.int p2), s3, .val (.int (k + (1 : Int32))), s5] [])) (fun _ ks_ => XS.icmpYes X1.here hx rfl (pc0 := 9) (pc' := 67) rfl (hb hby d14_9) rfl (flt c9).2.1 (by decide) (by decide) ks_) ?_
        rw [hG]
        refine g0 X1 hx hlk hret (hb hby d14_67) ?_ (Nat.le_of_ble_eq_true rfl) (Nat.le_of_ble_eq_true rfl)
        show Q_rm14 Z o0 p1 p2 n g h0 n0 (none) T1.heap _
        rw [e1]
        exact ⟨gc, rfl, N1, K1, F1_0⟩
  exact C3_1 ((p2.toInt - p1.toInt).toNat) p1 g .unset .unset _ _ _ X0 e0 N0 Z0 (Keep.refl h0 [o0]) F0 (own_first hbd) One.u One.u
theorem own_sz {n : Nat} {p q : Int32} (hn : n ≤ 4) (hb : 0 ≤ p.toInt ∧ p.toInt ≤ q.toInt ∧ q.toInt ≤ n) : (q - p) < ((65 : Int32) + (0 : Int32)) ∧ (q - p) < (44 : Int32) := by
  have a1 := c_isub q p
  have a2 := rng32 (q - p)
  have e1 : ((65 : Int32) + (0 : Int32)).toInt = 65 := rfl
  have e2 : (44 : Int32).toInt = 44 := rfl
  rw [Int32.lt_iff_toInt_lt, Int32.lt_iff_toInt_lt, e1, e2]
  omega
theorem pd__40__91_III_41_V : parseMethodDescriptor "([III)V" = some ⟨[(.array .int), .int, .int], none⟩ := by decide +kernel
theorem pn_java_util_DualPivotQuicksort_sort_13 : plainFor (⟨"java/util/DualPivotQuicksort", "sort", "(Ljava/util/DualPivotQuicksort$Sorter;[IIII)V"⟩ : MethodName) = true := by first | exact plainFor_of_name (by first | (simp [plainName, overriddenIn]; done) | decide +kernel) | decide +kernel
def Q_rm13 (Z : State) (o1 : Addr) (p3 : Int32) (p4 : Int32) (n : Nat) (g : Nat → Int32) (h0 : Heap) (n0 : Nat) (v : Option Value) (h : Heap) (L : List Loc) : Prop := ∃ g1 : Nat → Int32, v = none ∧ Fr n0 L ∧ Keep h0 h [o1] ∧ (PI Z h o1 .int n g1)
set_option maxRecDepth 65536 in
set_option maxHeartbeats 4000000 in
theorem ef_rm13 (m : MethodId) (o1 : Addr) (p3 : Int32) (p4 : Int32) : entryFrame m #[.null, (.ref o1), (.int (0 : Int32)), (.int p3), (.int p4)] 21 = mkF m 0 #[.val .null, .val (.ref o1), .val (.int (0 : Int32)), .val (.int p3), .val (.int p4), .unset, .unset, .unset, .unset, .unset, .unset, .unset, .unset, .unset, .unset, .unset, .unset, .unset, .unset, .unset, .unset] [] := by first | (simp [entryFrame, mkF, argsToLocals, Value.category, maxLocals]; done) | rfl
theorem d13_0 : decode jdk_2529_method_4_code 0 = .ok (.iload 4, 2) := by decide +kernel
theorem d13_2 : decode jdk_2529_method_4_code 2 = .ok (.iconst 1, 1) := by decide +kernel
theorem d13_3 : decode jdk_2529_method_4_code 3 = .ok (.isub, 1) := by decide +kernel
theorem d13_4 : decode jdk_2529_method_4_code 4 = .ok (.istore 5, 2) := by decide +kernel
theorem d13_6 : decode jdk_2529_method_4_code 6 = .ok (.iload 4, 2) := by decide +kernel
theorem d13_8 : decode jdk_2529_method_4_code 8 = .ok (.iload_n 3, 1) := by decide +kernel
theorem d13_9 : decode jdk_2529_method_4_code 9 = .ok (.isub, 1) := by decide +kernel
theorem d13_10 : decode jdk_2529_method_4_code 10 = .ok (.istore 6, 2) := by decide +kernel
theorem d13_12 : decode jdk_2529_method_4_code 12 = .ok (.iload 6, 2) := by decide +kernel
theorem d13_14 : decode jdk_2529_method_4_code 14 = .ok (.bipush 65, 2) := by decide +kernel
theorem d13_16 : decode jdk_2529_method_4_code 16 = .ok (.iload_n 2, 1) := by decide +kernel
theorem d13_17 : decode jdk_2529_method_4_code 17 = .ok (.iadd, 1) := by decide +kernel
theorem d13_18 : decode jdk_2529_method_4_code 18 = .ok (.if_icmp .ge 28, 3) := by decide +kernel
theorem d13_21 : decode jdk_2529_method_4_code 21 = .ok (.iload_n 2, 1) := by decide +kernel
theorem d13_22 : decode jdk_2529_method_4_code 22 = .ok (.iconst 1, 1) := by decide +kernel
theorem d13_23 : decode jdk_2529_method_4_code 23 = .ok (.iand, 1) := by decide +kernel
theorem d13_24 : decode jdk_2529_method_4_code 24 = .ok (.ifCond .le 22, 3) := by decide +kernel
theorem d13_46 : decode jdk_2529_method_4_code 46 = .ok (.iload 6, 2) := by decide +kernel
theorem d13_48 : decode jdk_2529_method_4_code 48 = .ok (.bipush 44, 2) := by decide +kernel
theorem d13_50 : decode jdk_2529_method_4_code 50 = .ok (.if_icmp .ge 11, 3) := by decide +kernel
theorem d13_53 : decode jdk_2529_method_4_code 53 = .ok (.aload_n 1, 1) := by decide +kernel
theorem d13_54 : decode jdk_2529_method_4_code 54 = .ok (.iload_n 3, 1) := by decide +kernel
theorem d13_55 : decode jdk_2529_method_4_code 55 = .ok (.iload 4, 2) := by decide +kernel
theorem d13_57 : decode jdk_2529_method_4_code 57 = .ok (.invokestatic 34, 3) := by decide +kernel
theorem d13_60 : decode jdk_2529_method_4_code 60 = .ok (.return_, 1) := by decide +kernel
set_option maxRecDepth 65536 in
set_option maxHeartbeats 40000000 in
theorem rm13 (l : Launch) (Z : State) (a0 : Array Value) (hw : ∀ d ∈ tables_1, d.before a0 Z = true) (ws : List Jvm.Cond) (o1 : Addr) (p3 : Int32) (p4 : Int32) (n : Nat) (g : Nat → Int32) (h0 : Heap) (n0 : Nat) (Z0 : n0 ≤ h0.size) (g_o1 : n0 ≤ o1) (F0 : PI Z h0 o1 .int n g) (hn : n ≤ 4) (hbd : 0 ≤ p3.toInt ∧ p3.toInt ≤ p4.toInt ∧ p4.toInt ≤ n) :
    MetFree l (⟨"java/util/DualPivotQuicksort", "sort", "(Ljava/util/DualPivotQuicksort$Sorter;[IIII)V"⟩ : MethodName) (head1 (Jvm.Cond.code (⟨"java/util/DualPivotQuicksort", "sort", "(Ljava/util/DualPivotQuicksort$Sorter;[IIII)V"⟩ : MethodName) jdk_2529_method_4_code 21 none :: ws) ({ frames := 1, cells := 0, slots := 0, locals := 17 } : Room)) (fun a U => a = #[.null, (.ref o1), (.int (0 : Int32)), (.int p3), (.int p4)] ∧ Z.Warmed39 U.vm ∧ U.heap = h0) (fun _ _ _ _ _ => True) (fun _ U o U' => ∃ v L, o = .returned v ∧ Q_rm13 Z o1 p3 p4 n g h0 n0 v U'.heap L ∧ FrameEnd U o U' L ({ frames := 1, cells := 0, slots := 0, locals := 17 } : Room).cells ({ frames := 1, cells := 0, slots := 0, locals := 17 } : Room).slots) := by
  refine body pn_java_util_DualPivotQuicksort_sort_13 ?_
  intro p e s m below meth c s₁ hx hby hml hown hnm hret hlk hZ e0 X0
  replace hml : c.maxLocals = 21 := hml
  replace hown : s.vm.findClass "java/util/DualPivotQuicksort" = some m.cls := hown
  replace hnm : meth.name = "sort" := hnm
  replace hret : meth.sig.returnType = none := hret
  have N0 := Fr.nil n0
  rw [ef_rm13]
  obtain ⟨G, hG⟩ : ∃ G, G = End (Q_rm13 Z o1 p3 p4 n g h0 n0) s ({ frames := 1, cells := 0, slots := 0, locals := 17 } : Room).cells ({ frames := 1, cells := 0, slots := 0, locals := 17 } : Room).slots := ⟨_, rfl⟩
  rw [← hG]
  refine go (u' := s₁.setTop (mkF m 2 #[.val .null, .val (.ref o1), .val (.int (0 : Int32)), .val (.int p3), .val (.int p4), .unset, .unset, .unset, .unset, .unset, .unset, .unset, .unset, .unset, .unset, .unset, .unset, .unset, .unset, .unset, .unset] [(.int p4)])) (fun _ ks_ => XS.iload X0.here hx rfl (hb hby d13_0) rfl  ks_) ?_
  refine go (u' := s₁.setTop (mkF m 3 #[.val .null, .val (.ref o1), .val (.int (0 : Int32)), .val (.int p3), .val (.int p4), .unset, .unset, .unset, .unset, .unset, .unset, .unset, .unset, .unset, .unset, .unset, .unset, .unset, .unset, .unset, .unset] [(.int (1 : Int32)), (.int p4)])) (fun _ ks_ => XS.iconst X0.here hx rfl (hb hby d13_2) ks_) ?_
  refine go (u' := s₁.setTop (mkF m 4 #[.val .null, .val (.ref o1), .val (.int (0 : Int32)), .val (.int p3), .val (.int p4), .unset, .unset, .unset, .unset, .unset, .unset, .unset, .unset, .unset, .unset, .unset, .unset, .unset, .unset, .unset, .unset] [(.int (p4 - (1 : Int32)))])) (fun _ ks_ => XS.isub X0.here hx rfl (hb hby d13_3) rfl ks_) ?_
  refine go (u' := s₁.setTop (mkF m 6 #[.val .null, .val (.ref o1), .val (.int (0 : Int32)), .val (.int p3), .val (.int p4), .val (.int (p4 - (1 : Int32))), .unset, .unset, .unset, .unset, .unset, .unset, .unset, .unset, .unset, .unset, .unset, .unset, .unset, .unset, .unset] [])) (fun _ ks_ => XS.istore X0.here hx rfl (hb hby d13_4) rfl  (l' := #[.val .null, .val (.ref o1), .val (.int (0 : Int32)), .val (.int p3), .val (.int p4), .val (.int (p4 - (1 : Int32))), .unset, .unset, .unset, .unset, .unset, .unset, .unset, .unset, .unset, .unset, .unset, .unset, .unset, .unset, .unset]) rfl ks_) ?_
  refine go (u' := s₁.setTop (mkF m 8 #[.val .null, .val (.ref o1), .val (.int (0 : Int32)), .val (.int p3), .val (.int p4), .val (.int (p4 - (1 : Int32))), .unset, .unset, .unset, .unset, .unset, .unset, .unset, .unset, .unset, .unset, .unset, .unset, .unset, .unset, .unset] [(.int p4)])) (fun _ ks_ => XS.iload X0.here hx rfl (hb hby d13_6) rfl  ks_) ?_
  refine go (u' := s₁.setTop (mkF m 9 #[.val .null, .val (.ref o1), .val (.int (0 : Int32)), .val (.int p3), .val (.int p4), .val (.int (p4 - (1 : Int32))), .unset, .unset, .unset, .unset, .unset, .unset, .unset, .unset, .unset, .unset, .unset, .unset, .unset, .unset, .unset] [(.int p3), (.int p4)])) (fun _ ks_ => XS.iloadN X0.here hx rfl (hb hby d13_8) rfl  ks_) ?_
  refine go (u' := s₁.setTop (mkF m 10 #[.val .null, .val (.ref o1), .val (.int (0 : Int32)), .val (.int p3), .val (.int p4), .val (.int (p4 - (1 : Int32))), .unset, .unset, .unset, .unset, .unset, .unset, .unset, .unset, .unset, .unset, .unset, .unset, .unset, .unset, .unset] [(.int (p4 - p3))])) (fun _ ks_ => XS.isub X0.here hx rfl (hb hby d13_9) rfl ks_) ?_
  refine go (u' := s₁.setTop (mkF m 12 #[.val .null, .val (.ref o1), .val (.int (0 : Int32)), .val (.int p3), .val (.int p4), .val (.int (p4 - (1 : Int32))), .val (.int (p4 - p3)), .unset, .unset, .unset, .unset, .unset, .unset, .unset, .unset, .unset, .unset, .unset, .unset, .unset, .unset] [])) (fun _ ks_ => XS.istore X0.here hx rfl (hb hby d13_10) rfl  (l' := #[.val .null, .val (.ref o1), .val (.int (0 : Int32)), .val (.int p3), .val (.int p4), .val (.int (p4 - (1 : Int32))), .val (.int (p4 - p3)), .unset, .unset, .unset, .unset, .unset, .unset, .unset, .unset, .unset, .unset, .unset, .unset, .unset, .unset]) rfl ks_) ?_
  refine go (u' := s₁.setTop (mkF m 14 #[.val .null, .val (.ref o1), .val (.int (0 : Int32)), .val (.int p3), .val (.int p4), .val (.int (p4 - (1 : Int32))), .val (.int (p4 - p3)), .unset, .unset, .unset, .unset, .unset, .unset, .unset, .unset, .unset, .unset, .unset, .unset, .unset, .unset] [(.int (p4 - p3))])) (fun _ ks_ => XS.iload X0.here hx rfl (hb hby d13_12) rfl  ks_) ?_
  refine go (u' := s₁.setTop (mkF m 16 #[.val .null, .val (.ref o1), .val (.int (0 : Int32)), .val (.int p3), .val (.int p4), .val (.int (p4 - (1 : Int32))), .val (.int (p4 - p3)), .unset, .unset, .unset, .unset, .unset, .unset, .unset, .unset, .unset, .unset, .unset, .unset, .unset, .unset] [(.int (65 : Int32)), (.int (p4 - p3))])) (fun _ ks_ => XS.bipush X0.here hx rfl (hb hby d13_14) ks_) ?_
  refine go (u' := s₁.setTop (mkF m 17 #[.val .null, .val (.ref o1), .val (.int (0 : Int32)), .val (.int p3), .val (.int p4), .val (.int (p4 - (1 : Int32))), .val (.int (p4 - p3)), .unset, .unset, .unset, .unset, .unset, .unset, .unset, .unset, .unset, .unset, .unset, .unset, .unset, .unset] [(.int (0 : Int32)), (.int (65 : Int32)), (.int (p4 - p3))])) (fun _ ks_ => XS.iloadN X0.here hx rfl (hb hby d13_16) rfl  ks_) ?_
  refine go (u' := s₁.setTop (mkF m 18 #[.val .null, .val (.ref o1), .val (.int (0 : Int32)), .val (.int p3), .val (.int p4), .val (.int (p4 - (1 : Int32))), .val (.int (p4 - p3)), .unset, .unset, .unset, .unset, .unset, .unset, .unset, .unset, .unset, .unset, .unset, .unset, .unset, .unset] [(.int ((65 : Int32) + (0 : Int32))), (.int (p4 - p3))])) (fun _ ks_ => XS.iadd X0.here hx rfl (hb hby d13_17) rfl ks_) ?_
  refine go (u' := s₁.setTop (mkF m 21 #[.val .null, .val (.ref o1), .val (.int (0 : Int32)), .val (.int p3), .val (.int p4), .val (.int (p4 - (1 : Int32))), .val (.int (p4 - p3)), .unset, .unset, .unset, .unset, .unset, .unset, .unset, .unset, .unset, .unset, .unset, .unset, .unset, .unset] [])) (fun _ ks_ => XS.icmpNo X0.here hx rfl (hb hby d13_18) rfl (tlt (show (p4 - p3) < ((65 : Int32) + (0 : Int32)) from (own_sz hn hbd).1)).2.1 ks_) ?_
  refine go (u' := s₁.setTop (mkF m 22 #[.val .null, .val (.ref o1), .val (.int (0 : Int32)), .val (.int p3), .val (.int p4), .val (.int (p4 - (1 : Int32))), .val (.int (p4 - p3)), .unset, .unset, .unset, .unset, .unset, .unset, .unset, .unset, .unset, .unset, .unset, .unset, .unset, .unset] [(.int (0 : Int32))])) (fun _ ks_ => XS.iloadN X0.here hx rfl (hb hby d13_21) rfl  ks_) ?_
  refine go (u' := s₁.setTop (mkF m 23 #[.val .null, .val (.ref o1), .val (.int (0 : Int32)), .val (.int p3), .val (.int p4), .val (.int (p4 - (1 : Int32))), .val (.int (p4 - p3)), .unset, .unset, .unset, .unset, .unset, .unset, .unset, .unset, .unset, .unset, .unset, .unset, .unset, .unset] [(.int (1 : Int32)), (.int (0 : Int32))])) (fun _ ks_ => XS.iconst X0.here hx rfl (hb hby d13_22) ks_) ?_
  refine go (u' := s₁.setTop (mkF m 24 #[.val .null, .val (.ref o1), .val (.int (0 : Int32)), .val (.int p3), .val (.int p4), .val (.int (p4 - (1 : Int32))), .val (.int (p4 - p3)), .unset, .unset, .unset, .unset, .unset, .unset, .unset, .unset, .unset, .unset, .unset, .unset, .unset, .unset] [(.int ((0 : Int32) &&& (1 : Int32)))])) (fun _ ks_ => XS.iand X0.here hx rfl (hb hby d13_23) rfl ks_) ?_
  refine go (u' := s₁.setTop (mkF m 46 #[.val .null, .val (.ref o1), .val (.int (0 : Int32)), .val (.int p3), .val (.int p4), .val (.int (p4 - (1 : Int32))), .val (.int (p4 - p3)), .unset, .unset, .unset, .unset, .unset, .unset, .unset, .unset, .unset, .unset, .unset, .unset, .unset, .unset] [])) (fun _ ks_ => XS.ifYes X0.here hx rfl (pc0 := 24) (pc' := 46) rfl (hb hby d13_24) rfl ((if0 _ _).trans (flt (show ¬ ((0 : Int32) < ((0 : Int32) &&& (1 : Int32))) from (by decide))).2.2.2) (by decide) (by decide) ks_) ?_
  refine go (u' := s₁.setTop (mkF m 48 #[.val .null, .val (.ref o1), .val (.int (0 : Int32)), .val (.int p3), .val (.int p4), .val (.int (p4 - (1 : Int32))), .val (.int (p4 - p3)), .unset, .unset, .unset, .unset, .unset, .unset, .unset, .unset, .unset, .unset, .unset, .unset, .unset, .unset] [(.int (p4 - p3))])) (fun _ ks_ => XS.iload X0.here hx rfl (hb hby d13_46) rfl  ks_) ?_
  refine go (u' := s₁.setTop (mkF m 50 #[.val .null, .val (.ref o1), .val (.int (0 : Int32)), .val (.int p3), .val (.int p4), .val (.int (p4 - (1 : Int32))), .val (.int (p4 - p3)), .unset, .unset, .unset, .unset, .unset, .unset, .unset, .unset, .unset, .unset, .unset, .unset, .unset, .unset] [(.int (44 : Int32)), (.int (p4 - p3))])) (fun _ ks_ => XS.bipush X0.here hx rfl (hb hby d13_48) ks_) ?_
  refine go (u' := s₁.setTop (mkF m 53 #[.val .null, .val (.ref o1), .val (.int (0 : Int32)), .val (.int p3), .val (.int p4), .val (.int (p4 - (1 : Int32))), .val (.int (p4 - p3)), .unset, .unset, .unset, .unset, .unset, .unset, .unset, .unset, .unset, .unset, .unset, .unset, .unset, .unset] [])) (fun _ ks_ => XS.icmpNo X0.here hx rfl (hb hby d13_50) rfl (tlt (show (p4 - p3) < (44 : Int32) from (own_sz hn hbd).2)).2.1 ks_) ?_
  refine go (u' := s₁.setTop (mkF m 54 #[.val .null, .val (.ref o1), .val (.int (0 : Int32)), .val (.int p3), .val (.int p4), .val (.int (p4 - (1 : Int32))), .val (.int (p4 - p3)), .unset, .unset, .unset, .unset, .unset, .unset, .unset, .unset, .unset, .unset, .unset, .unset, .unset, .unset] [(.ref o1)])) (fun _ ks_ => XS.aloadN X0.here hx rfl (hb hby d13_53) rfl rfl ks_) ?_
  refine go (u' := s₁.setTop (mkF m 55 #[.val .null, .val (.ref o1), .val (.int (0 : Int32)), .val (.int p3), .val (.int p4), .val (.int (p4 - (1 : Int32))), .val (.int (p4 - p3)), .unset, .unset, .unset, .unset, .unset, .unset, .unset, .unset, .unset, .unset, .unset, .unset, .unset, .unset] [(.int p3), (.ref o1)])) (fun _ ks_ => XS.iloadN X0.here hx rfl (hb hby d13_54) rfl  ks_) ?_
  refine go (u' := s₁.setTop (mkF m 57 #[.val .null, .val (.ref o1), .val (.int (0 : Int32)), .val (.int p3), .val (.int p4), .val (.int (p4 - (1 : Int32))), .val (.int (p4 - p3)), .unset, .unset, .unset, .unset, .unset, .unset, .unset, .unset, .unset, .unset, .unset, .unset, .unset, .unset] [(.int p4), (.int p3), (.ref o1)])) (fun _ ks_ => XS.iload X0.here hx rfl (hb hby d13_55) rfl  ks_) ?_
  obtain ⟨_, _, ⟨T1, L1, k1, n1⟩, -, X1, ⟨Lc1, hQ1, l1, y1, z1⟩, st1⟩ := Jvm.LawKit.callS X0 hx (y := (⟨"java/util/DualPivotQuicksort", "insertionSort", "([III)V"⟩ : MethodName)) hown (mvT hZ (ww hw 74 rfl)) (mvT hZ (ww hw 75 rfl)) (mvT hZ (ww hw 69 rfl)) (mvT hZ (ww hw 76 rfl)) (by decide) (backOf (W := 0) (rm14 l Z a0 hw [] o1 p3 p4 n g h0 n0 Z0 g_o1 F0 hn hbd) hZ (ww hw 76 rfl) (ww hw 69 rfl) (by decide) (by decide)) (g := (mkF m 57 #[.val .null, .val (.ref o1), .val (.int (0 : Int32)), .val (.int p3), .val (.int p4), .val (.int (p4 - (1 : Int32))), .val (.int (p4 - p3)), .unset, .unset, .unset, .unset, .unset, .unset, .unset, .unset, .unset, .unset, .unset, .unset, .unset, .unset] [(.int p4), (.int p3), (.ref o1)])) rfl (by rw [hml]; rfl) (argsL := [(.ref o1), (.int p3), (.int p4)]) (rest := []) (lenOf pd__40__91_III_41_V rfl) rfl (by show 2 * 0 + _ ≤ _; exact Nat.le_of_eq rfl) (hb hby d13_57) (fun _ _ => ⟨rfl, e0, (by decide : 0 + 0 ≤ _), (by decide : 0 + 0 ≤ _)⟩)
  dsimp only [Pt.U, Pt.locs, Pt.cells, Pt.slots] at X1 l1 y1 z1 st1 hQ1
  subst l1 y1 z1
  obtain ⟨g11, rfl, N1q, Kq1, Fa2⟩ := hQ1
  have N1 := Fr.app N0 N1q
  have K1 : Keep h0 T1.heap [o1] := (Keep.refl h0 [o1]).trans Kq1 (allS (P := fun x => x ∈ [o1] ∨ h0.size ≤ x) (Or.inl (List.mem_of_getElem? (i := 0) rfl)) all0)
  have Z1 : n0 ≤ T1.heap.size := Nat.le_trans Z0 Kq1.1
  refine go (u' := T1.setTop (mkF m 60 #[.val .null, .val (.ref o1), .val (.int (0 : Int32)), .val (.int p3), .val (.int p4), .val (.int (p4 - (1 : Int32))), .val (.int (p4 - p3)), .unset, .unset, .unset, .unset, .unset, .unset, .unset, .unset, .unset, .unset, .unset, .unset, .unset, .unset] [])) st1 ?_
  rw [hG]
  refine g0 X1 hx hlk hret (hb hby d13_60) ?_ (Nat.le_of_ble_eq_true rfl) (Nat.le_of_ble_eq_true rfl)
  show Q_rm13 Z o1 p3 p4 n g h0 n0 (none) T1.heap _
  exact ⟨g11, rfl, N1, K1, Fa2⟩
theorem pd__40_Ljava_47_util_47_DualPivotQuicksort_36_Sorter_59__91_IIII_41_V : parseMethodDescriptor "(Ljava/util/DualPivotQuicksort$Sorter;[IIII)V" = some ⟨[(.object "java/util/DualPivotQuicksort$Sorter"), (.array .int), .int, .int, .int], none⟩ := by decide +kernel
theorem pn_java_util_DualPivotQuicksort_sort_12 : plainFor (⟨"java/util/DualPivotQuicksort", "sort", "([IIII)V"⟩ : MethodName) = true := by first | exact plainFor_of_name (by first | (simp [plainName, overriddenIn]; done) | decide +kernel) | decide +kernel
def Q_rm12 (Z : State) (o0 : Addr) (p2 : Int32) (p3 : Int32) (n : Nat) (g : Nat → Int32) (h0 : Heap) (n0 : Nat) (v : Option Value) (h : Heap) (L : List Loc) : Prop := ∃ g1 : Nat → Int32, v = none ∧ Fr n0 L ∧ Keep h0 h [o0] ∧ (PI Z h o0 .int n g1)
set_option maxRecDepth 65536 in
set_option maxHeartbeats 4000000 in
theorem ef_rm12 (m : MethodId) (o0 : Addr) (p2 : Int32) (p3 : Int32) : entryFrame m #[(.ref o0), (.int (0 : Int32)), (.int p2), (.int p3)] 7 = mkF m 0 #[.val (.ref o0), .val (.int (0 : Int32)), .val (.int p2), .val (.int p3), .unset, .unset, .unset] [] := by first | (simp [entryFrame, mkF, argsToLocals, Value.category, maxLocals]; done) | rfl
theorem d12_0 : decode jdk_2529_method_3_code 0 = .ok (.iload_n 3, 1) := by decide +kernel
theorem d12_1 : decode jdk_2529_method_3_code 1 = .ok (.iload_n 2, 1) := by decide +kernel
theorem d12_2 : decode jdk_2529_method_3_code 2 = .ok (.isub, 1) := by decide +kernel
theorem d12_3 : decode jdk_2529_method_3_code 3 = .ok (.istore 4, 2) := by decide +kernel
theorem d12_5 : decode jdk_2529_method_3_code 5 = .ok (.iload_n 1, 1) := by decide +kernel
theorem d12_6 : decode jdk_2529_method_3_code 6 = .ok (.iconst 1, 1) := by decide +kernel
theorem d12_7 : decode jdk_2529_method_3_code 7 = .ok (.if_icmp .le 61, 3) := by decide +kernel
theorem d12_68 : decode jdk_2529_method_3_code 68 = .ok (.aconst_null, 1) := by decide +kernel
theorem d12_69 : decode jdk_2529_method_3_code 69 = .ok (.aload_n 0, 1) := by decide +kernel
theorem d12_70 : decode jdk_2529_method_3_code 70 = .ok (.iconst 0, 1) := by decide +kernel
theorem d12_71 : decode jdk_2529_method_3_code 71 = .ok (.iload_n 2, 1) := by decide +kernel
theorem d12_72 : decode jdk_2529_method_3_code 72 = .ok (.iload_n 3, 1) := by decide +kernel
theorem d12_73 : decode jdk_2529_method_3_code 73 = .ok (.invokestatic 26, 3) := by decide +kernel
theorem d12_76 : decode jdk_2529_method_3_code 76 = .ok (.return_, 1) := by decide +kernel
set_option maxRecDepth 65536 in
set_option maxHeartbeats 40000000 in
theorem rm12 (l : Launch) (Z : State) (a0 : Array Value) (hw : ∀ d ∈ tables_1, d.before a0 Z = true) (ws : List Jvm.Cond) (o0 : Addr) (p2 : Int32) (p3 : Int32) (n : Nat) (g : Nat → Int32) (h0 : Heap) (n0 : Nat) (Z0 : n0 ≤ h0.size) (g_o0 : n0 ≤ o0) (F0 : PI Z h0 o0 .int n g) (hn : n ≤ 4) (hbd : 0 ≤ p2.toInt ∧ p2.toInt ≤ p3.toInt ∧ p3.toInt ≤ n) :
    MetFree l (⟨"java/util/DualPivotQuicksort", "sort", "([IIII)V"⟩ : MethodName) (head1 (Jvm.Cond.code (⟨"java/util/DualPivotQuicksort", "sort", "([IIII)V"⟩ : MethodName) jdk_2529_method_3_code 7 none :: ws) ({ frames := 2, cells := 0, slots := 0, locals := 49 } : Room)) (fun a U => a = #[(.ref o0), (.int (0 : Int32)), (.int p2), (.int p3)] ∧ Z.Warmed39 U.vm ∧ U.heap = h0) (fun _ _ _ _ _ => True) (fun _ U o U' => ∃ v L, o = .returned v ∧ Q_rm12 Z o0 p2 p3 n g h0 n0 v U'.heap L ∧ FrameEnd U o U' L ({ frames := 2, cells := 0, slots := 0, locals := 49 } : Room).cells ({ frames := 2, cells := 0, slots := 0, locals := 49 } : Room).slots) := by
  refine body pn_java_util_DualPivotQuicksort_sort_12 ?_
  intro p e s m below meth c s₁ hx hby hml hown hnm hret hlk hZ e0 X0
  replace hml : c.maxLocals = 7 := hml
  replace hown : s.vm.findClass "java/util/DualPivotQuicksort" = some m.cls := hown
  replace hnm : meth.name = "sort" := hnm
  replace hret : meth.sig.returnType = none := hret
  have N0 := Fr.nil n0
  rw [ef_rm12]
  obtain ⟨G, hG⟩ : ∃ G, G = End (Q_rm12 Z o0 p2 p3 n g h0 n0) s ({ frames := 2, cells := 0, slots := 0, locals := 49 } : Room).cells ({ frames := 2, cells := 0, slots := 0, locals := 49 } : Room).slots := ⟨_, rfl⟩
  rw [← hG]
  refine go (u' := s₁.setTop (mkF m 1 #[.val (.ref o0), .val (.int (0 : Int32)), .val (.int p2), .val (.int p3), .unset, .unset, .unset] [(.int p3)])) (fun _ ks_ => XS.iloadN X0.here hx rfl (hb hby d12_0) rfl  ks_) ?_
  refine go (u' := s₁.setTop (mkF m 2 #[.val (.ref o0), .val (.int (0 : Int32)), .val (.int p2), .val (.int p3), .unset, .unset, .unset] [(.int p2), (.int p3)])) (fun _ ks_ => XS.iloadN X0.here hx rfl (hb hby d12_1) rfl  ks_) ?_
  refine go (u' := s₁.setTop (mkF m 3 #[.val (.ref o0), .val (.int (0 : Int32)), .val (.int p2), .val (.int p3), .unset, .unset, .unset] [(.int (p3 - p2))])) (fun _ ks_ => XS.isub X0.here hx rfl (hb hby d12_2) rfl ks_) ?_
  refine go (u' := s₁.setTop (mkF m 5 #[.val (.ref o0), .val (.int (0 : Int32)), .val (.int p2), .val (.int p3), .val (.int (p3 - p2)), .unset, .unset] [])) (fun _ ks_ => XS.istore X0.here hx rfl (hb hby d12_3) rfl  (l' := #[.val (.ref o0), .val (.int (0 : Int32)), .val (.int p2), .val (.int p3), .val (.int (p3 - p2)), .unset, .unset]) rfl ks_) ?_
  refine go (u' := s₁.setTop (mkF m 6 #[.val (.ref o0), .val (.int (0 : Int32)), .val (.int p2), .val (.int p3), .val (.int (p3 - p2)), .unset, .unset] [(.int (0 : Int32))])) (fun _ ks_ => XS.iloadN X0.here hx rfl (hb hby d12_5) rfl  ks_) ?_
  refine go (u' := s₁.setTop (mkF m 7 #[.val (.ref o0), .val (.int (0 : Int32)), .val (.int p2), .val (.int p3), .val (.int (p3 - p2)), .unset, .unset] [(.int (1 : Int32)), (.int (0 : Int32))])) (fun _ ks_ => XS.iconst X0.here hx rfl (hb hby d12_6) ks_) ?_
  refine go (u' := s₁.setTop (mkF m 68 #[.val (.ref o0), .val (.int (0 : Int32)), .val (.int p2), .val (.int p3), .val (.int (p3 - p2)), .unset, .unset] [])) (fun _ ks_ => XS.icmpYes X0.here hx rfl (pc0 := 7) (pc' := 68) rfl (hb hby d12_7) rfl (flt (show ¬ ((1 : Int32) < (0 : Int32)) from (by decide))).2.2.2 (by decide) (by decide) ks_) ?_
  refine go (u' := s₁.setTop (mkF m 69 #[.val (.ref o0), .val (.int (0 : Int32)), .val (.int p2), .val (.int p3), .val (.int (p3 - p2)), .unset, .unset] [.null])) (fun _ ks_ => XS.aconstNull X0.here hx rfl (hb hby d12_68) ks_) ?_
  refine go (u' := s₁.setTop (mkF m 70 #[.val (.ref o0), .val (.int (0 : Int32)), .val (.int p2), .val (.int p3), .val (.int (p3 - p2)), .unset, .unset] [(.ref o0), .null])) (fun _ ks_ => XS.aloadN X0.here hx rfl (hb hby d12_69) rfl rfl ks_) ?_
  refine go (u' := s₁.setTop (mkF m 71 #[.val (.ref o0), .val (.int (0 : Int32)), .val (.int p2), .val (.int p3), .val (.int (p3 - p2)), .unset, .unset] [(.int (0 : Int32)), (.ref o0), .null])) (fun _ ks_ => XS.iconst X0.here hx rfl (hb hby d12_70) ks_) ?_
  refine go (u' := s₁.setTop (mkF m 72 #[.val (.ref o0), .val (.int (0 : Int32)), .val (.int p2), .val (.int p3), .val (.int (p3 - p2)), .unset, .unset] [(.int p2), (.int (0 : Int32)), (.ref o0), .null])) (fun _ ks_ => XS.iloadN X0.here hx rfl (hb hby d12_71) rfl  ks_) ?_
  refine go (u' := s₁.setTop (mkF m 73 #[.val (.ref o0), .val (.int (0 : Int32)), .val (.int p2), .val (.int p3), .val (.int (p3 - p2)), .unset, .unset] [(.int p3), (.int p2), (.int (0 : Int32)), (.ref o0), .null])) (fun _ ks_ => XS.iloadN X0.here hx rfl (hb hby d12_72) rfl  ks_) ?_
  obtain ⟨_, _, ⟨T1, L1, k1, n1⟩, -, X1, ⟨Lc1, hQ1, l1, y1, z1⟩, st1⟩ := Jvm.LawKit.callS X0 hx (y := (⟨"java/util/DualPivotQuicksort", "sort", "(Ljava/util/DualPivotQuicksort$Sorter;[IIII)V"⟩ : MethodName)) hown (mvT hZ (ww hw 71 rfl)) (mvT hZ (ww hw 72 rfl)) (mvT hZ (ww hw 69 rfl)) (mvT hZ (ww hw 73 rfl)) (by decide) (backOf (W := 0) (rm13 l Z a0 hw [] o0 p2 p3 n g h0 n0 Z0 g_o0 F0 hn hbd) hZ (ww hw 73 rfl) (ww hw 69 rfl) (by decide) (by decide)) (g := (mkF m 73 #[.val (.ref o0), .val (.int (0 : Int32)), .val (.int p2), .val (.int p3), .val (.int (p3 - p2)), .unset, .unset] [(.int p3), (.int p2), (.int (0 : Int32)), (.ref o0), .null])) rfl (by rw [hml]; rfl) (argsL := [.null, (.ref o0), (.int (0 : Int32)), (.int p2), (.int p3)]) (rest := []) (lenOf pd__40_Ljava_47_util_47_DualPivotQuicksort_36_Sorter_59__91_IIII_41_V rfl) rfl (by show 2 * 0 + _ ≤ _; exact Nat.le_of_eq rfl) (hb hby d12_73) (fun _ _ => ⟨rfl, e0, (by decide : 0 + 0 ≤ _), (by decide : 0 + 0 ≤ _)⟩)
  dsimp only [Pt.U, Pt.locs, Pt.cells, Pt.slots] at X1 l1 y1 z1 st1 hQ1
  subst l1 y1 z1
  obtain ⟨g11, rfl, N1q, Kq1, Fa2⟩ := hQ1
  have N1 := Fr.app N0 N1q
  have K1 : Keep h0 T1.heap [o0] := (Keep.refl h0 [o0]).trans Kq1 (allS (P := fun x => x ∈ [o0] ∨ h0.size ≤ x) (Or.inl (List.mem_of_getElem? (i := 0) rfl)) all0)
  have Z1 : n0 ≤ T1.heap.size := Nat.le_trans Z0 Kq1.1
  refine go (u' := T1.setTop (mkF m 76 #[.val (.ref o0), .val (.int (0 : Int32)), .val (.int p2), .val (.int p3), .val (.int (p3 - p2)), .unset, .unset] [])) st1 ?_
  rw [hG]
  refine g0 X1 hx hlk hret (hb hby d12_76) ?_ (Nat.le_of_ble_eq_true rfl) (Nat.le_of_ble_eq_true rfl)
  show Q_rm12 Z o0 p2 p3 n g h0 n0 (none) T1.heap _
  exact ⟨g11, rfl, N1, K1, Fa2⟩
theorem pd__40_III_41_V : parseMethodDescriptor "(III)V" = some ⟨[.int, .int, .int], none⟩ := by decide +kernel
theorem pd__40__91_IIII_41_V : parseMethodDescriptor "([IIII)V" = some ⟨[(.array .int), .int, .int, .int], none⟩ := by decide +kernel
theorem pn_java_util_Arrays_sort_10 : plainFor (⟨"java/util/Arrays", "sort", "([III)V"⟩ : MethodName) = true := by first | exact plainFor_of_name (by first | (simp [plainName, overriddenIn]; done) | decide +kernel) | decide +kernel
def Q_rm10 (Z : State) (o0 : Addr) (p1 : Int32) (p2 : Int32) (n : Nat) (g : Nat → Int32) (h0 : Heap) (n0 : Nat) (v : Option Value) (h : Heap) (L : List Loc) : Prop := ∃ g1 : Nat → Int32, v = none ∧ Fr n0 L ∧ Keep h0 h [o0] ∧ (PI Z h o0 .int n g1)
set_option maxRecDepth 65536 in
set_option maxHeartbeats 4000000 in
theorem ef_rm10 (m : MethodId) (o0 : Addr) (p1 : Int32) (p2 : Int32) : entryFrame m #[(.ref o0), (.int p1), (.int p2)] 3 = mkF m 0 #[.val (.ref o0), .val (.int p1), .val (.int p2)] [] := by first | (simp [entryFrame, mkF, argsToLocals, Value.category, maxLocals]; done) | rfl
theorem d10_0 : decode jdk_65_method_3_code 0 = .ok (.aload_n 0, 1) := by decide +kernel
theorem d10_1 : decode jdk_65_method_3_code 1 = .ok (.arraylength, 1) := by decide +kernel
theorem d10_2 : decode jdk_65_method_3_code 2 = .ok (.iload_n 1, 1) := by decide +kernel
theorem d10_3 : decode jdk_65_method_3_code 3 = .ok (.iload_n 2, 1) := by decide +kernel
theorem d10_4 : decode jdk_65_method_3_code 4 = .ok (.invokestatic 13, 3) := by decide +kernel
theorem d10_7 : decode jdk_65_method_3_code 7 = .ok (.aload_n 0, 1) := by decide +kernel
theorem d10_8 : decode jdk_65_method_3_code 8 = .ok (.iconst 0, 1) := by decide +kernel
theorem d10_9 : decode jdk_65_method_3_code 9 = .ok (.iload_n 1, 1) := by decide +kernel
theorem d10_10 : decode jdk_65_method_3_code 10 = .ok (.iload_n 2, 1) := by decide +kernel
theorem d10_11 : decode jdk_65_method_3_code 11 = .ok (.invokestatic 7, 3) := by decide +kernel
theorem d10_14 : decode jdk_65_method_3_code 14 = .ok (.return_, 1) := by decide +kernel
set_option maxRecDepth 65536 in
set_option maxHeartbeats 40000000 in
theorem rm10 (l : Launch) (Z : State) (a0 : Array Value) (hw : ∀ d ∈ tables_1, d.before a0 Z = true) (ws : List Jvm.Cond) (o0 : Addr) (p1 : Int32) (p2 : Int32) (n : Nat) (g : Nat → Int32) (h0 : Heap) (n0 : Nat) (Z0 : n0 ≤ h0.size) (g_o0 : n0 ≤ o0) (F0 : PI Z h0 o0 .int n g) (hn : n ≤ 4) (hbd : 0 ≤ p1.toInt ∧ p1.toInt ≤ p2.toInt ∧ p2.toInt ≤ n) :
    MetFree l (⟨"java/util/Arrays", "sort", "([III)V"⟩ : MethodName) (head1 (Jvm.Cond.code (⟨"java/util/Arrays", "sort", "([III)V"⟩ : MethodName) jdk_65_method_3_code 3 none :: ws) ({ frames := 3, cells := 0, slots := 0, locals := 67 } : Room)) (fun a U => a = #[(.ref o0), (.int p1), (.int p2)] ∧ Z.Warmed39 U.vm ∧ U.heap = h0) (fun _ _ _ _ _ => True) (fun _ U o U' => ∃ v L, o = .returned v ∧ Q_rm10 Z o0 p1 p2 n g h0 n0 v U'.heap L ∧ FrameEnd U o U' L ({ frames := 3, cells := 0, slots := 0, locals := 67 } : Room).cells ({ frames := 3, cells := 0, slots := 0, locals := 67 } : Room).slots) := by
  refine body pn_java_util_Arrays_sort_10 ?_
  intro p e s m below meth c s₁ hx hby hml hown hnm hret hlk hZ e0 X0
  replace hml : c.maxLocals = 3 := hml
  replace hown : s.vm.findClass "java/util/Arrays" = some m.cls := hown
  replace hnm : meth.name = "sort" := hnm
  replace hret : meth.sig.returnType = none := hret
  have N0 := Fr.nil n0
  rw [ef_rm10]
  obtain ⟨G, hG⟩ : ∃ G, G = End (Q_rm10 Z o0 p1 p2 n g h0 n0) s ({ frames := 3, cells := 0, slots := 0, locals := 67 } : Room).cells ({ frames := 3, cells := 0, slots := 0, locals := 67 } : Room).slots := ⟨_, rfl⟩
  rw [← hG]
  refine go (u' := s₁.setTop (mkF m 1 #[.val (.ref o0), .val (.int p1), .val (.int p2)] [(.ref o0)])) (fun _ ks_ => XS.aloadN X0.here hx rfl (hb hby d10_0) rfl rfl ks_) ?_
  refine go (u' := s₁.setTop (mkF m 2 #[.val (.ref o0), .val (.int p1), .val (.int p2)] [(.int n.toInt32)])) (own_alen X0 hx hZ e0 F0 (z := n.toInt32) rfl (f := (mkF m 1 #[.val (.ref o0), .val (.int p1), .val (.int p2)] [(.ref o0)])) rfl rfl (hb hby d10_1)) ?_
  refine go (u' := s₁.setTop (mkF m 3 #[.val (.ref o0), .val (.int p1), .val (.int p2)] [(.int p1), (.int n.toInt32)])) (fun _ ks_ => XS.iloadN X0.here hx rfl (hb hby d10_2) rfl  ks_) ?_
  refine go (u' := s₁.setTop (mkF m 4 #[.val (.ref o0), .val (.int p1), .val (.int p2)] [(.int p2), (.int p1), (.int n.toInt32)])) (fun _ ks_ => XS.iloadN X0.here hx rfl (hb hby d10_3) rfl  ks_) ?_
  obtain ⟨_, _, ⟨T1, L1, k1, n1⟩, -, X1, ⟨Lc1, hQ1, l1, y1, z1⟩, st1⟩ := Jvm.LawKit.callS X0 hx (y := (⟨"java/util/Arrays", "rangeCheck", "(III)V"⟩ : MethodName)) hown (mvT hZ (ww hw 64 rfl)) (mvT hZ (ww hw 65 rfl)) (mvT hZ (ww hw 51 rfl)) (mvT hZ (ww hw 66 rfl)) (by decide) (backOf (W := 0) (rm11 l Z a0 hw [] n.toInt32 p1 p2 h0 n0 Z0 (by rw [Int32.lt_iff_toInt_lt]; omega) (own_nn hbd.1) (by rw [Int32.lt_iff_toInt_lt, own_t32 (by omega)]; omega)) hZ (ww hw 66 rfl) (ww hw 51 rfl) (by decide) (by decide)) (g := (mkF m 4 #[.val (.ref o0), .val (.int p1), .val (.int p2)] [(.int p2), (.int p1), (.int n.toInt32)])) rfl (by rw [hml]; rfl) (argsL := [(.int n.toInt32), (.int p1), (.int p2)]) (rest := []) (lenOf pd__40_III_41_V rfl) rfl (by show 2 * 0 + _ ≤ _; exact Nat.le_of_eq rfl) (hb hby d10_4) (fun _ _ => ⟨rfl, e0, (by decide : 0 + 0 ≤ _), (by decide : 0 + 0 ≤ _)⟩)
  dsimp only [Pt.U, Pt.locs, Pt.cells, Pt.slots] at X1 l1 y1 z1 st1 hQ1
  subst l1 y1 z1
  obtain ⟨rfl, N1q, eq1⟩ := hQ1
  have N1 := Fr.app N0 N1q
  refine go (u' := T1.setTop (mkF m 7 #[.val (.ref o0), .val (.int p1), .val (.int p2)] [])) st1 ?_
  refine go (u' := T1.setTop (mkF m 8 #[.val (.ref o0), .val (.int p1), .val (.int p2)] [(.ref o0)])) (fun _ ks_ => XS.aloadN X1.here hx rfl (hb hby d10_7) rfl rfl ks_) ?_
  refine go (u' := T1.setTop (mkF m 9 #[.val (.ref o0), .val (.int p1), .val (.int p2)] [(.int (0 : Int32)), (.ref o0)])) (fun _ ks_ => XS.iconst X1.here hx rfl (hb hby d10_8) ks_) ?_
  refine go (u' := T1.setTop (mkF m 10 #[.val (.ref o0), .val (.int p1), .val (.int p2)] [(.int p1), (.int (0 : Int32)), (.ref o0)])) (fun _ ks_ => XS.iloadN X1.here hx rfl (hb hby d10_9) rfl  ks_) ?_
  refine go (u' := T1.setTop (mkF m 11 #[.val (.ref o0), .val (.int p1), .val (.int p2)] [(.int p2), (.int p1), (.int (0 : Int32)), (.ref o0)])) (fun _ ks_ => XS.iloadN X1.here hx rfl (hb hby d10_10) rfl  ks_) ?_
  obtain ⟨_, _, ⟨T2, L2, k2, n2⟩, -, X2, ⟨Lc2, hQ2, l2, y2, z2⟩, st2⟩ := Jvm.LawKit.callS X1 hx (y := (⟨"java/util/DualPivotQuicksort", "sort", "([IIII)V"⟩ : MethodName)) hown (mvT hZ (ww hw 67 rfl)) (mvT hZ (ww hw 68 rfl)) (mvT hZ (ww hw 69 rfl)) (mvT hZ (ww hw 70 rfl)) (by decide) (backOf (W := 0) (rm12 l Z a0 hw [] o0 p1 p2 n g h0 n0 Z0 g_o0 F0 hn hbd) hZ (ww hw 70 rfl) (ww hw 69 rfl) (by decide) (by decide)) (g := (mkF m 11 #[.val (.ref o0), .val (.int p1), .val (.int p2)] [(.int p2), (.int p1), (.int (0 : Int32)), (.ref o0)])) rfl (by rw [hml]; rfl) (argsL := [(.ref o0), (.int (0 : Int32)), (.int p1), (.int p2)]) (rest := []) (lenOf pd__40__91_IIII_41_V rfl) rfl (by show 2 * 0 + _ ≤ _; exact Nat.le_of_eq rfl) (hb hby d10_11) (fun _ _ => ⟨rfl, eq1, (by decide : 0 + 0 ≤ _), (by decide : 0 + 0 ≤ _)⟩)
  dsimp only [Pt.U, Pt.locs, Pt.cells, Pt.slots] at X2 l2 y2 z2 st2 hQ2
  subst l2 y2 z2
  obtain ⟨g12, rfl, N2q, Kq2, Fa3⟩ := hQ2
  have N2 := Fr.app N1 N2q
  have K2 : Keep h0 T2.heap [o0] := (Keep.refl h0 [o0]).trans Kq2 (allS (P := fun x => x ∈ [o0] ∨ h0.size ≤ x) (Or.inl (List.mem_of_getElem? (i := 0) rfl)) all0)
  have Z2 : n0 ≤ T2.heap.size := Nat.le_trans Z0 Kq2.1
  refine go (u' := T2.setTop (mkF m 14 #[.val (.ref o0), .val (.int p1), .val (.int p2)] [])) st2 ?_
  rw [hG]
  refine g0 X2 hx hlk hret (hb hby d10_14) ?_ (Nat.le_of_ble_eq_true rfl) (Nat.le_of_ble_eq_true rfl)
  show Q_rm10 Z o0 p1 p2 n g h0 n0 (none) T2.heap _
  exact ⟨g12, rfl, N2, K2, Fa3⟩
theorem pd__40_II_41_I : parseMethodDescriptor "(II)I" = some ⟨[.int, .int], some .int⟩ := by decide +kernel
theorem pn_java_util_Arrays_copyOf_8 : plainFor (⟨"java/util/Arrays", "copyOf", "([II)[I"⟩ : MethodName) = true := by first | exact plainFor_of_name (by first | (simp [plainName, overriddenIn]; done) | decide +kernel) | decide +kernel
def Q_rm8 (Z : State) (o0 : Addr) (g : Nat → Int32) (h0 : Heap) (n0 : Nat) (v : Option Value) (h : Heap) (L : List Loc) : Prop := ∃ r : Addr, v = some (.ref r) ∧ Fr n0 L ∧ Keep h0 h [] ∧ (PI Z h r .int 3 g) ∧ (h0.size ≤ r)
set_option maxRecDepth 65536 in
set_option maxHeartbeats 4000000 in
theorem ef_rm8 (m : MethodId) (o0 : Addr) : entryFrame m #[(.ref o0), (.int (3 : Int32))] 3 = mkF m 0 #[.val (.ref o0), .val (.int (3 : Int32)), .unset] [] := by first | (simp [entryFrame, mkF, argsToLocals, Value.category, maxLocals]; done) | rfl
theorem d8_0 : decode jdk_65_method_123_code 0 = .ok (.iload_n 1, 1) := by decide +kernel
theorem d8_1 : decode jdk_65_method_123_code 1 = .ok (.aload_n 0, 1) := by decide +kernel
theorem d8_2 : decode jdk_65_method_123_code 2 = .ok (.arraylength, 1) := by decide +kernel
theorem d8_3 : decode jdk_65_method_123_code 3 = .ok (.if_icmp .ne 11, 3) := by decide +kernel
theorem d8_14 : decode jdk_65_method_123_code 14 = .ok (.iload_n 1, 1) := by decide +kernel
theorem d8_15 : decode jdk_65_method_123_code 15 = .ok (.newarray .int, 2) := by decide +kernel
theorem d8_17 : decode jdk_65_method_123_code 17 = .ok (.astore_n 2, 1) := by decide +kernel
theorem d8_18 : decode jdk_65_method_123_code 18 = .ok (.aload_n 0, 1) := by decide +kernel
theorem d8_19 : decode jdk_65_method_123_code 19 = .ok (.iconst 0, 1) := by decide +kernel
theorem d8_20 : decode jdk_65_method_123_code 20 = .ok (.aload_n 2, 1) := by decide +kernel
theorem d8_21 : decode jdk_65_method_123_code 21 = .ok (.iconst 0, 1) := by decide +kernel
theorem d8_22 : decode jdk_65_method_123_code 22 = .ok (.aload_n 0, 1) := by decide +kernel
theorem d8_23 : decode jdk_65_method_123_code 23 = .ok (.arraylength, 1) := by decide +kernel
theorem d8_24 : decode jdk_65_method_123_code 24 = .ok (.iload_n 1, 1) := by decide +kernel
theorem d8_25 : decode jdk_65_method_123_code 25 = .ok (.invokestatic 304, 3) := by decide +kernel
theorem d8_28 : decode jdk_65_method_123_code 28 = .ok (.invokestatic 150, 3) := by decide +kernel
theorem d8_31 : decode jdk_65_method_123_code 31 = .ok (.aload_n 2, 1) := by decide +kernel
theorem d8_32 : decode jdk_65_method_123_code 32 = .ok (.areturn, 1) := by decide +kernel
set_option maxRecDepth 65536 in
set_option maxHeartbeats 40000000 in
theorem rm8 (l : Launch) (Z : State) (a0 : Array Value) (hw : ∀ d ∈ tables_1, d.before a0 Z = true) (ws : List Jvm.Cond) (o0 : Addr) (g : Nat → Int32) (h0 : Heap) (n0 : Nat) (Z0 : n0 ≤ h0.size) (F0 : PI Z h0 o0 .int 4 g) :
    MetFree l (⟨"java/util/Arrays", "copyOf", "([II)[I"⟩ : MethodName) (head1 (Jvm.Cond.code (⟨"java/util/Arrays", "copyOf", "([II)[I"⟩ : MethodName) jdk_65_method_123_code 3 (some (.array .int)) :: ws) ({ frames := 1, cells := 1, slots := 3, locals := 40 } : Room)) (fun a U => a = #[(.ref o0), (.int (3 : Int32))] ∧ Z.Warmed39 U.vm ∧ U.heap = h0) (fun _ _ _ _ _ => True) (fun _ U o U' => ∃ v L, o = .returned v ∧ Q_rm8 Z o0 g h0 n0 v U'.heap L ∧ FrameEnd U o U' L ({ frames := 1, cells := 1, slots := 3, locals := 40 } : Room).cells ({ frames := 1, cells := 1, slots := 3, locals := 40 } : Room).slots) := by
  refine body pn_java_util_Arrays_copyOf_8 ?_
  intro p e s m below meth c s₁ hx hby hml hown hnm hret hlk hZ e0 X0
  replace hml : c.maxLocals = 3 := hml
  replace hown : s.vm.findClass "java/util/Arrays" = some m.cls := hown
  replace hnm : meth.name = "copyOf" := hnm
  replace hret : meth.sig.returnType = (some (.array .int)) := hret
  have N0 := Fr.nil n0
  rw [ef_rm8]
  obtain ⟨G, hG⟩ : ∃ G, G = End (Q_rm8 Z o0 g h0 n0) s ({ frames := 1, cells := 1, slots := 3, locals := 40 } : Room).cells ({ frames := 1, cells := 1, slots := 3, locals := 40 } : Room).slots := ⟨_, rfl⟩
  rw [← hG]
  refine go (u' := s₁.setTop (mkF m 1 #[.val (.ref o0), .val (.int (3 : Int32)), .unset] [(.int (3 : Int32))])) (fun _ ks_ => XS.iloadN X0.here hx rfl (hb hby d8_0) rfl  ks_) ?_
  refine go (u' := s₁.setTop (mkF m 2 #[.val (.ref o0), .val (.int (3 : Int32)), .unset] [(.ref o0), (.int (3 : Int32))])) (fun _ ks_ => XS.aloadN X0.here hx rfl (hb hby d8_1) rfl rfl ks_) ?_
  refine go (u' := s₁.setTop (mkF m 3 #[.val (.ref o0), .val (.int (3 : Int32)), .unset] [(.int (4 : Int32)), (.int (3 : Int32))])) (own_alen X0 hx hZ e0 F0 (z := (4 : Int32)) rfl (f := (mkF m 2 #[.val (.ref o0), .val (.int (3 : Int32)), .unset] [(.ref o0), (.int (3 : Int32))])) rfl rfl (hb hby d8_2)) ?_
  refine go (u' := s₁.setTop (mkF m 14 #[.val (.ref o0), .val (.int (3 : Int32)), .unset] [])) (fun _ ks_ => XS.icmpYes X0.here hx rfl (pc0 := 3) (pc' := 14) rfl (hb hby d8_3) rfl (feq (show ¬ ((3 : Int32) = (4 : Int32)) from (by decide))).2 (by decide) (by decide) ks_) ?_
  refine go (u' := s₁.setTop (mkF m 15 #[.val (.ref o0), .val (.int (3 : Int32)), .unset] [(.int (3 : Int32))])) (fun _ ks_ => XS.iloadN X0.here hx rfl (hb hby d8_14) rfl  ks_) ?_
  obtain ⟨T1, h1, k1, X1, e1, E1, A1, st1⟩ := newP X0 hx hZ (ww hw 0 rfl) e0 (g := (mkF m 15 #[.val (.ref o0), .val (.int (3 : Int32)), .unset] [(.int (3 : Int32))])) rfl (hb hby d8_15) rfl (by decide) (cap := 3) (by decide) (by decide) (by decide) (by decide)
  obtain ⟨b1, g1⟩ : ∃ z, z = h0.size := ⟨_, rfl⟩
  rw [← g1] at A1 st1
  have ne_o0_b1 : o0 ≠ b1 := Nat.ne_of_lt (Nat.lt_of_lt_of_le F0.lt (Nat.le_of_eq g1.symm))
  have g_b1 : n0 ≤ b1 := Nat.le_trans Z0 (Nat.le_of_eq g1.symm)
  have sz_b1 : h0.size ≤ b1 := Nat.le_trans (Keep.refl h0 []).1 (Nat.le_of_eq g1.symm)
  have K1 : Keep h0 h1 [] := (Keep.refl h0 []).ext E1
  have Fa2 : PI Z h1 o0 .int 4 g := F0.ext E1
  have Z1 : n0 ≤ h1.size := Nat.le_trans Z0 E1.1
  have Fa3 : PI Z h1 b1 .int 3 (own_l [(0 : Int32), (0 : Int32), (0 : Int32)]) := PI.newL A1 (by decide) rfl rfl
  refine go (u' := T1.setTop (mkF m 17 #[.val (.ref o0), .val (.int (3 : Int32)), .unset] [(.ref b1)])) st1 ?_
  refine go (u' := T1.setTop (mkF m 18 #[.val (.ref o0), .val (.int (3 : Int32)), .val (.ref b1)] [])) (fun _ ks_ => XS.astoreN X1.here hx rfl (hb hby d8_17) rfl rfl (l' := #[.val (.ref o0), .val (.int (3 : Int32)), .val (.ref b1)]) rfl ks_) ?_
  refine go (u' := T1.setTop (mkF m 19 #[.val (.ref o0), .val (.int (3 : Int32)), .val (.ref b1)] [(.ref o0)])) (fun _ ks_ => XS.aloadN X1.here hx rfl (hb hby d8_18) rfl rfl ks_) ?_
  refine go (u' := T1.setTop (mkF m 20 #[.val (.ref o0), .val (.int (3 : Int32)), .val (.ref b1)] [(.int (0 : Int32)), (.ref o0)])) (fun _ ks_ => XS.iconst X1.here hx rfl (hb hby d8_19) ks_) ?_
  refine go (u' := T1.setTop (mkF m 21 #[.val (.ref o0), .val (.int (3 : Int32)), .val (.ref b1)] [(.ref b1), (.int (0 : Int32)), (.ref o0)])) (fun _ ks_ => XS.aloadN X1.here hx rfl (hb hby d8_20) rfl rfl ks_) ?_
  refine go (u' := T1.setTop (mkF m 22 #[.val (.ref o0), .val (.int (3 : Int32)), .val (.ref b1)] [(.int (0 : Int32)), (.ref b1), (.int (0 : Int32)), (.ref o0)])) (fun _ ks_ => XS.iconst X1.here hx rfl (hb hby d8_21) ks_) ?_
  refine go (u' := T1.setTop (mkF m 23 #[.val (.ref o0), .val (.int (3 : Int32)), .val (.ref b1)] [(.ref o0), (.int (0 : Int32)), (.ref b1), (.int (0 : Int32)), (.ref o0)])) (fun _ ks_ => XS.aloadN X1.here hx rfl (hb hby d8_22) rfl rfl ks_) ?_
  refine go (u' := T1.setTop (mkF m 24 #[.val (.ref o0), .val (.int (3 : Int32)), .val (.ref b1)] [(.int (4 : Int32)), (.int (0 : Int32)), (.ref b1), (.int (0 : Int32)), (.ref o0)])) (own_alen X1 hx hZ e1 Fa2 (z := (4 : Int32)) rfl (f := (mkF m 23 #[.val (.ref o0), .val (.int (3 : Int32)), .val (.ref b1)] [(.ref o0), (.int (0 : Int32)), (.ref b1), (.int (0 : Int32)), (.ref o0)])) rfl rfl (hb hby d8_23)) ?_
  refine go (u' := T1.setTop (mkF m 25 #[.val (.ref o0), .val (.int (3 : Int32)), .val (.ref b1)] [(.int (3 : Int32)), (.int (4 : Int32)), (.int (0 : Int32)), (.ref b1), (.int (0 : Int32)), (.ref o0)])) (fun _ ks_ => XS.iloadN X1.here hx rfl (hb hby d8_24) rfl  ks_) ?_
  obtain ⟨_, _, ⟨T4, L4, k4, n4⟩, -, X4, ⟨Lc4, hQ4, l4, y4, z4⟩, st4⟩ := Jvm.LawKit.callS X1 hx (y := (⟨"java/lang/Math", "min", "(II)I"⟩ : MethodName)) hown (mvT hZ (ww hw 53 rfl)) (mvT hZ (ww hw 54 rfl)) (mvT hZ (ww hw 55 rfl)) (mvT hZ (ww hw 56 rfl)) (by decide) (backOf (W := 4) (rm9 l Z a0 hw [] (4 : Int32) (3 : Int32) h1 n0 Z1) hZ (ww hw 56 rfl) (ww hw 55 rfl) (by decide) (by decide)) (g := (mkF m 25 #[.val (.ref o0), .val (.int (3 : Int32)), .val (.ref b1)] [(.int (3 : Int32)), (.int (4 : Int32)), (.int (0 : Int32)), (.ref b1), (.int (0 : Int32)), (.ref o0)])) rfl (by rw [hml]; rfl) (argsL := [(.int (4 : Int32)), (.int (3 : Int32))]) (rest := [(.int (0 : Int32)), (.ref b1), (.int (0 : Int32)), (.ref o0)]) (lenOf pd__40_II_41_I rfl) rfl (by show 2 * 0 + _ ≤ _; exact Nat.le_of_eq rfl) (hb hby d8_25) (fun _ _ => ⟨rfl, e1, (by decide : 1 + 0 ≤ _), (by decide : 3 + 0 ≤ _)⟩)
  dsimp only [Pt.U, Pt.locs, Pt.cells, Pt.slots] at X4 l4 y4 z4 st4 hQ4
  subst l4 y4 z4
  obtain ⟨rfl, N4q, eq4⟩ := hQ4
  have N4 := Fr.app N0 N4q
  rw [show (if (3 : Int32) < (4 : Int32) then (3 : Int32) else (4 : Int32)) = (3 : Int32) from (by decide)] at st4
  refine go (u' := T4.setTop (mkF m 28 #[.val (.ref o0), .val (.int (3 : Int32)), .val (.ref b1)] [(.int (3 : Int32)), (.int (0 : Int32)), (.ref b1), (.int (0 : Int32)), (.ref o0)])) st4 ?_
  obtain ⟨T5, h5, L5, X5, e5, N5, Kq5, Fc5, st5⟩ := own_cp X4 hx hZ hown (ww hw 57 rfl) (ww hw 60 rfl) (ww hw 58 rfl) (ww hw 59 rfl) eq4 Fa2 Fa3 (nn := (3 : Int32)) (by decide) (by decide) rfl N4 g_b1 (f := (mkF m 28 #[.val (.ref o0), .val (.int (3 : Int32)), .val (.ref b1)] [(.int (3 : Int32)), (.int (0 : Int32)), (.ref b1), (.int (0 : Int32)), (.ref o0)])) rfl (by rw [hml]; rfl) rfl (hb hby d8_28) (by decide) (W := 0) (by show 2 * 0 + _ ≤ _; exact Nat.le_of_eq rfl) (by decide)
  have K5 : Keep h0 h5 [] := K1.trans Kq5 (allS (P := fun x => x ∈ [] ∨ h0.size ≤ x) (Or.inr sz_b1) all0)
  have Z5 : n0 ≤ h5.size := Nat.le_trans Z1 Kq5.1
  have Fa6 : PI Z h5 o0 .int 4 g := Fa2.keep Kq5 (ninS ne_o0_b1 nin0)
  refine go (u' := T5.setTop (mkF m 31 #[.val (.ref o0), .val (.int (3 : Int32)), .val (.ref b1)] [])) st5 ?_
  refine go (u' := T5.setTop (mkF m 32 #[.val (.ref o0), .val (.int (3 : Int32)), .val (.ref b1)] [(.ref b1)])) (fun _ ks_ => XS.aloadN X5.here hx rfl (hb hby d8_31) rfl rfl ks_) ?_
  rw [hG]
  refine gA X5 hx hlk hret rfl rfl (hb hby d8_32) ?_ (Nat.le_of_ble_eq_true rfl) (Nat.le_of_ble_eq_true rfl)
  show Q_rm8 Z o0 g h0 n0 (some (.ref b1)) T5.heap _
  rw [e5]
  exact ⟨b1, rfl, N5, K5, Fc5, sz_b1⟩
def cn1 (ef : Nat → Int32) : Nat → (Nat → Int32)
  | 0 => fun _ => 0
  | j + 1 => upd (cn1 ef j) (ef j + 1).toNatClampNeg (cn1 ef j (ef j + 1).toNatClampNeg + 1)
def ps2 (b : Nat → Int32) : Nat → (Nat → Int32)
  | 0 => b
  | j + 1 => upd (ps2 b j) (j + 1) (ps2 b j (j + 1) + ps2 b j j)
def N3 (b ef : Nat → Int32) : Nat → (Nat → Int32)
  | 0 => b
  | j + 1 => upd (N3 b ef j) (ef j).toNatClampNeg (N3 b ef j (ef j).toNatClampNeg + 1)
theorem own_cn1s {ef : Nat → Int32} {n t : Nat} (h : t + 1 ≤ n) : cn1 ef (n - t) = upd (cn1 ef (n - (t + 1))) (ef (n - (t + 1)) + 1).toNatClampNeg (cn1 ef (n - (t + 1)) (ef (n - (t + 1)) + 1).toNatClampNeg + 1) := by
  have e : n - t = (n - (t + 1)) + 1 := by omega
  rw [e]; rfl
theorem own_N3s {b ef : Nat → Int32} {n t : Nat} (h : t + 1 ≤ n) : N3 b ef (n - t) = upd (N3 b ef (n - (t + 1))) (ef (n - (t + 1))).toNatClampNeg (N3 b ef (n - (t + 1)) (ef (n - (t + 1))).toNatClampNeg + 1) := by
  have e : n - t = (n - (t + 1)) + 1 := by omega
  rw [e]; rfl
theorem own_c4 {c : Int32} (hc : 0 ≤ c.toInt ∧ c.toInt < 3) : 0 ≤ (c + 1).toInt ∧ (c + 1).toInt < (4 : Nat) := by
  have a1 := c_iadd c 1
  have a2 := rng32 (c + 1)
  have a3 : (1 : Int32).toInt = 1 := rfl
  rw [a3] at a1
  omega
theorem own_of {k : Int32} {n : Nat} (h : 0 ≤ k.toInt ∧ k.toInt < n) (hn : n < 2 ^ 31) : ∃ i : Fin n, k = Int32.ofNat i.val := by
  have := own_cl h.1
  refine ⟨⟨k.toNatClampNeg, by omega⟩, ?_⟩
  apply Int32.toInt_inj.mp
  rw [Int32.toInt_ofNat_of_lt (by show k.toNatClampNeg < _; omega)]
  show k.toInt = (k.toNatClampNeg : Int)
  omega
/-- what the counting gives, for up to three arcs among three activities -/
def Good (ef : Nat → Int32) (k : Nat) : Prop := (∀ j : Fin 3, j.val < k → 0 ≤ (N3 (ps2 (cn1 ef k) 3) ef j.val (ef j.val).toNatClampNeg).toInt ∧ (N3 (ps2 (cn1 ef k) 3) ef j.val (ef j.val).toNatClampNeg).toInt < k) ∧
  ∀ j : Fin 3, 0 ≤ (ps2 (cn1 ef k) 3 j.val).toInt ∧ (ps2 (cn1 ef k) 3 j.val).toInt ≤ (ps2 (cn1 ef k) 3 (j.val + 1)).toInt ∧ (ps2 (cn1 ef k) 3 (j.val + 1)).toInt ≤ k
theorem own_good0 (ef : Nat → Int32) : Good ef 0 := ⟨fun j h => absurd h (by omega), (by decide +kernel : ∀ j : Fin 3, 0 ≤ (ps2 (fun _ => 0) 3 j.val).toInt ∧ (ps2 (fun _ => 0) 3 j.val).toInt ≤ (ps2 (fun _ => 0) 3 (j.val + 1)).toInt ∧ (ps2 (fun _ => 0) 3 (j.val + 1)).toInt ≤ (0 : Nat))⟩
set_option maxRecDepth 100000 in
theorem own_dg1 : ∀ a : Fin 3, Good (own_l [Int32.ofNat a.val]) 1 := by unfold Good; decide +kernel
set_option maxRecDepth 100000 in
theorem own_dg2 : ∀ a b : Fin 3, Good (own_l [Int32.ofNat a.val, Int32.ofNat b.val]) 2 := by unfold Good; decide +kernel
set_option maxRecDepth 100000 in
theorem own_dg3 : ∀ a b c : Fin 3, Good (own_l [Int32.ofNat a.val, Int32.ofNat b.val, Int32.ofNat c.val]) 3 := by unfold Good; decide +kernel
theorem own_cn1c {f g : Nat → Int32} : ∀ k, (∀ i, i < k → f i = g i) → cn1 f k = cn1 g k
  | 0, _ => rfl
  | k + 1, h => by simp only [cn1]; rw [own_cn1c k (fun i hi => h i (by omega)), h k (by omega)]
theorem own_N3c {b f g : Nat → Int32} : ∀ k, (∀ i, i < k → f i = g i) → N3 b f k = N3 b g k
  | 0, _ => rfl
  | k + 1, h => by simp only [N3]; rw [own_N3c k (fun i hi => h i (by omega)), h k (by omega)]
theorem own_goodc {f g : Nat → Int32} {k : Nat} (h : ∀ i, i < k → f i = g i) (G : Good g k) : Good f k := by
  refine ⟨fun j hj => ?_, fun j => ?_⟩
  · rw [own_cn1c k h, own_N3c j.val (fun i hi => h i (by omega)), h j.val hj]; exact G.1 j hj
  · rw [own_cn1c k h]; exact G.2 j
theorem own_good {ef : Nat → Int32} {k : Nat} (hk : k ≤ 3) (he : ∀ i, i < k → 0 ≤ (ef i).toInt ∧ (ef i).toInt < 3) : Good ef k := by
  match k, hk, he with
  | 0, _, _ => exact own_good0 ef
  | 1, _, he =>
    obtain ⟨a, ha⟩ := own_of (n := 3) (he 0 (by omega)) (by decide)
    refine own_goodc (fun i hi => ?_) (own_dg1 a)
    match i, hi with
    | 0, _ => exact ha
  | 2, _, he =>
    obtain ⟨a, ha⟩ := own_of (n := 3) (he 0 (by omega)) (by decide)
    obtain ⟨b, hb⟩ := own_of (n := 3) (he 1 (by omega)) (by decide)
    refine own_goodc (fun i hi => ?_) (own_dg2 a b)
    match i, hi with
    | 0, _ => exact ha
    | 1, _ => exact hb
  | 3, _, he =>
    obtain ⟨a, ha⟩ := own_of (n := 3) (he 0 (by omega)) (by decide)
    obtain ⟨b, hb⟩ := own_of (n := 3) (he 1 (by omega)) (by decide)
    obtain ⟨c, hc⟩ := own_of (n := 3) (he 2 (by omega)) (by decide)
    refine own_goodc (fun i hi => ?_) (own_dg3 a b c)
    match i, hi with
    | 0, _ => exact ha
    | 1, _ => exact hb
    | 2, _ => exact hc
theorem pd__40__91_II_41__91_I : parseMethodDescriptor "([II)[I" = some ⟨[(.array .int), .int], some (.array .int)⟩ := by decide +kernel
theorem pn_com_example_traceweave_traceweave_pattern_NumberedPattern_Adjacency__init__7 : plainFor (⟨"com/example/traceweave/traceweave/pattern/NumberedPattern$Adjacency", "<init>", "(I[I[I)V"⟩ : MethodName) = true := by first | exact plainFor_of_name (by first | (simp [plainName, overriddenIn]; done) | decide +kernel) | decide +kernel
def Q_rm7 (Z : State) (o0 : Addr) (o2 : Addr) (o3 : Addr) (k : Nat) (ef : Nat → Int32) (tf : Nat → Int32) (h0 : Heap) (n0 : Nat) (v : Option Value) (h : Heap) (L : List Loc) : Prop := ∃ fi : Addr, ∃ ov : Value, v = none ∧ Fr n0 L ∧ Keep h0 h [o0] ∧ (Exa Z h o0 "com/example/traceweave/traceweave/pattern/NumberedPattern$Adjacency") ∧ (Fld Z h o0 "com/example/traceweave/traceweave/pattern/NumberedPattern$Adjacency" "first" "[I" (.ref fi)) ∧ (Fld Z h o0 "com/example/traceweave/traceweave/pattern/NumberedPattern$Adjacency" "otherEnd" "[I" ov) ∧ (PI Z h fi .int 4 (ps2 (cn1 ef k) 3)) ∧ (h0.size ≤ fi)
set_option maxRecDepth 65536 in
set_option maxHeartbeats 4000000 in
theorem ef_rm7 (m : MethodId) (o0 : Addr) (o2 : Addr) (o3 : Addr) : entryFrame m #[(.ref o0), (.int (3 : Int32)), (.ref o2), (.ref o3)] 8 = mkF m 0 #[.val (.ref o0), .val (.int (3 : Int32)), .val (.ref o2), .val (.ref o3), .unset, .unset, .unset, .unset] [] := by first | (simp [entryFrame, mkF, argsToLocals, Value.category, maxLocals]; done) | rfl
theorem d7_0 : decode prog_43_method_1_code 0 = .ok (.aload_n 0, 1) := by decide +kernel
theorem d7_1 : decode prog_43_method_1_code 1 = .ok (.invokespecial 1, 3) := by decide +kernel
theorem d7_4 : decode prog_43_method_1_code 4 = .ok (.aload_n 0, 1) := by decide +kernel
theorem d7_5 : decode prog_43_method_1_code 5 = .ok (.iload_n 1, 1) := by decide +kernel
theorem d7_6 : decode prog_43_method_1_code 6 = .ok (.iconst 1, 1) := by decide +kernel
theorem d7_7 : decode prog_43_method_1_code 7 = .ok (.iadd, 1) := by decide +kernel
theorem d7_8 : decode prog_43_method_1_code 8 = .ok (.newarray .int, 2) := by decide +kernel
theorem d7_10 : decode prog_43_method_1_code 10 = .ok (.putfield 7, 3) := by decide +kernel
theorem d7_13 : decode prog_43_method_1_code 13 = .ok (.aload_n 2, 1) := by decide +kernel
theorem d7_14 : decode prog_43_method_1_code 14 = .ok (.astore 4, 2) := by decide +kernel
theorem d7_16 : decode prog_43_method_1_code 16 = .ok (.aload 4, 2) := by decide +kernel
theorem d7_18 : decode prog_43_method_1_code 18 = .ok (.arraylength, 1) := by decide +kernel
theorem d7_19 : decode prog_43_method_1_code 19 = .ok (.istore 5, 2) := by decide +kernel
theorem d7_21 : decode prog_43_method_1_code 21 = .ok (.iconst 0, 1) := by decide +kernel
theorem d7_22 : decode prog_43_method_1_code 22 = .ok (.istore 6, 2) := by decide +kernel
theorem d7_24 : decode prog_43_method_1_code 24 = .ok (.iload 6, 2) := by decide +kernel
theorem d7_26 : decode prog_43_method_1_code 26 = .ok (.iload 5, 2) := by decide +kernel
theorem d7_28 : decode prog_43_method_1_code 28 = .ok (.if_icmp .ge 29, 3) := by decide +kernel
theorem d7_31 : decode prog_43_method_1_code 31 = .ok (.aload 4, 2) := by decide +kernel
theorem d7_33 : decode prog_43_method_1_code 33 = .ok (.iload 6, 2) := by decide +kernel
theorem d7_35 : decode prog_43_method_1_code 35 = .ok (.iaload, 1) := by decide +kernel
theorem d7_36 : decode prog_43_method_1_code 36 = .ok (.istore 7, 2) := by decide +kernel
theorem d7_38 : decode prog_43_method_1_code 38 = .ok (.aload_n 0, 1) := by decide +kernel
theorem d7_39 : decode prog_43_method_1_code 39 = .ok (.getfield 7, 3) := by decide +kernel
theorem d7_42 : decode prog_43_method_1_code 42 = .ok (.iload 7, 2) := by decide +kernel
theorem d7_44 : decode prog_43_method_1_code 44 = .ok (.iconst 1, 1) := by decide +kernel
theorem d7_45 : decode prog_43_method_1_code 45 = .ok (.iadd, 1) := by decide +kernel
theorem d7_46 : decode prog_43_method_1_code 46 = .ok (.dup2, 1) := by decide +kernel
theorem d7_47 : decode prog_43_method_1_code 47 = .ok (.iaload, 1) := by decide +kernel
theorem d7_48 : decode prog_43_method_1_code 48 = .ok (.iconst 1, 1) := by decide +kernel
theorem d7_49 : decode prog_43_method_1_code 49 = .ok (.iadd, 1) := by decide +kernel
theorem d7_50 : decode prog_43_method_1_code 50 = .ok (.iastore, 1) := by decide +kernel
theorem d7_51 : decode prog_43_method_1_code 51 = .ok (.iinc 6 1, 3) := by decide +kernel
theorem d7_54 : decode prog_43_method_1_code 54 = .ok (.goto (-30), 3) := by decide +kernel
theorem d7_57 : decode prog_43_method_1_code 57 = .ok (.iconst 0, 1) := by decide +kernel
theorem d7_58 : decode prog_43_method_1_code 58 = .ok (.istore 4, 2) := by decide +kernel
theorem d7_60 : decode prog_43_method_1_code 60 = .ok (.iload 4, 2) := by decide +kernel
theorem d7_62 : decode prog_43_method_1_code 62 = .ok (.iload_n 1, 1) := by decide +kernel
theorem d7_63 : decode prog_43_method_1_code 63 = .ok (.if_icmp .ge 28, 3) := by decide +kernel
theorem d7_66 : decode prog_43_method_1_code 66 = .ok (.aload_n 0, 1) := by decide +kernel
theorem d7_67 : decode prog_43_method_1_code 67 = .ok (.getfield 7, 3) := by decide +kernel
theorem d7_70 : decode prog_43_method_1_code 70 = .ok (.iload 4, 2) := by decide +kernel
theorem d7_72 : decode prog_43_method_1_code 72 = .ok (.iconst 1, 1) := by decide +kernel
theorem d7_73 : decode prog_43_method_1_code 73 = .ok (.iadd, 1) := by decide +kernel
theorem d7_74 : decode prog_43_method_1_code 74 = .ok (.dup2, 1) := by decide +kernel
theorem d7_75 : decode prog_43_method_1_code 75 = .ok (.iaload, 1) := by decide +kernel
theorem d7_76 : decode prog_43_method_1_code 76 = .ok (.aload_n 0, 1) := by decide +kernel
theorem d7_77 : decode prog_43_method_1_code 77 = .ok (.getfield 7, 3) := by decide +kernel
theorem d7_80 : decode prog_43_method_1_code 80 = .ok (.iload 4, 2) := by decide +kernel
theorem d7_82 : decode prog_43_method_1_code 82 = .ok (.iaload, 1) := by decide +kernel
theorem d7_83 : decode prog_43_method_1_code 83 = .ok (.iadd, 1) := by decide +kernel
theorem d7_84 : decode prog_43_method_1_code 84 = .ok (.iastore, 1) := by decide +kernel
theorem d7_85 : decode prog_43_method_1_code 85 = .ok (.iinc 4 1, 3) := by decide +kernel
theorem d7_88 : decode prog_43_method_1_code 88 = .ok (.goto (-28), 3) := by decide +kernel
theorem d7_91 : decode prog_43_method_1_code 91 = .ok (.aload_n 0, 1) := by decide +kernel
theorem d7_92 : decode prog_43_method_1_code 92 = .ok (.aload_n 2, 1) := by decide +kernel
theorem d7_93 : decode prog_43_method_1_code 93 = .ok (.arraylength, 1) := by decide +kernel
theorem d7_94 : decode prog_43_method_1_code 94 = .ok (.newarray .int, 2) := by decide +kernel
theorem d7_96 : decode prog_43_method_1_code 96 = .ok (.putfield 13, 3) := by decide +kernel
theorem d7_99 : decode prog_43_method_1_code 99 = .ok (.aload_n 0, 1) := by decide +kernel
theorem d7_100 : decode prog_43_method_1_code 100 = .ok (.getfield 7, 3) := by decide +kernel
theorem d7_103 : decode prog_43_method_1_code 103 = .ok (.iload_n 1, 1) := by decide +kernel
theorem d7_104 : decode prog_43_method_1_code 104 = .ok (.invokestatic 16, 3) := by decide +kernel
theorem d7_107 : decode prog_43_method_1_code 107 = .ok (.astore 4, 2) := by decide +kernel
theorem d7_109 : decode prog_43_method_1_code 109 = .ok (.iconst 0, 1) := by decide +kernel
theorem d7_110 : decode prog_43_method_1_code 110 = .ok (.istore 5, 2) := by decide +kernel
theorem d7_112 : decode prog_43_method_1_code 112 = .ok (.iload 5, 2) := by decide +kernel
theorem d7_114 : decode prog_43_method_1_code 114 = .ok (.aload_n 2, 1) := by decide +kernel
theorem d7_115 : decode prog_43_method_1_code 115 = .ok (.arraylength, 1) := by decide +kernel
theorem d7_116 : decode prog_43_method_1_code 116 = .ok (.if_icmp .ge 30, 3) := by decide +kernel
theorem d7_119 : decode prog_43_method_1_code 119 = .ok (.aload_n 0, 1) := by decide +kernel
theorem d7_120 : decode prog_43_method_1_code 120 = .ok (.getfield 13, 3) := by decide +kernel
theorem d7_123 : decode prog_43_method_1_code 123 = .ok (.aload 4, 2) := by decide +kernel
theorem d7_125 : decode prog_43_method_1_code 125 = .ok (.aload_n 2, 1) := by decide +kernel
theorem d7_126 : decode prog_43_method_1_code 126 = .ok (.iload 5, 2) := by decide +kernel
theorem d7_128 : decode prog_43_method_1_code 128 = .ok (.iaload, 1) := by decide +kernel
theorem d7_129 : decode prog_43_method_1_code 129 = .ok (.dup2, 1) := by decide +kernel
theorem d7_130 : decode prog_43_method_1_code 130 = .ok (.iaload, 1) := by decide +kernel
theorem d7_131 : decode prog_43_method_1_code 131 = .ok (.dup_x2, 1) := by decide +kernel
theorem d7_132 : decode prog_43_method_1_code 132 = .ok (.iconst 1, 1) := by decide +kernel
theorem d7_133 : decode prog_43_method_1_code 133 = .ok (.iadd, 1) := by decide +kernel
theorem d7_134 : decode prog_43_method_1_code 134 = .ok (.iastore, 1) := by decide +kernel
theorem d7_135 : decode prog_43_method_1_code 135 = .ok (.aload_n 3, 1) := by decide +kernel
theorem d7_136 : decode prog_43_method_1_code 136 = .ok (.iload 5, 2) := by decide +kernel
theorem d7_138 : decode prog_43_method_1_code 138 = .ok (.iaload, 1) := by decide +kernel
theorem d7_139 : decode prog_43_method_1_code 139 = .ok (.iastore, 1) := by decide +kernel
theorem d7_140 : decode prog_43_method_1_code 140 = .ok (.iinc 5 1, 3) := by decide +kernel
theorem d7_143 : decode prog_43_method_1_code 143 = .ok (.goto (-31), 3) := by decide +kernel
theorem d7_146 : decode prog_43_method_1_code 146 = .ok (.iconst 0, 1) := by decide +kernel
theorem d7_147 : decode prog_43_method_1_code 147 = .ok (.istore 5, 2) := by decide +kernel
theorem d7_149 : decode prog_43_method_1_code 149 = .ok (.iload 5, 2) := by decide +kernel
theorem d7_151 : decode prog_43_method_1_code 151 = .ok (.iload_n 1, 1) := by decide +kernel
theorem d7_152 : decode prog_43_method_1_code 152 = .ok (.if_icmp .ge 32, 3) := by decide +kernel
theorem d7_155 : decode prog_43_method_1_code 155 = .ok (.aload_n 0, 1) := by decide +kernel
theorem d7_156 : decode prog_43_method_1_code 156 = .ok (.getfield 13, 3) := by decide +kernel
theorem d7_159 : decode prog_43_method_1_code 159 = .ok (.aload_n 0, 1) := by decide +kernel
theorem d7_160 : decode prog_43_method_1_code 160 = .ok (.getfield 7, 3) := by decide +kernel
theorem d7_163 : decode prog_43_method_1_code 163 = .ok (.iload 5, 2) := by decide +kernel
theorem d7_165 : decode prog_43_method_1_code 165 = .ok (.iaload, 1) := by decide +kernel
theorem d7_166 : decode prog_43_method_1_code 166 = .ok (.aload_n 0, 1) := by decide +kernel
theorem d7_167 : decode prog_43_method_1_code 167 = .ok (.getfield 7, 3) := by decide +kernel
theorem d7_170 : decode prog_43_method_1_code 170 = .ok (.iload 5, 2) := by decide +kernel
theorem d7_172 : decode prog_43_method_1_code 172 = .ok (.iconst 1, 1) := by decide +kernel
theorem d7_173 : decode prog_43_method_1_code 173 = .ok (.iadd, 1) := by decide +kernel
theorem d7_174 : decode prog_43_method_1_code 174 = .ok (.iaload, 1) := by decide +kernel
theorem d7_175 : decode prog_43_method_1_code 175 = .ok (.invokestatic 22, 3) := by decide +kernel
theorem d7_178 : decode prog_43_method_1_code 178 = .ok (.iinc 5 1, 3) := by decide +kernel
theorem d7_181 : decode prog_43_method_1_code 181 = .ok (.goto (-32), 3) := by decide +kernel
theorem d7_184 : decode prog_43_method_1_code 184 = .ok (.return_, 1) := by decide +kernel
set_option maxRecDepth 65536 in
set_option maxHeartbeats 40000000 in
theorem rm7 (l : Launch) (Z : State) (a0 : Array Value) (hw : ∀ d ∈ tables_1, d.before a0 Z = true) (ws : List Jvm.Cond) (o0 : Addr) (o2 : Addr) (o3 : Addr) (k : Nat) (ef : Nat → Int32) (tf : Nat → Int32) (h0 : Heap) (n0 : Nat) (Z0 : n0 ≤ h0.size) (g_o0 : n0 ≤ o0) (ne_o2_o0 : o2 ≠ o0) (ne_o3_o0 : o3 ≠ o0) (F0 : Exa Z h0 o0 "com/example/traceweave/traceweave/pattern/NumberedPattern$Adjacency") (F1 : Fld Z h0 o0 "com/example/traceweave/traceweave/pattern/NumberedPattern$Adjacency" "first" "[I" .null) (F2 : Fld Z h0 o0 "com/example/traceweave/traceweave/pattern/NumberedPattern$Adjacency" "otherEnd" "[I" .null) (F3 : PI Z h0 o2 .int k ef) (F4 : PI Z h0 o3 .int k tf) (hk : k ≤ 3) (he : ∀ i, i < k → 0 ≤ (ef i).toInt ∧ (ef i).toInt < 3) :
    MetFree l (⟨"com/example/traceweave/traceweave/pattern/NumberedPattern$Adjacency", "<init>", "(I[I[I)V"⟩ : MethodName) (head1 (Jvm.Cond.code (⟨"com/example/traceweave/traceweave/pattern/NumberedPattern$Adjacency", "<init>", "(I[I[I)V"⟩ : MethodName) prog_43_method_1_code 8 none :: ws) ({ frames := 4, cells := 3, slots := 10, locals := 81 } : Room)) (fun a U => a = #[(.ref o0), (.int (3 : Int32)), (.ref o2), (.ref o3)] ∧ Z.Warmed39 U.vm ∧ U.heap = h0) (fun _ _ _ _ _ => True) (fun _ U o U' => ∃ v L, o = .returned v ∧ Q_rm7 Z o0 o2 o3 k ef tf h0 n0 v U'.heap L ∧ FrameEnd U o U' L ({ frames := 4, cells := 3, slots := 10, locals := 81 } : Room).cells ({ frames := 4, cells := 3, slots := 10, locals := 81 } : Room).slots) := by
  refine body pn_com_example_traceweave_traceweave_pattern_NumberedPattern_Adjacency__init__7 ?_
  intro p e s m below meth c s₁ hx hby hml hown hnm hret hlk hZ e0 X0
  replace hml : c.maxLocals = 8 := hml
  replace hown : s.vm.findClass "com/example/traceweave/traceweave/pattern/NumberedPattern$Adjacency" = some m.cls := hown
  replace hnm : meth.name = "<init>" := hnm
  replace hret : meth.sig.returnType = none := hret
  have N0 := Fr.nil n0
  rw [ef_rm7]
  obtain ⟨G, hG⟩ : ∃ G, G = End (Q_rm7 Z o0 o2 o3 k ef tf h0 n0) s ({ frames := 4, cells := 3, slots := 10, locals := 81 } : Room).cells ({ frames := 4, cells := 3, slots := 10, locals := 81 } : Room).slots := ⟨_, rfl⟩
  rw [← hG]
  refine go (u' := s₁.setTop (mkF m 1 #[.val (.ref o0), .val (.int (3 : Int32)), .val (.ref o2), .val (.ref o3), .unset, .unset, .unset, .unset] [(.ref o0)])) (fun _ ks_ => XS.aloadN X0.here hx rfl (hb hby d7_0) rfl rfl ks_) ?_
  obtain ⟨T1, X1, e1, st1⟩ := initO X0 hx hZ hown (ww hw 44 rfl) (ww hw 15 rfl) (ww hw 16 rfl) e0 (g := (mkF m 1 #[.val (.ref o0), .val (.int (3 : Int32)), .val (.ref o2), .val (.ref o3), .unset, .unset, .unset, .unset] [(.ref o0)])) rfl (by rw [hml]; rfl) rfl (hb hby d7_1) (by decide) (W := 0) (by show 2 * 0 + _ ≤ _; exact Nat.le_of_eq rfl) (by decide)
  refine go (u' := T1.setTop (mkF m 4 #[.val (.ref o0), .val (.int (3 : Int32)), .val (.ref o2), .val (.ref o3), .unset, .unset, .unset, .unset] [])) st1 ?_
  refine go (u' := T1.setTop (mkF m 5 #[.val (.ref o0), .val (.int (3 : Int32)), .val (.ref o2), .val (.ref o3), .unset, .unset, .unset, .unset] [(.ref o0)])) (fun _ ks_ => XS.aloadN X1.here hx rfl (hb hby d7_4) rfl rfl ks_) ?_
  refine go (u' := T1.setTop (mkF m 6 #[.val (.ref o0), .val (.int (3 : Int32)), .val (.ref o2), .val (.ref o3), .unset, .unset, .unset, .unset] [(.int (3 : Int32)), (.ref o0)])) (fun _ ks_ => XS.iloadN X1.here hx rfl (hb hby d7_5) rfl  ks_) ?_
  refine go (u' := T1.setTop (mkF m 7 #[.val (.ref o0), .val (.int (3 : Int32)), .val (.ref o2), .val (.ref o3), .unset, .unset, .unset, .unset] [(.int (1 : Int32)), (.int (3 : Int32)), (.ref o0)])) (fun _ ks_ => XS.iconst X1.here hx rfl (hb hby d7_6) ks_) ?_
  refine go (u' := T1.setTop (mkF m 8 #[.val (.ref o0), .val (.int (3 : Int32)), .val (.ref o2), .val (.ref o3), .unset, .unset, .unset, .unset] [(.int ((3 : Int32) + (1 : Int32))), (.ref o0)])) (fun _ ks_ => XS.iadd X1.here hx rfl (hb hby d7_7) rfl ks_) ?_
  obtain ⟨T2, h2, k2, X2, e2, E2, A2, st2⟩ := newP X1 hx hZ (ww hw 0 rfl) e1 (g := (mkF m 8 #[.val (.ref o0), .val (.int (3 : Int32)), .val (.ref o2), .val (.ref o3), .unset, .unset, .unset, .unset] [(.int ((3 : Int32) + (1 : Int32))), (.ref o0)])) rfl (hb hby d7_8) rfl (by decide) (cap := 4) (by decide) (by decide) (by decide) (by decide)
  obtain ⟨b2, g2⟩ : ∃ z, z = h0.size := ⟨_, rfl⟩
  rw [← g2] at A2 st2
  have ne_o0_b2 : o0 ≠ b2 := Nat.ne_of_lt (Nat.lt_of_lt_of_le F0.lt (Nat.le_of_eq g2.symm))
  have ne_o2_b2 : o2 ≠ b2 := Nat.ne_of_lt (Nat.lt_of_lt_of_le F3.lt (Nat.le_of_eq g2.symm))
  have ne_o3_b2 : o3 ≠ b2 := Nat.ne_of_lt (Nat.lt_of_lt_of_le F4.lt (Nat.le_of_eq g2.symm))
  have g_b2 : n0 ≤ b2 := Nat.le_trans Z0 (Nat.le_of_eq g2.symm)
  have sz_b2 : h0.size ≤ b2 := Nat.le_trans (Keep.refl h0 [o0]).1 (Nat.le_of_eq g2.symm)
  have K2 : Keep h0 h2 [o0] := (Keep.refl h0 [o0]).ext E2
  have Fa3 : Exa Z h2 o0 "com/example/traceweave/traceweave/pattern/NumberedPattern$Adjacency" := F0.ext E2
  have Fa4 : Fld Z h2 o0 "com/example/traceweave/traceweave/pattern/NumberedPattern$Adjacency" "first" "[I" .null := F1.ext E2
  have Fa5 : Fld Z h2 o0 "com/example/traceweave/traceweave/pattern/NumberedPattern$Adjacency" "otherEnd" "[I" .null := F2.ext E2
  have Fa6 : PI Z h2 o2 .int k ef := F3.ext E2
  have Fa7 : PI Z h2 o3 .int k tf := F4.ext E2
  have Z2 : n0 ≤ h2.size := Nat.le_trans Z0 E2.1
  have Fa8 : PI Z h2 b2 .int 4 (own_l [(0 : Int32), (0 : Int32), (0 : Int32), (0 : Int32)]) := PI.newL A2 (by decide) rfl rfl
  refine go (u' := T2.setTop (mkF m 10 #[.val (.ref o0), .val (.int (3 : Int32)), .val (.ref o2), .val (.ref o3), .unset, .unset, .unset, .unset] [(.ref b2), (.ref o0)])) st2 ?_
  obtain ⟨T9, h9, X9, e9, W9, st9⟩ := putF X2 hx hZ hown (host := "") (Or.inl (ww hw 45 rfl)) Via.refl e2 Fa4 Fa3 (Or.inr ⟨(ww hw 46 rfl), rfl, hnm⟩) (ww hw 39 rfl) (ty := (.array .int)) (by decide) rfl rfl (g := (mkF m 10 #[.val (.ref o0), .val (.int (3 : Int32)), .val (.ref o2), .val (.ref o3), .unset, .unset, .unset, .unset] [(.ref b2), (.ref o0)])) rfl rfl (hb hby d7_10)
  have N9 := Fr.snoc X9 N0 g_o0
  have K9 : Keep h0 h9 [o0] := K2.wr W9 (Or.inl (List.mem_of_getElem? (i := 0) rfl))
  have Z9 : n0 ≤ h9.size := Nat.le_trans Z2 (Keep.of_wr W9).1
  have Fa10 : Exa Z h9 o0 "com/example/traceweave/traceweave/pattern/NumberedPattern$Adjacency" := Fa3.wr W9
  have Fa11 : Fld Z h9 o0 "com/example/traceweave/traceweave/pattern/NumberedPattern$Adjacency" "otherEnd" "[I" .null := Fa5.other W9 (Or.inr (slot_ne (Or.inr (ww hw 48 rfl)) (Or.inr (ww hw 46 rfl)) (by decide) (t := (.array .int)) (t' := (.array .int)) (by decide) (by decide)))
  have Fa12 : PI Z h9 o2 .int k ef := Fa6.other W9 ne_o2_o0
  have Fa13 : PI Z h9 o3 .int k tf := Fa7.other W9 ne_o3_o0
  have Fa14 : PI Z h9 b2 .int 4 (own_l [(0 : Int32), (0 : Int32), (0 : Int32), (0 : Int32)]) := Fa8.other W9 (Ne.symm ne_o0_b2)
  have Fa15 : Fld Z h9 o0 "com/example/traceweave/traceweave/pattern/NumberedPattern$Adjacency" "first" "[I" (.ref b2) := Fa4.same W9
  refine go (u' := T9.setTop (mkF m 13 #[.val (.ref o0), .val (.int (3 : Int32)), .val (.ref o2), .val (.ref o3), .unset, .unset, .unset, .unset] [])) st9 ?_
  refine go (u' := T9.setTop (mkF m 14 #[.val (.ref o0), .val (.int (3 : Int32)), .val (.ref o2), .val (.ref o3), .unset, .unset, .unset, .unset] [(.ref o2)])) (fun _ ks_ => XS.aloadN X9.here hx rfl (hb hby d7_13) rfl rfl ks_) ?_
  refine go (u' := T9.setTop (mkF m 16 #[.val (.ref o0), .val (.int (3 : Int32)), .val (.ref o2), .val (.ref o3), .val (.ref o2), .unset, .unset, .unset] [])) (fun _ ks_ => XS.astore X9.here hx rfl (hb hby d7_14) rfl rfl (l' := #[.val (.ref o0), .val (.int (3 : Int32)), .val (.ref o2), .val (.ref o3), .val (.ref o2), .unset, .unset, .unset]) rfl ks_) ?_
  refine go (u' := T9.setTop (mkF m 18 #[.val (.ref o0), .val (.int (3 : Int32)), .val (.ref o2), .val (.ref o3), .val (.ref o2), .unset, .unset, .unset] [(.ref o2)])) (fun _ ks_ => XS.aload X9.here hx rfl (hb hby d7_16) rfl rfl ks_) ?_
  refine go (u' := T9.setTop (mkF m 19 #[.val (.ref o0), .val (.int (3 : Int32)), .val (.ref o2), .val (.ref o3), .val (.ref o2), .unset, .unset, .unset] [(.int k.toInt32)])) (own_alen X9 hx hZ e9 Fa12 (z := k.toInt32) rfl (f := (mkF m 18 #[.val (.ref o0), .val (.int (3 : Int32)), .val (.ref o2), .val (.ref o3), .val (.ref o2), .unset, .unset, .unset] [(.ref o2)])) rfl rfl (hb hby d7_18)) ?_
  refine go (u' := T9.setTop (mkF m 21 #[.val (.ref o0), .val (.int (3 : Int32)), .val (.ref o2), .val (.ref o3), .val (.ref o2), .val (.int k.toInt32), .unset, .unset] [])) (fun _ ks_ => XS.istore X9.here hx rfl (hb hby d7_19) rfl  (l' := #[.val (.ref o0), .val (.int (3 : Int32)), .val (.ref o2), .val (.ref o3), .val (.ref o2), .val (.int k.toInt32), .unset, .unset]) rfl ks_) ?_
  refine go (u' := T9.setTop (mkF m 22 #[.val (.ref o0), .val (.int (3 : Int32)), .val (.ref o2), .val (.ref o3), .val (.ref o2), .val (.int k.toInt32), .unset, .unset] [(.int (0 : Int32))])) (fun _ ks_ => XS.iconst X9.here hx rfl (hb hby d7_21) ks_) ?_
  refine go (u' := T9.setTop (mkF m 24 #[.val (.ref o0), .val (.int (3 : Int32)), .val (.ref o2), .val (.ref o3), .val (.ref o2), .val (.int k.toInt32), .val (.int (0 : Int32)), .unset] [])) (fun _ ks_ => XS.istore X9.here hx rfl (hb hby d7_22) rfl  (l' := #[.val (.ref o0), .val (.int (3 : Int32)), .val (.ref o2), .val (.ref o3), .val (.ref o2), .val (.int k.toInt32), .val (.int (0 : Int32)), .unset]) rfl ks_) ?_
  have Fa16 : PI Z h9 b2 .int 4 (cn1 ef 0) := Fa14.congr (fun i hi => by match i, hi with | 0, _ => rfl | 1, _ => rfl | 2, _ => rfl | 3, _ => rfl)
  have C24_1 : ∀ (t : Nat) (i : Int32) (fc : Nat → Int32) (s7 : Slot) (T17 : State) (h17 : Heap) (Ls17 : List Loc), (Stand p l e ({ frames := 4, cells := 3, slots := 10, locals := 81 } : Room) s m #[(.ref o0), (.int (3 : Int32)), (.ref o2), (.ref o3)] below meth c T17 Ls17 1 4) → (T17.heap = h17) → (Fr n0 Ls17) → (n0 ≤ h17.size) → (Keep h0 h17 [o0]) → (Exa Z h17 o0 "com/example/traceweave/traceweave/pattern/NumberedPattern$Adjacency") → (Fld Z h17 o0 "com/example/traceweave/traceweave/pattern/NumberedPattern$Adjacency" "first" "[I" (.ref b2)) → (Fld Z h17 o0 "com/example/traceweave/traceweave/pattern/NumberedPattern$Adjacency" "otherEnd" "[I" .null) → (PI Z h17 o2 .int k ef) → (PI Z h17 o3 .int k tf) → (PI Z h17 b2 .int 4 fc) → (0 ≤ i.toInt ∧ i.toInt + (t : Nat) = k) → (fc = cn1 ef (k - t)) → (One s7) → Go p.tables e below G (T17.setTop (mkF m 24 #[.val (.ref o0), .val (.int (3 : Int32)), .val (.ref o2), .val (.ref o3), .val (.ref o2), .val (.int k.toInt32), .val (.int i), s7] [])) := by
    intro t
    induction t with
    | zero =>
      intro i fc s7 T17 h17 Ls17 X17 e17 N17 Z17 K17 F17_0 F17_1 F17_2 F17_3 F17_4 F17_5 hi hfc hs7
      rw [Nat.sub_zero] at hfc
      refine go (u' := T17.setTop (mkF m 26 #[.val (.ref o0), .val (.int (3 : Int32)), .val (.ref o2), .val (.ref o3), .val (.ref o2), .val (.int k.toInt32), .val (.int i), s7] [(.int i)])) (fun _ ks_ => XS.iload X17.here hx rfl (hb hby d7_24) rfl  ks_) ?_
      refine go (u' := T17.setTop (mkF m 28 #[.val (.ref o0), .val (.int (3 : Int32)), .val (.ref o2), .val (.ref o3), .val (.ref o2), .val (.int k.toInt32), .val (.int i), s7] [(.int k.toInt32), (.int i)])) (fun _ ks_ => XS.iload X17.here hx rfl (hb hby d7_26) rfl  ks_) ?_
      refine go (u' := T17.setTop (mkF m 57 #[.val (.ref o0), .val (.int (3 : Int32)), .val (.ref o2), .val (.ref o3), .val (.ref o2), .val (.int k.toInt32), .val (.int i), s7] [])) (fun _ ks_ => XS.icmpYes X17.here hx rfl (pc0 := 28) (pc' := 57) rfl (hb hby d7_28) rfl (flt (show ¬ (i < k.toInt32) from (own_iz F3.bound hi))).2.1 (by decide) (by decide) ks_) ?_
      refine go (u' := T17.setTop (mkF m 58 #[.val (.ref o0), .val (.int (3 : Int32)), .val (.ref o2), .val (.ref o3), .val (.ref o2), .val (.int k.toInt32), .val (.int i), s7] [(.int (0 : Int32))])) (fun _ ks_ => XS.iconst X17.here hx rfl (hb hby d7_57) ks_) ?_
      refine go (u' := T17.setTop (mkF m 60 #[.val (.ref o0), .val (.int (3 : Int32)), .val (.ref o2), .val (.ref o3), .val (.int (0 : Int32)), .val (.int k.toInt32), .val (.int i), s7] [])) (fun _ ks_ => XS.istore X17.here hx rfl (hb hby d7_58) rfl  (l' := #[.val (.ref o0), .val (.int (3 : Int32)), .val (.ref o2), .val (.ref o3), .val (.int (0 : Int32)), .val (.int k.toInt32), .val (.int i), s7]) rfl ks_) ?_
      refine go (u' := T17.setTop (mkF m 62 #[.val (.ref o0), .val (.int (3 : Int32)), .val (.ref o2), .val (.ref o3), .val (.int (0 : Int32)), .val (.int k.toInt32), .val (.int i), s7] [(.int (0 : Int32))])) (fun _ ks_ => XS.iload X17.here hx rfl (hb hby d7_60) rfl  ks_) ?_
      refine go (u' := T17.setTop (mkF m 63 #[.val (.ref o0), .val (.int (3 : Int32)), .val (.ref o2), .val (.ref o3), .val (.int (0 : Int32)), .val (.int k.toInt32), .val (.int i), s7] [(.int (3 : Int32)), (.int (0 : Int32))])) (fun _ ks_ => XS.iloadN X17.here hx rfl (hb hby d7_62) rfl  ks_) ?_
      refine go (u' := T17.setTop (mkF m 66 #[.val (.ref o0), .val (.int (3 : Int32)), .val (.ref o2), .val (.ref o3), .val (.int (0 : Int32)), .val (.int k.toInt32), .val (.int i), s7] [])) (fun _ ks_ => XS.icmpNo X17.here hx rfl (hb hby d7_63) rfl (tlt (show (0 : Int32) < (3 : Int32) from (by decide))).2.1 ks_) ?_
      refine go (u' := T17.setTop (mkF m 67 #[.val (.ref o0), .val (.int (3 : Int32)), .val (.ref o2), .val (.ref o3), .val (.int (0 : Int32)), .val (.int k.toInt32), .val (.int i), s7] [(.ref o0)])) (fun _ ks_ => XS.aloadN X17.here hx rfl (hb hby d7_66) rfl rfl ks_) ?_
      obtain ⟨T18, X18, e18, st18⟩ := getF X17 hx hZ hown (host := "") (Or.inl (ww hw 45 rfl)) Via.refl e17 F17_1 (g := (mkF m 67 #[.val (.ref o0), .val (.int (3 : Int32)), .val (.ref o2), .val (.ref o3), .val (.int (0 : Int32)), .val (.int k.toInt32), .val (.int i), s7] [(.ref o0)])) rfl rfl (hb hby d7_67)
      refine go (u' := T18.setTop (mkF m 70 #[.val (.ref o0), .val (.int (3 : Int32)), .val (.ref o2), .val (.ref o3), .val (.int (0 : Int32)), .val (.int k.toInt32), .val (.int i), s7] [(.ref b2)])) st18 ?_
      refine go (u' := T18.setTop (mkF m 72 #[.val (.ref o0), .val (.int (3 : Int32)), .val (.ref o2), .val (.ref o3), .val (.int (0 : Int32)), .val (.int k.toInt32), .val (.int i), s7] [(.int (0 : Int32)), (.ref b2)])) (fun _ ks_ => XS.iload X18.here hx rfl (hb hby d7_70) rfl  ks_) ?_
      refine go (u' := T18.setTop (mkF m 73 #[.val (.ref o0), .val (.int (3 : Int32)), .val (.ref o2), .val (.ref o3), .val (.int (0 : Int32)), .val (.int k.toInt32), .val (.int i), s7] [(.int (1 : Int32)), (.int (0 : Int32)), (.ref b2)])) (fun _ ks_ => XS.iconst X18.here hx rfl (hb hby d7_72) ks_) ?_
      refine go (u' := T18.setTop (mkF m 74 #[.val (.ref o0), .val (.int (3 : Int32)), .val (.ref o2), .val (.ref o3), .val (.int (0 : Int32)), .val (.int k.toInt32), .val (.int i), s7] [(.int ((0 : Int32) + (1 : Int32))), (.ref b2)])) (fun _ ks_ => XS.iadd X18.here hx rfl (hb hby d7_73) rfl ks_) ?_
      refine go (u' := T18.setTop (mkF m 75 #[.val (.ref o0), .val (.int (3 : Int32)), .val (.ref o2), .val (.ref o3), .val (.int (0 : Int32)), .val (.int k.toInt32), .val (.int i), s7] [(.int ((0 : Int32) + (1 : Int32))), (.ref b2), (.int ((0 : Int32) + (1 : Int32))), (.ref b2)])) (fun _ ks_ => Jvm.Free.XT.dup2 X18.here hx rfl (hb hby d7_74) rfl rfl rfl ks_) ?_
      refine go (u' := T18.setTop (mkF m 76 #[.val (.ref o0), .val (.int (3 : Int32)), .val (.ref o2), .val (.ref o3), .val (.int (0 : Int32)), .val (.int k.toInt32), .val (.int i), s7] [(.int (fc ((0 : Int32) + (1 : Int32)).toNatClampNeg)), (.int ((0 : Int32) + (1 : Int32))), (.ref b2)])) (own_iaload X18 hx hZ e18 F17_5 (j := ((0 : Int32) + (1 : Int32))) (v := (fc ((0 : Int32) + (1 : Int32)).toNatClampNeg)) (by decide) (by decide) rfl (f := (mkF m 75 #[.val (.ref o0), .val (.int (3 : Int32)), .val (.ref o2), .val (.ref o3), .val (.int (0 : Int32)), .val (.int k.toInt32), .val (.int i), s7] [(.int ((0 : Int32) + (1 : Int32))), (.ref b2), (.int ((0 : Int32) + (1 : Int32))), (.ref b2)])) rfl rfl (hb hby d7_75)) ?_
      refine go (u' := T18.setTop (mkF m 77 #[.val (.ref o0), .val (.int (3 : Int32)), .val (.ref o2), .val (.ref o3), .val (.int (0 : Int32)), .val (.int k.toInt32), .val (.int i), s7] [(.ref o0), (.int (fc ((0 : Int32) + (1 : Int32)).toNatClampNeg)), (.int ((0 : Int32) + (1 : Int32))), (.ref b2)])) (fun _ ks_ => XS.aloadN X18.here hx rfl (hb hby d7_76) rfl rfl ks_) ?_
      obtain ⟨T19, X19, e19, st19⟩ := getF X18 hx hZ hown (host := "") (Or.inl (ww hw 45 rfl)) Via.refl e18 F17_1 (g := (mkF m 77 #[.val (.ref o0), .val (.int (3 : Int32)), .val (.ref o2), .val (.ref o3), .val (.int (0 : Int32)), .val (.int k.toInt32), .val (.int i), s7] [(.ref o0), (.int (fc ((0 : Int32) + (1 : Int32)).toNatClampNeg)), (.int ((0 : Int32) + (1 : Int32))), (.ref b2)])) rfl rfl (hb hby d7_77)
      refine go (u' := T19.setTop (mkF m 80 #[.val (.ref o0), .val (.int (3 : Int32)), .val (.ref o2), .val (.ref o3), .val (.int (0 : Int32)), .val (.int k.toInt32), .val (.int i), s7] [(.ref b2), (.int (fc ((0 : Int32) + (1 : Int32)).toNatClampNeg)), (.int ((0 : Int32) + (1 : Int32))), (.ref b2)])) st19 ?_
      refine go (u' := T19.setTop (mkF m 82 #[.val (.ref o0), .val (.int (3 : Int32)), .val (.ref o2), .val (.ref o3), .val (.int (0 : Int32)), .val (.int k.toInt32), .val (.int i), s7] [(.int (0 : Int32)), (.ref b2), (.int (fc ((0 : Int32) + (1 : Int32)).toNatClampNeg)), (.int ((0 : Int32) + (1 : Int32))), (.ref b2)])) (fun _ ks_ => XS.iload X19.here hx rfl (hb hby d7_80) rfl  ks_) ?_
      refine go (u' := T19.setTop (mkF m 83 #[.val (.ref o0), .val (.int (3 : Int32)), .val (.ref o2), .val (.ref o3), .val (.int (0 : Int32)), .val (.int k.toInt32), .val (.int i), s7] [(.int (fc (0 : Int32).toNatClampNeg)), (.int (fc ((0 : Int32) + (1 : Int32)).toNatClampNeg)), (.int ((0 : Int32) + (1 : Int32))), (.ref b2)])) (own_iaload X19 hx hZ e19 F17_5 (j := (0 : Int32)) (v := (fc (0 : Int32).toNatClampNeg)) (by decide) (by decide) rfl (f := (mkF m 82 #[.val (.ref o0), .val (.int (3 : Int32)), .val (.ref o2), .val (.ref o3), .val (.int (0 : Int32)), .val (.int k.toInt32), .val (.int i), s7] [(.int (0 : Int32)), (.ref b2), (.int (fc ((0 : Int32) + (1 : Int32)).toNatClampNeg)), (.int ((0 : Int32) + (1 : Int32))), (.ref b2)])) rfl rfl (hb hby d7_82)) ?_
      refine go (u' := T19.setTop (mkF m 84 #[.val (.ref o0), .val (.int (3 : Int32)), .val (.ref o2), .val (.ref o3), .val (.int (0 : Int32)), .val (.int k.toInt32), .val (.int i), s7] [(.int ((fc ((0 : Int32) + (1 : Int32)).toNatClampNeg) + (fc (0 : Int32).toNatClampNeg))), (.int ((0 : Int32) + (1 : Int32))), (.ref b2)])) (fun _ ks_ => XS.iadd X19.here hx rfl (hb hby d7_83) rfl ks_) ?_
      obtain ⟨T20, h20, X20, e20, W20, st20⟩ := own_iastore X19 hx hZ e19 F17_5 (j := ((0 : Int32) + (1 : Int32))) (x := ((fc ((0 : Int32) + (1 : Int32)).toNatClampNeg) + (fc (0 : Int32).toNatClampNeg)))  (by decide) (by decide) (f := (mkF m 84 #[.val (.ref o0), .val (.int (3 : Int32)), .val (.ref o2), .val (.ref o3), .val (.int (0 : Int32)), .val (.int k.toInt32), .val (.int i), s7] [(.int ((fc ((0 : Int32) + (1 : Int32)).toNatClampNeg) + (fc (0 : Int32).toNatClampNeg))), (.int ((0 : Int32) + (1 : Int32))), (.ref b2)])) rfl rfl (hb hby d7_84)
      have N20 := Fr.snoc X20 N17 g_b2
      have K20 : Keep h0 h20 [o0] := K17.wr W20 (Or.inr sz_b2)
      have Z20 : n0 ≤ h20.size := Nat.le_trans Z17 (Keep.of_wr W20).1
      have Fa21 : Exa Z h20 o0 "com/example/traceweave/traceweave/pattern/NumberedPattern$Adjacency" := F17_0.wr W20
      have Fa22 : Fld Z h20 o0 "com/example/traceweave/traceweave/pattern/NumberedPattern$Adjacency" "first" "[I" (.ref b2) := F17_1.other W20 (Or.inl ne_o0_b2)
      have Fa23 : Fld Z h20 o0 "com/example/traceweave/traceweave/pattern/NumberedPattern$Adjacency" "otherEnd" "[I" .null := F17_2.other W20 (Or.inl ne_o0_b2)
      have Fa24 : PI Z h20 o2 .int k ef := F17_3.other W20 ne_o2_b2
      have Fa25 : PI Z h20 o3 .int k tf := F17_4.other W20 ne_o3_b2
      have Fa26 : PI Z h20 b2 .int 4 (upd fc (((0 : Int32) + (1 : Int32))).toNatClampNeg ((fc ((0 : Int32) + (1 : Int32)).toNatClampNeg) + (fc (0 : Int32).toNatClampNeg))) := F17_5.set (by decide) W20
      refine go (u' := T20.setTop (mkF m 85 #[.val (.ref o0), .val (.int (3 : Int32)), .val (.ref o2), .val (.ref o3), .val (.int (0 : Int32)), .val (.int k.toInt32), .val (.int i), s7] [])) st20 ?_
      refine go (u' := T20.setTop (mkF m 88 #[.val (.ref o0), .val (.int (3 : Int32)), .val (.ref o2), .val (.ref o3), .val (.int ((0 : Int32) + (1 : Int32))), .val (.int k.toInt32), .val (.int i), s7] [])) (fun _ ks_ => XS.iinc X20.here hx rfl (hb hby d7_85) rfl (l' := #[.val (.ref o0), .val (.int (3 : Int32)), .val (.ref o2), .val (.ref o3), .val (.int ((0 : Int32) + (1 : Int32))), .val (.int k.toInt32), .val (.int i), s7]) rfl ks_) ?_
      refine go (u' := T20.setTop (mkF m 60 #[.val (.ref o0), .val (.int (3 : Int32)), .val (.ref o2), .val (.ref o3), .val (.int ((0 : Int32) + (1 : Int32))), .val (.int k.toInt32), .val (.int i), s7] [])) (fun _ ks_ => XS.goto X20.here hx rfl (pc0 := 88) (pc' := 60) rfl (hb hby d7_88) (by decide) (by decide) ks_) ?_
      refine go (u' := T20.setTop (mkF m 62 #[.val (.ref o0), .val (.int (3 : Int32)), .val (.ref o2), .val (.ref o3), .val (.int ((0 : Int32) + (1 : Int32))), .val (.int k.toInt32), .val (.int i), s7] [(.int ((0 : Int32) + (1 : Int32)))])) (fun _ ks_ => XS.iload X20.here hx rfl (hb hby d7_60) rfl  ks_) ?_
      refine go (u' := T20.setTop (mkF m 63 #[.val (.ref o0), .val (.int (3 : Int32)), .val (.ref o2), .val (.ref o3), .val (.int ((0 : Int32) + (1 : Int32))), .val (.int k.toInt32), .val (.int i), s7] [(.int (3 : Int32)), (.int ((0 : Int32) + (1 : Int32)))])) (fun _ ks_ => XS.iloadN X20.here hx rfl (hb hby d7_62) rfl  ks_) ?_
      refine go (u' := T20.setTop (mkF m 66 #[.val (.ref o0), .val (.int (3 : Int32)), .val (.ref o2), .val (.ref o3), .val (.int ((0 : Int32) + (1 : Int32))), .val (.int k.toInt32), .val (.int i), s7] [])) (fun _ ks_ => XS.icmpNo X20.here hx rfl (hb hby d7_63) rfl (tlt (show ((0 : Int32) + (1 : Int32)) < (3 : Int32) from (by decide))).2.1 ks_) ?_
      refine go (u' := T20.setTop (mkF m 67 #[.val (.ref o0), .val (.int (3 : Int32)), .val (.ref o2), .val (.ref o3), .val (.int ((0 : Int32) + (1 : Int32))), .val (.int k.toInt32), .val (.int i), s7] [(.ref o0)])) (fun _ ks_ => XS.aloadN X20.here hx rfl (hb hby d7_66) rfl rfl ks_) ?_
      obtain ⟨T27, X27, e27, st27⟩ := getF X20 hx hZ hown (host := "") (Or.inl (ww hw 45 rfl)) Via.refl e20 Fa22 (g := (mkF m 67 #[.val (.ref o0), .val (.int (3 : Int32)), .val (.ref o2), .val (.ref o3), .val (.int ((0 : Int32) + (1 : Int32))), .val (.int k.toInt32), .val (.int i), s7] [(.ref o0)])) rfl rfl (hb hby d7_67)
      refine go (u' := T27.setTop (mkF m 70 #[.val (.ref o0), .val (.int (3 : Int32)), .val (.ref o2), .val (.ref o3), .val (.int ((0 : Int32) + (1 : Int32))), .val (.int k.toInt32), .val (.int i), s7] [(.ref b2)])) st27 ?_
      refine go (u' := T27.setTop (mkF m 72 #[.val (.ref o0), .val (.int (3 : Int32)), .val (.ref o2), .val (.ref o3), .val (.int ((0 : Int32) + (1 : Int32))), .val (.int k.toInt32), .val (.int i), s7] [(.int ((0 : Int32) + (1 : Int32))), (.ref b2)])) (fun _ ks_ => XS.iload X27.here hx rfl (hb hby d7_70) rfl  ks_) ?_
      refine go (u' := T27.setTop (mkF m 73 #[.val (.ref o0), .val (.int (3 : Int32)), .val (.ref o2), .val (.ref o3), .val (.int ((0 : Int32) + (1 : Int32))), .val (.int k.toInt32), .val (.int i), s7] [(.int (1 : Int32)), (.int ((0 : Int32) + (1 : Int32))), (.ref b2)])) (fun _ ks_ => XS.iconst X27.here hx rfl (hb hby d7_72) ks_) ?_
      refine go (u' := T27.setTop (mkF m 74 #[.val (.ref o0), .val (.int (3 : Int32)), .val (.ref o2), .val (.ref o3), .val (.int ((0 : Int32) + (1 : Int32))), .val (.int k.toInt32), .val (.int i), s7] [(.int (((0 : Int32) + (1 : Int32)) + (1 : Int32))), (.ref b2)])) (fun _ ks_ => XS.iadd X27.here hx rfl (hb hby d7_73) rfl ks_) ?_
      refine go (u' := T27.setTop (mkF m 75 #[.val (.ref o0), .val (.int (3 : Int32)), .val (.ref o2), .val (.ref o3), .val (.int ((0 : Int32) + (1 : Int32))), .val (.int k.toInt32), .val (.int i), s7] [(.int (((0 : Int32) + (1 : Int32)) + (1 : Int32))), (.ref b2), (.int (((0 : Int32) + (1 : Int32)) + (1 : Int32))), (.ref b2)])) (fun _ ks_ => Jvm.Free.XT.dup2 X27.here hx rfl (hb hby d7_74) rfl rfl rfl ks_) ?_
      refine go (u' := T27.setTop (mkF m 76 #[.val (.ref o0), .val (.int (3 : Int32)), .val (.ref o2), .val (.ref o3), .val (.int ((0 : Int32) + (1 : Int32))), .val (.int k.toInt32), .val (.int i), s7] [(.int ((upd fc (((0 : Int32) + (1 : Int32))).toNatClampNeg ((fc ((0 : Int32) + (1 : Int32)).toNatClampNeg) + (fc (0 : Int32).toNatClampNeg))) (((0 : Int32) + (1 : Int32)) + (1 : Int32)).toNatClampNeg)), (.int (((0 : Int32) + (1 : Int32)) + (1 : Int32))), (.ref b2)])) (own_iaload X27 hx hZ e27 Fa26 (j := (((0 : Int32) + (1 : Int32)) + (1 : Int32))) (v := ((upd fc (((0 : Int32) + (1 : Int32))).toNatClampNeg ((fc ((0 : Int32) + (1 : Int32)).toNatClampNeg) + (fc (0 : Int32).toNatClampNeg))) (((0 : Int32) + (1 : Int32)) + (1 : Int32)).toNatClampNeg)) (by decide) (by decide) rfl (f := (mkF m 75 #[.val (.ref o0), .val (.int (3 : Int32)), .val (.ref o2), .val (.ref o3), .val (.int ((0 : Int32) + (1 : Int32))), .val (.int k.toInt32), .val (.int i), s7] [(.int (((0 : Int32) + (1 : Int32)) + (1 : Int32))), (.ref b2), (.int (((0 : Int32) + (1 : Int32)) + (1 : Int32))), (.ref b2)])) rfl rfl (hb hby d7_75)) ?_
      refine go (u' := T27.setTop (mkF m 77 #[.val (.ref o0), .val (.int (3 : Int32)), .val (.ref o2), .val (.ref o3), .val (.int ((0 : Int32) + (1 : Int32))), .val (.int k.toInt32), .val (.int i), s7] [(.ref o0), (.int ((upd fc (((0 : Int32) + (1 : Int32))).toNatClampNeg ((fc ((0 : Int32) + (1 : Int32)).toNatClampNeg) + (fc (0 : Int32).toNatClampNeg))) (((0 : Int32) + (1 : Int32)) + (1 : Int32)).toNatClampNeg)), (.int (((0 : Int32) + (1 : Int32)) + (1 : Int32))), (.ref b2)])) (fun _ ks_ => XS.aloadN X27.here hx rfl (hb hby d7_76) rfl rfl ks_) ?_
      obtain ⟨T28, X28, e28, st28⟩ := getF X27 hx hZ hown (host := "") (Or.inl (ww hw 45 rfl)) Via.refl e27 Fa22 (g := (mkF m 77 #[.val (.ref o0), .val (.int (3 : Int32)), .val (.ref o2), .val (.ref o3), .val (.int ((0 : Int32) + (1 : Int32))), .val (.int k.toInt32), .val (.int i), s7] [(.ref o0), (.int ((upd fc (((0 : Int32) + (1 : Int32))).toNatClampNeg ((fc ((0 : Int32) + (1 : Int32)).toNatClampNeg) + (fc (0 : Int32).toNatClampNeg))) (((0 : Int32) + (1 : Int32)) + (1 : Int32)).toNatClampNeg)), (.int (((0 : Int32) + (1 : Int32)) + (1 : Int32))), (.ref b2)])) rfl rfl (hb hby d7_77)
      refine go (u' := T28.setTop (mkF m 80 #[.val (.ref o0), .val (.int (3 : Int32)), .val (.ref o2), .val (.ref o3), .val (.int ((0 : Int32) + (1 : Int32))), .val (.int k.toInt32), .val (.int i), s7] [(.ref b2), (.int ((upd fc (((0 : Int32) + (1 : Int32))).toNatClampNeg ((fc ((0 : Int32) + (1 : Int32)).toNatClampNeg) + (fc (0 : Int32).toNatClampNeg))) (((0 : Int32) + (1 : Int32)) + (1 : Int32)).toNatClampNeg)), (.int (((0 : Int32) + (1 : Int32)) + (1 : Int32))), (.ref b2)])) st28 ?_
      refine go (u' := T28.setTop (mkF m 82 #[.val (.ref o0), .val (.int (3 : Int32)), .val (.ref o2), .val (.ref o3), .val (.int ((0 : Int32) + (1 : Int32))), .val (.int k.toInt32), .val (.int i), s7] [(.int ((0 : Int32) + (1 : Int32))), (.ref b2), (.int ((upd fc (((0 : Int32) + (1 : Int32))).toNatClampNeg ((fc ((0 : Int32) + (1 : Int32)).toNatClampNeg) + (fc (0 : Int32).toNatClampNeg))) (((0 : Int32) + (1 : Int32)) + (1 : Int32)).toNatClampNeg)), (.int (((0 : Int32) + (1 : Int32)) + (1 : Int32))), (.ref b2)])) (fun _ ks_ => XS.iload X28.here hx rfl (hb hby d7_80) rfl  ks_) ?_
      refine go (u' := T28.setTop (mkF m 83 #[.val (.ref o0), .val (.int (3 : Int32)), .val (.ref o2), .val (.ref o3), .val (.int ((0 : Int32) + (1 : Int32))), .val (.int k.toInt32), .val (.int i), s7] [(.int ((upd fc (((0 : Int32) + (1 : Int32))).toNatClampNeg ((fc ((0 : Int32) + (1 : Int32)).toNatClampNeg) + (fc (0 : Int32).toNatClampNeg))) ((0 : Int32) + (1 : Int32)).toNatClampNeg)), (.int ((upd fc (((0 : Int32) + (1 : Int32))).toNatClampNeg ((fc ((0 : Int32) + (1 : Int32)).toNatClampNeg) + (fc (0 : Int32).toNatClampNeg))) (((0 : Int32) + (1 : Int32)) + (1 : Int32)).toNatClampNeg)), (.int (((0 : Int32) + (1 : Int32)) + (1 : Int32))), (.ref b2)])) (own_iaload X28 hx hZ e28 Fa26 (j := ((0 : Int32) + (1 : Int32))) (v := ((upd fc (((0 : Int32) + (1 : Int32))).toNatClampNeg ((fc ((0 : Int32) + (1 : Int32)).toNatClampNeg) + (fc (0 : Int32).toNatClampNeg))) ((0 : Int32) + (1 : Int32)).toNatClampNeg)) (by decide) (by decide) rfl (f := (mkF m 82 #[.val (.ref o0), .val (.int (3 : Int32)), .val (.ref o2), .val (.ref o3), .val (.int ((0 : Int32) + (1 : Int32))), .val (.int k.toInt32), .val (.int i), s7] [(.int ((0 : Int32) + (1 : Int32))), (.ref b2), (.int ((upd fc (((0 : Int32) + (1 : Int32))).toNatClampNeg ((fc ((0 : Int32) + (1 : Int32)).toNatClampNeg) + (fc (0 : Int32).toNatClampNeg))) (((0 : Int32) + (1 : Int32)) + (1 : Int32)).toNatClampNeg)), (.int (((0 : Int32) + (1 : Int32)) + (1 : Int32))), (.ref b2)])) rfl rfl (hb hby d7_82)) ?_
      refine go (u' := T28.setTop (mkF m 84 #[.val (.ref o0), .val (.int (3 : Int32)), .val (.ref o2), .val (.ref o3), .val (.int ((0 : Int32) + (1 : Int32))), .val (.int k.toInt32), .val (.int i), s7] [(.int (((upd fc (((0 : Int32) + (1 : Int32))).toNatClampNeg ((fc ((0 : Int32) + (1 : Int32)).toNatClampNeg) + (fc (0 : Int32).toNatClampNeg))) (((0 : Int32) + (1 : Int32)) + (1 : Int32)).toNatClampNeg) + ((upd fc (((0 : Int32) + (1 : Int32))).toNatClampNeg ((fc ((0 : Int32) + (1 : Int32)).toNatClampNeg) + (fc (0 : Int32).toNatClampNeg))) ((0 : Int32) + (1 : Int32)).toNatClampNeg))), (.int (((0 : Int32) + (1 : Int32)) + (1 : Int32))), (.ref b2)])) (fun _ ks_ => XS.iadd X28.here hx rfl (hb hby d7_83) rfl ks_) ?_
      obtain ⟨T29, h29, X29, e29, W29, st29⟩ := own_iastore X28 hx hZ e28 Fa26 (j := (((0 : Int32) + (1 : Int32)) + (1 : Int32))) (x := (((upd fc (((0 : Int32) + (1 : Int32))).toNatClampNeg ((fc ((0 : Int32) + (1 : Int32)).toNatClampNeg) + (fc (0 : Int32).toNatClampNeg))) (((0 : Int32) + (1 : Int32)) + (1 : Int32)).toNatClampNeg) + ((upd fc (((0 : Int32) + (1 : Int32))).toNatClampNeg ((fc ((0 : Int32) + (1 : Int32)).toNatClampNeg) + (fc (0 : Int32).toNatClampNeg))) ((0 : Int32) + (1 : Int32)).toNatClampNeg)))  (by decide) (by decide) (f := (mkF m 84 #[.val (.ref o0), .val (.int (3 : Int32)), .val (.ref o2), .val (.ref o3), .val (.int ((0 : Int32) + (1 : Int32))), .val (.int k.toInt32), .val (.int i), s7] [(.int (((upd fc (((0 : Int32) + (1 : Int32))).toNatClampNeg ((fc ((0 : Int32) + (1 : Int32)).toNatClampNeg) + (fc (0 : Int32).toNatClampNeg))) (((0 : Int32) + (1 : Int32)) + (1 : Int32)).toNatClampNeg) + ((upd fc (((0 : Int32) + (1 : Int32))).toNatClampNeg ((fc ((0 : Int32) + (1 : Int32)).toNatClampNeg) + (fc (0 : Int32).toNatClampNeg))) ((0 : Int32) + (1 : Int32)).toNatClampNeg))), (.int (((0 : Int32) + (1 : Int32)) + (1 : Int32))), (.ref b2)])) rfl rfl (hb hby d7_84)
      have N29 := Fr.snoc X29 N20 g_b2
      have K29 : Keep h0 h29 [o0] := K20.wr W29 (Or.inr sz_b2)
      have Z29 : n0 ≤ h29.size := Nat.le_trans Z20 (Keep.of_wr W29).1
      have Fa30 : Exa Z h29 o0 "com/example/traceweave/traceweave/pattern/NumberedPattern$Adjacency" := Fa21.wr W29
      have Fa31 : Fld Z h29 o0 "com/example/traceweave/traceweave/pattern/NumberedPattern$Adjacency" "first" "[I" (.ref b2) := Fa22.other W29 (Or.inl ne_o0_b2)
      have Fa32 : Fld Z h29 o0 "com/example/traceweave/traceweave/pattern/NumberedPattern$Adjacency" "otherEnd" "[I" .null := Fa23.other W29 (Or.inl ne_o0_b2)
      have Fa33 : PI Z h29 o2 .int k ef := Fa24.other W29 ne_o2_b2
      have Fa34 : PI Z h29 o3 .int k tf := Fa25.other W29 ne_o3_b2
      have Fa35 : PI Z h29 b2 .int 4 (upd (upd fc (((0 : Int32) + (1 : Int32))).toNatClampNeg ((fc ((0 : Int32) + (1 : Int32)).toNatClampNeg) + (fc (0 : Int32).toNatClampNeg))) ((((0 : Int32) + (1 : Int32)) + (1 : Int32))).toNatClampNeg (((upd fc (((0 : Int32) + (1 : Int32))).toNatClampNeg ((fc ((0 : Int32) + (1 : Int32)).toNatClampNeg) + (fc (0 : Int32).toNatClampNeg))) (((0 : Int32) + (1 : Int32)) + (1 : Int32)).toNatClampNeg) + ((upd fc (((0 : Int32) + (1 : Int32))).toNatClampNeg ((fc ((0 : Int32) + (1 : Int32)).toNatClampNeg) + (fc (0 : Int32).toNatClampNeg))) ((0 : Int32) + (1 : Int32)).toNatClampNeg))) := Fa26.set (by decide) W29
      refine go (u' := T29.setTop (mkF m 85 #[.val (.ref o0), .val (.int (3 : Int32)), .val (.ref o2), .val (.ref o3), .val (.int ((0 : Int32) + (1 : Int32))), .val (.int k.toInt32), .val (.int i), s7] [])) st29 ?_
      refine go (u' := T29.setTop (mkF m 88 #[.val (.ref o0), .val (.int (3 : Int32)), .val (.ref o2), .val (.ref o3), .val (.int (((0 : Int32) + (1 : Int32)) + (1 : Int32))), .val (.int k.toInt32), .val (.int i), s7] [])) (fun _ ks_ => XS.iinc X29.here hx rfl (hb hby d7_85) rfl (l' := #[.val (.ref o0), .val (.int (3 : Int32)), .val (.ref o2), .val (.ref o3), .val (.int (((0 : Int32) + (1 : Int32)) + (1 : Int32))), .val (.int k.toInt32), .val (.int i), s7]) rfl ks_) ?_
      refine go (u' := T29.setTop (mkF m 60 #[.val (.ref o0), .val (.int (3 : Int32)), .val (.ref o2), .val (.ref o3), .val (.int (((0 : Int32) + (1 : Int32)) + (1 : Int32))), .val (.int k.toInt32), .val (.int i), s7] [])) (fun _ ks_ => XS.goto X29.here hx rfl (pc0 := 88) (pc' := 60) rfl (hb hby d7_88) (by decide) (by decide) ks_) ?_
      refine go (u' := T29.setTop (mkF m 62 #[.val (.ref o0), .val (.int (3 : Int32)), .val (.ref o2), .val (.ref o3), .val (.int (((0 : Int32) + (1 : Int32)) + (1 : Int32))), .val (.int k.toInt32), .val (.int i), s7] [(.int (((0 : Int32) + (1 : Int32)) + (1 : Int32)))])) (fun _ ks_ => XS.iload X29.here hx rfl (hb hby d7_60) rfl  ks_) ?_
      refine go (u' := T29.setTop (mkF m 63 #[.val (.ref o0), .val (.int (3 : Int32)), .val (.ref o2), .val (.ref o3), .val (.int (((0 : Int32) + (1 : Int32)) + (1 : Int32))), .val (.int k.toInt32), .val (.int i), s7] [(.int (3 : Int32)), (.int (((0 : Int32) + (1 : Int32)) + (1 : Int32)))])) (fun _ ks_ => XS.iloadN X29.here hx rfl (hb hby d7_62) rfl  ks_) ?_
      refine go (u' := T29.setTop (mkF m 66 #[.val (.ref o0), .val (.int (3 : Int32)), .val (.ref o2), .val (.ref o3), .val (.int (((0 : Int32) + (1 : Int32)) + (1 : Int32))), .val (.int k.toInt32), .val (.int i), s7] [])) (fun _ ks_ => XS.icmpNo X29.here hx rfl (hb hby d7_63) rfl (tlt (show (((0 : Int32) + (1 : Int32)) + (1 : Int32)) < (3 : Int32) from (by decide))).2.1 ks_) ?_
      refine go (u' := T29.setTop (mkF m 67 #[.val (.ref o0), .val (.int (3 : Int32)), .val (.ref o2), .val (.ref o3), .val (.int (((0 : Int32) + (1 : Int32)) + (1 : Int32))), .val (.int k.toInt32), .val (.int i), s7] [(.ref o0)])) (fun _ ks_ => XS.aloadN X29.here hx rfl (hb hby d7_66) rfl rfl ks_) ?_
      obtain ⟨T36, X36, e36, st36⟩ := getF X29 hx hZ hown (host := "") (Or.inl (ww hw 45 rfl)) Via.refl e29 Fa31 (g := (mkF m 67 #[.val (.ref o0), .val (.int (3 : Int32)), .val (.ref o2), .val (.ref o3), .val (.int (((0 : Int32) + (1 : Int32)) + (1 : Int32))), .val (.int k.toInt32), .val (.int i), s7] [(.ref o0)])) rfl rfl (hb hby d7_67)
      refine go (u' := T36.setTop (mkF m 70 #[.val (.ref o0), .val (.int (3 : Int32)), .val (.ref o2), .val (.ref o3), .val (.int (((0 : Int32) + (1 : Int32)) + (1 : Int32))), .val (.int k.toInt32), .val (.int i), s7] [(.ref b2)])) st36 ?_
      refine go (u' := T36.setTop (mkF m 72 #[.val (.ref o0), .val (.int (3 : Int32)), .val (.ref o2), .val (.ref o3), .val (.int (((0 : Int32) + (1 : Int32)) + (1 : Int32))), .val (.int k.toInt32), .val (.int i), s7] [(.int (((0 : Int32) + (1 : Int32)) + (1 : Int32))), (.ref b2)])) (fun _ ks_ => XS.iload X36.here hx rfl (hb hby d7_70) rfl  ks_) ?_
      refine go (u' := T36.setTop (mkF m 73 #[.val (.ref o0), .val (.int (3 : Int32)), .val (.ref o2), .val (.ref o3), .val (.int (((0 : Int32) + (1 : Int32)) + (1 : Int32))), .val (.int k.toInt32), .val (.int i), s7] [(.int (1 : Int32)), (.int (((0 : Int32) + (1 : Int32)) + (1 : Int32))), (.ref b2)])) (fun _ ks_ => XS.iconst X36.here hx rfl (hb hby d7_72) ks_) ?_
      refine go (u' := T36.setTop (mkF m 74 #[.val (.ref o0), .val (.int (3 : Int32)), .val (.ref o2), .val (.ref o3), .val (.int (((0 : Int32) + (1 : Int32)) + (1 : Int32))), .val (.int k.toInt32), .val (.int i), s7] [(.int ((((0 : Int32) + (1 : Int32)) + (1 : Int32)) + (1 : Int32))), (.ref b2)])) (fun _ ks_ => XS.iadd X36.here hx rfl (hb hby d7_73) rfl ks_) ?_
      refine go (u' := T36.setTop (mkF m 75 #[.val (.ref o0), .val (.int (3 : Int32)), .val (.ref o2), .val (.ref o3), .val (.int (((0 : Int32) + (1 : Int32)) + (1 : Int32))), .val (.int k.toInt32), .val (.int i), s7] [(.int ((((0 : Int32) + (1 : Int32)) + (1 : Int32)) + (1 : Int32))), (.ref b2), (.int ((((0 : Int32) + (1 : Int32)) + (1 : Int32)) + (1 : Int32))), (.ref b2)])) (fun _ ks_ => Jvm.Free.XT.dup2 X36.here hx rfl (hb hby d7_74) rfl rfl rfl ks_) ?_
      refine go (u' := T36.setTop (mkF m 76 #[.val (.ref o0), .val (.int (3 : Int32)), .val (.ref o2), .val (.ref o3), .val (.int (((0 : Int32) + (1 : Int32)) + (1 : Int32))), .val (.int k.toInt32), .val (.int i), s7] [(.int ((upd (upd fc (((0 : Int32) + (1 : Int32))).toNatClampNeg ((fc ((0 : Int32) + (1 : Int32)).toNatClampNeg) + (fc (0 : Int32).toNatClampNeg))) ((((0 : Int32) + (1 : Int32)) + (1 : Int32))).toNatClampNeg (((upd fc (((0 : Int32) + (1 : Int32))).toNatClampNeg ((fc ((0 : Int32) + (1 : Int32)).toNatClampNeg) + (fc (0 : Int32).toNatClampNeg))) (((0 : Int32) + (1 : Int32)) + (1 : Int32)).toNatClampNeg) + ((upd fc (((0 : Int32) + (1 : Int32))).toNatClampNeg ((fc ((0 : Int32) + (1 : Int32)).toNatClampNeg) + (fc (0 : Int32).toNatClampNeg))) ((0 : Int32) + (1 : Int32)).toNatClampNeg))) ((((0 : Int32) + (1 : Int32)) + (1 : Int32)) + (1 : Int32)).toNatClampNeg)), (.int ((((0 : Int32) + (1 : Int32)) + (1 : Int32)) + (1 : Int32))), (.ref b2)])) (own_iaload X36 hx hZ e36 Fa35 (j := ((((0 : Int32) + (1 : Int32)) + (1 : Int32)) + (1 : Int32))) (v := ((upd (upd fc (((0 : Int32) + (1 : Int32))).toNatClampNeg ((fc ((0 : Int32) + (1 : Int32)).toNatClampNeg) + (fc (0 : Int32).toNatClampNeg))) ((((0 : Int32) + (1 : Int32)) + (1 : Int32))).toNatClampNeg (((upd fc (((0 : Int32) + (1 : Int32))).toNatClampNeg ((fc ((0 : Int32) + (1 : Int32)).toNatClampNeg) + (fc (0 : Int32).toNatClampNeg))) (((0 : Int32) + (1 : Int32)) + (1 : Int32)).toNatClampNeg) + ((upd fc (((0 : Int32) + (1 : Int32))).toNatClampNeg ((fc ((0 : Int32) + (1 : Int32)).toNatClampNeg) + (fc (0 : Int32).toNatClampNeg))) ((0 : Int32) + (1 : Int32)).toNatClampNeg))) ((((0 : Int32) + (1 : Int32)) + (1 : Int32)) + (1 : Int32)).toNatClampNeg)) (by decide) (by decide) rfl (f := (mkF m 75 #[.val (.ref o0), .val (.int (3 : Int32)), .val (.ref o2), .val (.ref o3), .val (.int (((0 : Int32) + (1 : Int32)) + (1 : Int32))), .val (.int k.toInt32), .val (.int i), s7] [(.int ((((0 : Int32) + (1 : Int32)) + (1 : Int32)) + (1 : Int32))), (.ref b2), (.int ((((0 : Int32) + (1 : Int32)) + (1 : Int32)) + (1 : Int32))), (.ref b2)])) rfl rfl (hb hby d7_75)) ?_
      refine go (u' := T36.setTop (mkF m 77 #[.val (.ref o0), .val (.int (3 : Int32)), .val (.ref o2), .val (.ref o3), .val (.int (((0 : Int32) + (1 : Int32)) + (1 : Int32))), .val (.int k.toInt32), .val (.int i), s7] [(.ref o0), (.int ((upd (upd fc (((0 : Int32) + (1 : Int32))).toNatClampNeg ((fc ((0 : Int32) + (1 : Int32)).toNatClampNeg) + (fc (0 : Int32).toNatClampNeg))) ((((0 : Int32) + (1 : Int32)) + (1 : Int32))).toNatClampNeg (((upd fc (((0 : Int32) + (1 : Int32))).toNatClampNeg ((fc ((0 : Int32) + (1 : Int32)).toNatClampNeg) + (fc (0 : Int32).toNatClampNeg))) (((0 : Int32) + (1 : Int32)) + (1 : Int32)).toNatClampNeg) + ((upd fc (((0 : Int32) + (1 : Int32))).toNatClampNeg ((fc ((0 : Int32) + (1 : Int32)).toNatClampNeg) + (fc (0 : Int32).toNatClampNeg))) ((0 : Int32) + (1 : Int32)).toNatClampNeg))) ((((0 : Int32) + (1 : Int32)) + (1 : Int32)) + (1 : Int32)).toNatClampNeg)), (.int ((((0 : Int32) + (1 : Int32)) + (1 : Int32)) + (1 : Int32))), (.ref b2)])) (fun _ ks_ => XS.aloadN X36.here hx rfl (hb hby d7_76) rfl rfl ks_) ?_
      obtain ⟨T37, X37, e37, st37⟩ := getF X36 hx hZ hown (host := "") (Or.inl (ww hw 45 rfl)) Via.refl e36 Fa31 (g := (mkF m 77 #[.val (.ref o0), .val (.int (3 : Int32)), .val (.ref o2), .val (.ref o3), .val (.int (((0 : Int32) + (1 : Int32)) + (1 : Int32))), .val (.int k.toInt32), .val (.int i), s7] [(.ref o0), (.int ((upd (upd fc (((0 : Int32) + (1 : Int32))).toNatClampNeg ((fc ((0 : Int32) + (1 : Int32)).toNatClampNeg) + (fc (0 : Int32).toNatClampNeg))) ((((0 : Int32) + (1 : Int32)) + (1 : Int32))).toNatClampNeg (((upd fc (((0 : Int32) + (1 : Int32))).toNatClampNeg ((fc ((0 : Int32) + (1 : Int32)).toNatClampNeg) + (fc (0 : Int32).toNatClampNeg))) (((0 : Int32) + (1 : Int32)) + (1 : Int32)).toNatClampNeg) + ((upd fc (((0 : Int32) + (1 : Int32))).toNatClampNeg ((fc ((0 : Int32) + (1 : Int32)).toNatClampNeg) + (fc (0 : Int32).toNatClampNeg))) ((0 : Int32) + (1 : Int32)).toNatClampNeg))) ((((0 : Int32) + (1 : Int32)) + (1 : Int32)) + (1 : Int32)).toNatClampNeg)), (.int ((((0 : Int32) + (1 : Int32)) + (1 : Int32)) + (1 : Int32))), (.ref b2)])) rfl rfl (hb hby d7_77)
      refine go (u' := T37.setTop (mkF m 80 #[.val (.ref o0), .val (.int (3 : Int32)), .val (.ref o2), .val (.ref o3), .val (.int (((0 : Int32) + (1 : Int32)) + (1 : Int32))), .val (.int k.toInt32), .val (.int i), s7] [(.ref b2), (.int ((upd (upd fc (((0 : Int32) + (1 : Int32))).toNatClampNeg ((fc ((0 : Int32) + (1 : Int32)).toNatClampNeg) + (fc (0 : Int32).toNatClampNeg))) ((((0 : Int32) + (1 : Int32)) + (1 : Int32))).toNatClampNeg (((upd fc (((0 : Int32) + (1 : Int32))).toNatClampNeg ((fc ((0 : Int32) + (1 : Int32)).toNatClampNeg) + (fc (0 : Int32).toNatClampNeg))) (((0 : Int32) + (1 : Int32)) + (1 : Int32)).toNatClampNeg) + ((upd fc (((0 : Int32) + (1 : Int32))).toNatClampNeg ((fc ((0 : Int32) + (1 : Int32)).toNatClampNeg) + (fc (0 : Int32).toNatClampNeg))) ((0 : Int32) + (1 : Int32)).toNatClampNeg))) ((((0 : Int32) + (1 : Int32)) + (1 : Int32)) + (1 : Int32)).toNatClampNeg)), (.int ((((0 : Int32) + (1 : Int32)) + (1 : Int32)) + (1 : Int32))), (.ref b2)])) st37 ?_
      refine go (u' := T37.setTop (mkF m 82 #[.val (.ref o0), .val (.int (3 : Int32)), .val (.ref o2), .val (.ref o3), .val (.int (((0 : Int32) + (1 : Int32)) + (1 : Int32))), .val (.int k.toInt32), .val (.int i), s7] [(.int (((0 : Int32) + (1 : Int32)) + (1 : Int32))), (.ref b2), (.int ((upd (upd fc (((0 : Int32) + (1 : Int32))).toNatClampNeg ((fc ((0 : Int32) + (1 : Int32)).toNatClampNeg) + (fc (0 : Int32).toNatClampNeg))) ((((0 : Int32) + (1 : Int32)) + (1 : Int32))).toNatClampNeg (((upd fc (((0 : Int32) + (1 : Int32))).toNatClampNeg ((fc ((0 : Int32) + (1 : Int32)).toNatClampNeg) + (fc (0 : Int32).toNatClampNeg))) (((0 : Int32) + (1 : Int32)) + (1 : Int32)).toNatClampNeg) + ((upd fc (((0 : Int32) + (1 : Int32))).toNatClampNeg ((fc ((0 : Int32) + (1 : Int32)).toNatClampNeg) + (fc (0 : Int32).toNatClampNeg))) ((0 : Int32) + (1 : Int32)).toNatClampNeg))) ((((0 : Int32) + (1 : Int32)) + (1 : Int32)) + (1 : Int32)).toNatClampNeg)), (.int ((((0 : Int32) + (1 : Int32)) + (1 : Int32)) + (1 : Int32))), (.ref b2)])) (fun _ ks_ => XS.iload X37.here hx rfl (hb hby d7_80) rfl  ks_) ?_
      refine go (u' := T37.setTop (mkF m 83 #[.val (.ref o0), .val (.int (3 : Int32)), .val (.ref o2), .val (.ref o3), .val (.int (((0 : Int32) + (1 : Int32)) + (1 : Int32))), .val (.int k.toInt32), .val (.int i), s7] [(.int ((upd (upd fc (((0 : Int32) + (1 : Int32))).toNatClampNeg ((fc ((0 : Int32) + (1 : Int32)).toNatClampNeg) + (fc (0 : Int32).toNatClampNeg))) ((((0 : Int32) + (1 : Int32)) + (1 : Int32))).toNatClampNeg (((upd fc (((0 : Int32) + (1 : Int32))).toNatClampNeg ((fc ((0 : Int32) + (1 : Int32)).toNatClampNeg) + (fc (0 : Int32).toNatClampNeg))) (((0 : Int32) + (1 : Int32)) + (1 : Int32)).toNatClampNeg) + ((upd fc (((0 : Int32) + (1 : Int32))).toNatClampNeg ((fc ((0 : Int32) + (1 : Int32)).toNatClampNeg) + (fc (0 : Int32).toNatClampNeg))) ((0 : Int32) + (1 : Int32)).toNatClampNeg))) (((0 : Int32) + (1 : Int32)) + (1 : Int32)).toNatClampNeg)), (.int ((upd (upd fc (((0 : Int32) + (1 : Int32))).toNatClampNeg ((fc ((0 : Int32) + (1 : Int32)).toNatClampNeg) + (fc (0 : Int32).toNatClampNeg))) ((((0 : Int32) + (1 : Int32)) + (1 : Int32))).toNatClampNeg (((upd fc (((0 : Int32) + (1 : Int32))).toNatClampNeg ((fc ((0 : Int32) + (1 : Int32)).toNatClampNeg) + (fc (0 : Int32).toNatClampNeg))) (((0 : Int32) + (1 : Int32)) + (1 : Int32)).toNatClampNeg) + ((upd fc (((0 : Int32) + (1 : Int32))).toNatClampNeg ((fc ((0 : Int32) + (1 : Int32)).toNatClampNeg) + (fc (0 : Int32).toNatClampNeg))) ((0 : Int32) + (1 : Int32)).toNatClampNeg))) ((((0 : Int32) + (1 : Int32)) + (1 : Int32)) + (1 : Int32)).toNatClampNeg)), (.int ((((0 : Int32) + (1 : Int32)) + (1 : Int32)) + (1 : Int32))), (.ref b2)])) (own_iaload X37 hx hZ e37 Fa35 (j := (((0 : Int32) + (1 : Int32)) + (1 : Int32))) (v := ((upd (upd fc (((0 : Int32) + (1 : Int32))).toNatClampNeg ((fc ((0 : Int32) + (1 : Int32)).toNatClampNeg) + (fc (0 : Int32).toNatClampNeg))) ((((0 : Int32) + (1 : Int32)) + (1 : Int32))).toNatClampNeg (((upd fc (((0 : Int32) + (1 : Int32))).toNatClampNeg ((fc ((0 : Int32) + (1 : Int32)).toNatClampNeg) + (fc (0 : Int32).toNatClampNeg))) (((0 : Int32) + (1 : Int32)) + (1 : Int32)).toNatClampNeg) + ((upd fc (((0 : Int32) + (1 : Int32))).toNatClampNeg ((fc ((0 : Int32) + (1 : Int32)).toNatClampNeg) + (fc (0 : Int32).toNatClampNeg))) ((0 : Int32) + (1 : Int32)).toNatClampNeg))) (((0 : Int32) + (1 : Int32)) + (1 : Int32)).toNatClampNeg)) (by decide) (by decide) rfl (f := (mkF m 82 #[.val (.ref o0), .val (.int (3 : Int32)), .val (.ref o2), .val (.ref o3), .val (.int (((0 : Int32) + (1 : Int32)) + (1 : Int32))), .val (.int k.toInt32), .val (.int i), s7] [(.int (((0 : Int32) + (1 : Int32)) + (1 : Int32))), (.ref b2), (.int ((upd (upd fc (((0 : Int32) + (1 : Int32))).toNatClampNeg ((fc ((0 : Int32) + (1 : Int32)).toNatClampNeg) + (fc (0 : Int32).toNatClampNeg))) ((((0 : Int32) + (1 : Int32)) + (1 : Int32))).toNatClampNeg (((upd fc (((0 : Int32) + (1 : Int32))).toNatClampNeg ((fc ((0 : Int32) + (1 : Int32)).toNatClampNeg) + (fc (0 : Int32).toNatClampNeg))) (((0 : Int32) + (1 : Int32)) + (1 : Int32)).toNatClampNeg) + ((upd fc (((0 : Int32) + (1 : Int32))).toNatClampNeg ((fc ((0 : Int32) + (1 : Int32)).toNatClampNeg) + (fc (0 : Int32).toNatClampNeg))) ((0 : Int32) + (1 : Int32)).toNatClampNeg))) ((((0 : Int32) + (1 : Int32)) + (1 : Int32)) + (1 : Int32)).toNatClampNeg)), (.int ((((0 : Int32) + (1 : Int32)) + (1 : Int32)) + (1 : Int32))), (.ref b2)])) rfl rfl (hb hby d7_82)) ?_
      refine go (u' := T37.setTop (mkF m 84 #[.val (.ref o0), .val (.int (3 : Int32)), .val (.ref o2), .val (.ref o3), .val (.int (((0 : Int32) + (1 : Int32)) + (1 : Int32))), .val (.int k.toInt32), .val (.int i), s7] [(.int (((upd (upd fc (((0 : Int32) + (1 : Int32))).toNatClampNeg ((fc ((0 : Int32) + (1 : Int32)).toNatClampNeg) + (fc (0 : Int32).toNatClampNeg))) ((((0 : Int32) + (1 : Int32)) + (1 : Int32))).toNatClampNeg (((upd fc (((0 : Int32) + (1 : Int32))).toNatClampNeg ((fc ((0 : Int32) + (1 : Int32)).toNatClampNeg) + (fc (0 : Int32).toNatClampNeg))) (((0 : Int32) + (1 : Int32)) + (1 : Int32)).toNatClampNeg) + ((upd fc (((0 : Int32) + (1 : Int32))).toNatClampNeg ((fc ((0 : Int32) + (1 : Int32)).toNatClampNeg) + (fc (0 : Int32).toNatClampNeg))) ((0 : Int32) + (1 : Int32)).toNatClampNeg))) ((((0 : Int32) + (1 : Int32)) + (1 : Int32)) + (1 : Int32)).toNatClampNeg) + ((upd (upd fc (((0 : Int32) + (1 : Int32))).toNatClampNeg ((fc ((0 : Int32) + (1 : Int32)).toNatClampNeg) + (fc (0 : Int32).toNatClampNeg))) ((((0 : Int32) + (1 : Int32)) + (1 : Int32))).toNatClampNeg (((upd fc (((0 : Int32) + (1 : Int32))).toNatClampNeg ((fc ((0 : Int32) + (1 : Int32)).toNatClampNeg) + (fc (0 : Int32).toNatClampNeg))) (((0 : Int32) + (1 : Int32)) + (1 : Int32)).toNatClampNeg) + ((upd fc (((0 : Int32) + (1 : Int32))).toNatClampNeg ((fc ((0 : Int32) + (1 : Int32)).toNatClampNeg) + (fc (0 : Int32).toNatClampNeg))) ((0 : Int32) + (1 : Int32)).toNatClampNeg))) (((0 : Int32) + (1 : Int32)) + (1 : Int32)).toNatClampNeg))), (.int ((((0 : Int32) + (1 : Int32)) + (1 : Int32)) + (1 : Int32))), (.ref b2)])) (fun _ ks_ => XS.iadd X37.here hx rfl (hb hby d7_83) rfl ks_) ?_
      obtain ⟨T38, h38, X38, e38, W38, st38⟩ := own_iastore X37 hx hZ e37 Fa35 (j := ((((0 : Int32) + (1 : Int32)) + (1 : Int32)) + (1 : Int32))) (x := (((upd (upd fc (((0 : Int32) + (1 : Int32))).toNatClampNeg ((fc ((0 : Int32) + (1 : Int32)).toNatClampNeg) + (fc (0 : Int32).toNatClampNeg))) ((((0 : Int32) + (1 : Int32)) + (1 : Int32))).toNatClampNeg (((upd fc (((0 : Int32) + (1 : Int32))).toNatClampNeg ((fc ((0 : Int32) + (1 : Int32)).toNatClampNeg) + (fc (0 : Int32).toNatClampNeg))) (((0 : Int32) + (1 : Int32)) + (1 : Int32)).toNatClampNeg) + ((upd fc (((0 : Int32) + (1 : Int32))).toNatClampNeg ((fc ((0 : Int32) + (1 : Int32)).toNatClampNeg) + (fc (0 : Int32).toNatClampNeg))) ((0 : Int32) + (1 : Int32)).toNatClampNeg))) ((((0 : Int32) + (1 : Int32)) + (1 : Int32)) + (1 : Int32)).toNatClampNeg) + ((upd (upd fc (((0 : Int32) + (1 : Int32))).toNatClampNeg ((fc ((0 : Int32) + (1 : Int32)).toNatClampNeg) + (fc (0 : Int32).toNatClampNeg))) ((((0 : Int32) + (1 : Int32)) + (1 : Int32))).toNatClampNeg (((upd fc (((0 : Int32) + (1 : Int32))).toNatClampNeg ((fc ((0 : Int32) + (1 : Int32)).toNatClampNeg) + (fc (0 : Int32).toNatClampNeg))) (((0 : Int32) + (1 : Int32)) + (1 : Int32)).toNatClampNeg) + ((upd fc (((0 : Int32) + (1 : Int32))).toNatClampNeg ((fc ((0 : Int32) + (1 : Int32)).toNatClampNeg) + (fc (0 : Int32).toNatClampNeg))) ((0 : Int32) + (1 : Int32)).toNatClampNeg))) (((0 : Int32) + (1 : Int32)) + (1 : Int32)).toNatClampNeg)))  (by decide) (by decide) (f := (mkF m 84 #[.val (.ref o0), .val (.int (3 : Int32)), .val (.ref o2), .val (.ref o3), .val (.int (((0 : Int32) + (1 : Int32)) + (1 : Int32))), .val (.int k.toInt32), .val (.int i), s7] [(.int (((upd (upd fc (((0 : Int32) + (1 : Int32))).toNatClampNeg ((fc ((0 : Int32) + (1 : Int32)).toNatClampNeg) + (fc (0 : Int32).toNatClampNeg))) ((((0 : Int32) + (1 : Int32)) + (1 : Int32))).toNatClampNeg (((upd fc (((0 : Int32) + (1 : Int32))).toNatClampNeg ((fc ((0 : Int32) + (1 : Int32)).toNatClampNeg) + (fc (0 : Int32).toNatClampNeg))) (((0 : Int32) + (1 : Int32)) + (1 : Int32)).toNatClampNeg) + ((upd fc (((0 : Int32) + (1 : Int32))).toNatClampNeg ((fc ((0 : Int32) + (1 : Int32)).toNatClampNeg) + (fc (0 : Int32).toNatClampNeg))) ((0 : Int32) + (1 : Int32)).toNatClampNeg))) ((((0 : Int32) + (1 : Int32)) + (1 : Int32)) + (1 : Int32)).toNatClampNeg) + ((upd (upd fc (((0 : Int32) + (1 : Int32))).toNatClampNeg ((fc ((0 : Int32) + (1 : Int32)).toNatClampNeg) + (fc (0 : Int32).toNatClampNeg))) ((((0 : Int32) + (1 : Int32)) + (1 : Int32))).toNatClampNeg (((upd fc (((0 : Int32) + (1 : Int32))).toNatClampNeg ((fc ((0 : Int32) + (1 : Int32)).toNatClampNeg) + (fc (0 : Int32).toNatClampNeg))) (((0 : Int32) + (1 : Int32)) + (1 : Int32)).toNatClampNeg) + ((upd fc (((0 : Int32) + (1 : Int32))).toNatClampNeg ((fc ((0 : Int32) + (1 : Int32)).toNatClampNeg) + (fc (0 : Int32).toNatClampNeg))) ((0 : Int32) + (1 : Int32)).toNatClampNeg))) (((0 : Int32) + (1 : Int32)) + (1 : Int32)).toNatClampNeg))), (.int ((((0 : Int32) + (1 : Int32)) + (1 : Int32)) + (1 : Int32))), (.ref b2)])) rfl rfl (hb hby d7_84)
      have N38 := Fr.snoc X38 N29 g_b2
      have K38 : Keep h0 h38 [o0] := K29.wr W38 (Or.inr sz_b2)
      have Z38 : n0 ≤ h38.size := Nat.le_trans Z29 (Keep.of_wr W38).1
      have Fa39 : Exa Z h38 o0 "com/example/traceweave/traceweave/pattern/NumberedPattern$Adjacency" := Fa30.wr W38
      have Fa40 : Fld Z h38 o0 "com/example/traceweave/traceweave/pattern/NumberedPattern$Adjacency" "first" "[I" (.ref b2) := Fa31.other W38 (Or.inl ne_o0_b2)
      have Fa41 : Fld Z h38 o0 "com/example/traceweave/traceweave/pattern/NumberedPattern$Adjacency" "otherEnd" "[I" .null := Fa32.other W38 (Or.inl ne_o0_b2)
      have Fa42 : PI Z h38 o2 .int k ef := Fa33.other W38 ne_o2_b2
      have Fa43 : PI Z h38 o3 .int k tf := Fa34.other W38 ne_o3_b2
      have Fa44 : PI Z h38 b2 .int 4 (upd (upd (upd fc (((0 : Int32) + (1 : Int32))).toNatClampNeg ((fc ((0 : Int32) + (1 : Int32)).toNatClampNeg) + (fc (0 : Int32).toNatClampNeg))) ((((0 : Int32) + (1 : Int32)) + (1 : Int32))).toNatClampNeg (((upd fc (((0 : Int32) + (1 : Int32))).toNatClampNeg ((fc ((0 : Int32) + (1 : Int32)).toNatClampNeg) + (fc (0 : Int32).toNatClampNeg))) (((0 : Int32) + (1 : Int32)) + (1 : Int32)).toNatClampNeg) + ((upd fc (((0 : Int32) + (1 : Int32))).toNatClampNeg ((fc ((0 : Int32) + (1 : Int32)).toNatClampNeg) + (fc (0 : Int32).toNatClampNeg))) ((0 : Int32) + (1 : Int32)).toNatClampNeg))) (((((0 : Int32) + (1 : Int32)) + (1 : Int32)) + (1 : Int32))).toNatClampNeg (((upd (upd fc (((0 : Int32) + (1 : Int32))).toNatClampNeg ((fc ((0 : Int32) + (1 : Int32)).toNatClampNeg) + (fc (0 : Int32).toNatClampNeg))) ((((0 : Int32) + (1 : Int32)) + (1 : Int32))).toNatClampNeg (((upd fc (((0 : Int32) + (1 : Int32))).toNatClampNeg ((fc ((0 : Int32) + (1 : Int32)).toNatClampNeg) + (fc (0 : Int32).toNatClampNeg))) (((0 : Int32) + (1 : Int32)) + (1 : Int32)).toNatClampNeg) + ((upd fc (((0 : Int32) + (1 : Int32))).toNatClampNeg ((fc ((0 : Int32) + (1 : Int32)).toNatClampNeg) + (fc (0 : Int32).toNatClampNeg))) ((0 : Int32) + (1 : Int32)).toNatClampNeg))) ((((0 : Int32) + (1 : Int32)) + (1 : Int32)) + (1 : Int32)).toNatClampNeg) + ((upd (upd fc (((0 : Int32) + (1 : Int32))).toNatClampNeg ((fc ((0 : Int32) + (1 : Int32)).toNatClampNeg) + (fc (0 : Int32).toNatClampNeg))) ((((0 : Int32) + (1 : Int32)) + (1 : Int32))).toNatClampNeg (((upd fc (((0 : Int32) + (1 : Int32))).toNatClampNeg ((fc ((0 : Int32) + (1 : Int32)).toNatClampNeg) + (fc (0 : Int32).toNatClampNeg))) (((0 : Int32) + (1 : Int32)) + (1 : Int32)).toNatClampNeg) + ((upd fc (((0 : Int32) + (1 : Int32))).toNatClampNeg ((fc ((0 : Int32) + (1 : Int32)).toNatClampNeg) + (fc (0 : Int32).toNatClampNeg))) ((0 : Int32) + (1 : Int32)).toNatClampNeg))) (((0 : Int32) + (1 : Int32)) + (1 : Int32)).toNatClampNeg))) := Fa35.set (by decide) W38
      refine go (u' := T38.setTop (mkF m 85 #[.val (.ref o0), .val (.int (3 : Int32)), .val (.ref o2), .val (.ref o3), .val (.int (((0 : Int32) + (1 : Int32)) + (1 : Int32))), .val (.int k.toInt32), .val (.int i), s7] [])) st38 ?_
      refine go (u' := T38.setTop (mkF m 88 #[.val (.ref o0), .val (.int (3 : Int32)), .val (.ref o2), .val (.ref o3), .val (.int ((((0 : Int32) + (1 : Int32)) + (1 : Int32)) + (1 : Int32))), .val (.int k.toInt32), .val (.int i), s7] [])) (fun _ ks_ => XS.iinc X38.here hx rfl (hb hby d7_85) rfl (l' := #[.val (.ref o0), .val (.int (3 : Int32)), .val (.ref o2), .val (.ref o3), .val (.int ((((0 : Int32) + (1 : Int32)) + (1 : Int32)) + (1 : Int32))), .val (.int k.toInt32), .val (.int i), s7]) rfl ks_) ?_
      refine go (u' := T38.setTop (mkF m 60 #[.val (.ref o0), .val (.int (3 : Int32)), .val (.ref o2), .val (.ref o3), .val (.int ((((0 : Int32) + (1 : Int32)) + (1 : Int32)) + (1 : Int32))), .val (.int k.toInt32), .val (.int i), s7] [])) (fun _ ks_ => XS.goto X38.here hx rfl (pc0 := 88) (pc' := 60) rfl (hb hby d7_88) (by decide) (by decide) ks_) ?_
      refine go (u' := T38.setTop (mkF m 62 #[.val (.ref o0), .val (.int (3 : Int32)), .val (.ref o2), .val (.ref o3), .val (.int ((((0 : Int32) + (1 : Int32)) + (1 : Int32)) + (1 : Int32))), .val (.int k.toInt32), .val (.int i), s7] [(.int ((((0 : Int32) + (1 : Int32)) + (1 : Int32)) + (1 : Int32)))])) (fun _ ks_ => XS.iload X38.here hx rfl (hb hby d7_60) rfl  ks_) ?_
      refine go (u' := T38.setTop (mkF m 63 #[.val (.ref o0), .val (.int (3 : Int32)), .val (.ref o2), .val (.ref o3), .val (.int ((((0 : Int32) + (1 : Int32)) + (1 : Int32)) + (1 : Int32))), .val (.int k.toInt32), .val (.int i), s7] [(.int (3 : Int32)), (.int ((((0 : Int32) + (1 : Int32)) + (1 : Int32)) + (1 : Int32)))])) (fun _ ks_ => XS.iloadN X38.here hx rfl (hb hby d7_62) rfl  ks_) ?_
      refine go (u' := T38.setTop (mkF m 91 #[.val (.ref o0), .val (.int (3 : Int32)), .val (.ref o2), .val (.ref o3), .val (.int ((((0 : Int32) + (1 : Int32)) + (1 : Int32)) + (1 : Int32))), .val (.int k.toInt32), .val (.int i), s7] [])) (fun _ ks_ => XS.icmpYes X38.here hx rfl (pc0 := 63) (pc' := 91) rfl (hb hby d7_63) rfl (flt (show ¬ (((((0 : Int32) + (1 : Int32)) + (1 : Int32)) + (1 : Int32)) < (3 : Int32)) from (by decide))).2.1 (by decide) (by decide) ks_) ?_
      obtain ⟨ff, hff⟩ : ∃ z, z = ps2 (cn1 ef k) 3 := ⟨_, rfl⟩
      have Fa45 : PI Z h38 b2 .int 4 ff := own_Gto Fa44 (by rw [hff, ← hfc]; rfl)
      have hgood : Good ef k := own_good hk he
      unfold Good at hgood
      rw [← hff] at hgood
      refine go (u' := T38.setTop (mkF m 92 #[.val (.ref o0), .val (.int (3 : Int32)), .val (.ref o2), .val (.ref o3), .val (.int ((((0 : Int32) + (1 : Int32)) + (1 : Int32)) + (1 : Int32))), .val (.int k.toInt32), .val (.int i), s7] [(.ref o0)])) (fun _ ks_ => XS.aloadN X38.here hx rfl (hb hby d7_91) rfl rfl ks_) ?_
      refine go (u' := T38.setTop (mkF m 93 #[.val (.ref o0), .val (.int (3 : Int32)), .val (.ref o2), .val (.ref o3), .val (.int ((((0 : Int32) + (1 : Int32)) + (1 : Int32)) + (1 : Int32))), .val (.int k.toInt32), .val (.int i), s7] [(.ref o2), (.ref o0)])) (fun _ ks_ => XS.aloadN X38.here hx rfl (hb hby d7_92) rfl rfl ks_) ?_
      refine go (u' := T38.setTop (mkF m 94 #[.val (.ref o0), .val (.int (3 : Int32)), .val (.ref o2), .val (.ref o3), .val (.int ((((0 : Int32) + (1 : Int32)) + (1 : Int32)) + (1 : Int32))), .val (.int k.toInt32), .val (.int i), s7] [(.int k.toInt32), (.ref o0)])) (own_alen X38 hx hZ e38 Fa42 (z := k.toInt32) rfl (f := (mkF m 93 #[.val (.ref o0), .val (.int (3 : Int32)), .val (.ref o2), .val (.ref o3), .val (.int ((((0 : Int32) + (1 : Int32)) + (1 : Int32)) + (1 : Int32))), .val (.int k.toInt32), .val (.int i), s7] [(.ref o2), (.ref o0)])) rfl rfl (hb hby d7_93)) ?_
      obtain ⟨T46, h46, k46, X46, e46, E46, A46, st46⟩ := newP X38 hx hZ (ww hw 0 rfl) e38 (g := (mkF m 94 #[.val (.ref o0), .val (.int (3 : Int32)), .val (.ref o2), .val (.ref o3), .val (.int ((((0 : Int32) + (1 : Int32)) + (1 : Int32)) + (1 : Int32))), .val (.int k.toInt32), .val (.int i), s7] [(.int k.toInt32), (.ref o0)])) rfl (hb hby d7_94) rfl (own_n32 F3.bound).1 (cap := 3) (by rw [(own_n32 F3.bound).2]; exact hk) (by decide) (by decide) (by decide)
      obtain ⟨b46, g46⟩ : ∃ z, z = h38.size := ⟨_, rfl⟩
      rw [← g46] at A46 st46
      have ne_o0_b46 : o0 ≠ b46 := Nat.ne_of_lt (Nat.lt_of_lt_of_le Fa39.lt (Nat.le_of_eq g46.symm))
      have ne_o2_b46 : o2 ≠ b46 := Nat.ne_of_lt (Nat.lt_of_lt_of_le Fa42.lt (Nat.le_of_eq g46.symm))
      have ne_o3_b46 : o3 ≠ b46 := Nat.ne_of_lt (Nat.lt_of_lt_of_le Fa43.lt (Nat.le_of_eq g46.symm))
      have ne_b2_b46 : b2 ≠ b46 := Nat.ne_of_lt (Nat.lt_of_lt_of_le Fa45.lt (Nat.le_of_eq g46.symm))
      have g_b46 : n0 ≤ b46 := Nat.le_trans Z38 (Nat.le_of_eq g46.symm)
      have sz_b46 : h0.size ≤ b46 := Nat.le_trans K38.1 (Nat.le_of_eq g46.symm)
      have K46 : Keep h0 h46 [o0] := K38.ext E46
      have Fa47 : Exa Z h46 o0 "com/example/traceweave/traceweave/pattern/NumberedPattern$Adjacency" := Fa39.ext E46
      have Fa48 : Fld Z h46 o0 "com/example/traceweave/traceweave/pattern/NumberedPattern$Adjacency" "first" "[I" (.ref b2) := Fa40.ext E46
      have Fa49 : Fld Z h46 o0 "com/example/traceweave/traceweave/pattern/NumberedPattern$Adjacency" "otherEnd" "[I" .null := Fa41.ext E46
      have Fa50 : PI Z h46 o2 .int k ef := Fa42.ext E46
      have Fa51 : PI Z h46 o3 .int k tf := Fa43.ext E46
      have Fa52 : PI Z h46 b2 .int 4 ff := Fa45.ext E46
      have Z46 : n0 ≤ h46.size := Nat.le_trans Z38 E46.1
      have Fa53 : PI Z h46 b46 .int k.toInt32.toNatClampNeg (fun _ => 0) := PI.new A46 (own_n32 F3.bound).1 rfl
      refine go (u' := T46.setTop (mkF m 96 #[.val (.ref o0), .val (.int (3 : Int32)), .val (.ref o2), .val (.ref o3), .val (.int ((((0 : Int32) + (1 : Int32)) + (1 : Int32)) + (1 : Int32))), .val (.int k.toInt32), .val (.int i), s7] [(.ref b46), (.ref o0)])) st46 ?_
      obtain ⟨T54, h54, X54, e54, W54, st54⟩ := putF X46 hx hZ hown (host := "") (Or.inl (ww hw 47 rfl)) Via.refl e46 Fa49 Fa47 (Or.inr ⟨(ww hw 48 rfl), rfl, hnm⟩) (ww hw 39 rfl) (ty := (.array .int)) (by decide) rfl rfl (g := (mkF m 96 #[.val (.ref o0), .val (.int (3 : Int32)), .val (.ref o2), .val (.ref o3), .val (.int ((((0 : Int32) + (1 : Int32)) + (1 : Int32)) + (1 : Int32))), .val (.int k.toInt32), .val (.int i), s7] [(.ref b46), (.ref o0)])) rfl rfl (hb hby d7_96)
      have N54 := Fr.snoc X54 N38 g_o0
      have K54 : Keep h0 h54 [o0] := K46.wr W54 (Or.inl (List.mem_of_getElem? (i := 0) rfl))
      have Z54 : n0 ≤ h54.size := Nat.le_trans Z46 (Keep.of_wr W54).1
      have Fa55 : Exa Z h54 o0 "com/example/traceweave/traceweave/pattern/NumberedPattern$Adjacency" := Fa47.wr W54
      have Fa56 : Fld Z h54 o0 "com/example/traceweave/traceweave/pattern/NumberedPattern$Adjacency" "first" "[I" (.ref b2) := Fa48.other W54 (Or.inr (slot_ne (Or.inr (ww hw 46 rfl)) (Or.inr (ww hw 48 rfl)) (by decide) (t := (.array .int)) (t' := (.array .int)) (by decide) (by decide)))
      have Fa57 : PI Z h54 o2 .int k ef := Fa50.other W54 ne_o2_o0
      have Fa58 : PI Z h54 o3 .int k tf := Fa51.other W54 ne_o3_o0
      have Fa59 : PI Z h54 b2 .int 4 ff := Fa52.other W54 (Ne.symm ne_o0_b2)
      have Fa60 : PI Z h54 b46 .int k.toInt32.toNatClampNeg (fun _ => 0) := Fa53.other W54 (Ne.symm ne_o0_b46)
      have Fa61 : Fld Z h54 o0 "com/example/traceweave/traceweave/pattern/NumberedPattern$Adjacency" "otherEnd" "[I" (.ref b46) := Fa49.same W54
      refine go (u' := T54.setTop (mkF m 99 #[.val (.ref o0), .val (.int (3 : Int32)), .val (.ref o2), .val (.ref o3), .val (.int ((((0 : Int32) + (1 : Int32)) + (1 : Int32)) + (1 : Int32))), .val (.int k.toInt32), .val (.int i), s7] [])) st54 ?_
      refine go (u' := T54.setTop (mkF m 100 #[.val (.ref o0), .val (.int (3 : Int32)), .val (.ref o2), .val (.ref o3), .val (.int ((((0 : Int32) + (1 : Int32)) + (1 : Int32)) + (1 : Int32))), .val (.int k.toInt32), .val (.int i), s7] [(.ref o0)])) (fun _ ks_ => XS.aloadN X54.here hx rfl (hb hby d7_99) rfl rfl ks_) ?_
      obtain ⟨T62, X62, e62, st62⟩ := getF X54 hx hZ hown (host := "") (Or.inl (ww hw 45 rfl)) Via.refl e54 Fa56 (g := (mkF m 100 #[.val (.ref o0), .val (.int (3 : Int32)), .val (.ref o2), .val (.ref o3), .val (.int ((((0 : Int32) + (1 : Int32)) + (1 : Int32)) + (1 : Int32))), .val (.int k.toInt32), .val (.int i), s7] [(.ref o0)])) rfl rfl (hb hby d7_100)
      refine go (u' := T62.setTop (mkF m 103 #[.val (.ref o0), .val (.int (3 : Int32)), .val (.ref o2), .val (.ref o3), .val (.int ((((0 : Int32) + (1 : Int32)) + (1 : Int32)) + (1 : Int32))), .val (.int k.toInt32), .val (.int i), s7] [(.ref b2)])) st62 ?_
      refine go (u' := T62.setTop (mkF m 104 #[.val (.ref o0), .val (.int (3 : Int32)), .val (.ref o2), .val (.ref o3), .val (.int ((((0 : Int32) + (1 : Int32)) + (1 : Int32)) + (1 : Int32))), .val (.int k.toInt32), .val (.int i), s7] [(.int (3 : Int32)), (.ref b2)])) (fun _ ks_ => XS.iloadN X62.here hx rfl (hb hby d7_103) rfl  ks_) ?_
      obtain ⟨_, _, ⟨T63, L63, k63, n63⟩, -, X63, ⟨Lc63, hQ63, l63, y63, z63⟩, st63⟩ := Jvm.LawKit.callS X62 hx (y := (⟨"java/util/Arrays", "copyOf", "([II)[I"⟩ : MethodName)) hown (mvT hZ (ww hw 49 rfl)) (mvT hZ (ww hw 50 rfl)) (mvT hZ (ww hw 51 rfl)) (mvT hZ (ww hw 52 rfl)) (by decide) (backOf (W := 0) (rm8 l Z a0 hw [] b2 ff h54 n0 Z54 Fa59) hZ (ww hw 52 rfl) (ww hw 51 rfl) (by decide) (by decide)) (g := (mkF m 104 #[.val (.ref o0), .val (.int (3 : Int32)), .val (.ref o2), .val (.ref o3), .val (.int ((((0 : Int32) + (1 : Int32)) + (1 : Int32)) + (1 : Int32))), .val (.int k.toInt32), .val (.int i), s7] [(.int (3 : Int32)), (.ref b2)])) rfl (by rw [hml]; rfl) (argsL := [(.ref b2), (.int (3 : Int32))]) (rest := []) (lenOf pd__40__91_II_41__91_I rfl) rfl (by show 2 * 0 + _ ≤ _; exact Nat.le_of_eq rfl) (hb hby d7_104) (fun _ _ => ⟨rfl, e62, (by decide : 2 + 1 ≤ _), (by decide : 7 + 3 ≤ _)⟩)
      dsimp only [Pt.U, Pt.locs, Pt.cells, Pt.slots] at X63 l63 y63 z63 st63 hQ63
      subst l63 y63 z63
      obtain ⟨r63, rfl, N63q, Kq63, Fa64, gr_63⟩ := hQ63
      have N63 := Fr.app N54 N63q
      have K63 : Keep h0 T63.heap [o0] := K54.trans Kq63 all0
      have Z63 : n0 ≤ T63.heap.size := Nat.le_trans Z54 Kq63.1
      have Fa65 : Exa Z T63.heap o0 "com/example/traceweave/traceweave/pattern/NumberedPattern$Adjacency" := Fa55.keep Kq63
      have Fa66 : Fld Z T63.heap o0 "com/example/traceweave/traceweave/pattern/NumberedPattern$Adjacency" "first" "[I" (.ref b2) := Fa56.keep Kq63 nin0
      have Fa67 : Fld Z T63.heap o0 "com/example/traceweave/traceweave/pattern/NumberedPattern$Adjacency" "otherEnd" "[I" (.ref b46) := Fa61.keep Kq63 nin0
      have Fa68 : PI Z T63.heap o2 .int k ef := Fa57.keep Kq63 nin0
      have Fa69 : PI Z T63.heap o3 .int k tf := Fa58.keep Kq63 nin0
      have Fa70 : PI Z T63.heap b2 .int 4 ff := Fa59.keep Kq63 nin0
      have Fa71 : PI Z T63.heap b46 .int k.toInt32.toNatClampNeg (fun _ => 0) := Fa60.keep Kq63 nin0
      have ne_o0_r63 : o0 ≠ r63 := Nat.ne_of_lt (Nat.lt_of_lt_of_le Fa55.lt gr_63)
      have ne_o2_r63 : o2 ≠ r63 := Nat.ne_of_lt (Nat.lt_of_lt_of_le Fa57.lt gr_63)
      have ne_o3_r63 : o3 ≠ r63 := Nat.ne_of_lt (Nat.lt_of_lt_of_le Fa58.lt gr_63)
      have ne_b2_r63 : b2 ≠ r63 := Nat.ne_of_lt (Nat.lt_of_lt_of_le Fa59.lt gr_63)
      have ne_b46_r63 : b46 ≠ r63 := Nat.ne_of_lt (Nat.lt_of_lt_of_le Fa60.lt gr_63)
      have g_r63 : n0 ≤ r63 := Nat.le_trans Z54 gr_63
      have sz_r63 : h0.size ≤ r63 := Nat.le_trans K54.1 gr_63
      refine go (u' := T63.setTop (mkF m 107 #[.val (.ref o0), .val (.int (3 : Int32)), .val (.ref o2), .val (.ref o3), .val (.int ((((0 : Int32) + (1 : Int32)) + (1 : Int32)) + (1 : Int32))), .val (.int k.toInt32), .val (.int i), s7] [(.ref r63)])) st63 ?_
      refine go (u' := T63.setTop (mkF m 109 #[.val (.ref o0), .val (.int (3 : Int32)), .val (.ref o2), .val (.ref o3), .val (.ref r63), .val (.int k.toInt32), .val (.int i), s7] [])) (fun _ ks_ => XS.astore X63.here hx rfl (hb hby d7_107) rfl rfl (l' := #[.val (.ref o0), .val (.int (3 : Int32)), .val (.ref o2), .val (.ref o3), .val (.ref r63), .val (.int k.toInt32), .val (.int i), s7]) rfl ks_) ?_
      refine go (u' := T63.setTop (mkF m 110 #[.val (.ref o0), .val (.int (3 : Int32)), .val (.ref o2), .val (.ref o3), .val (.ref r63), .val (.int k.toInt32), .val (.int i), s7] [(.int (0 : Int32))])) (fun _ ks_ => XS.iconst X63.here hx rfl (hb hby d7_109) ks_) ?_
      refine go (u' := T63.setTop (mkF m 112 #[.val (.ref o0), .val (.int (3 : Int32)), .val (.ref o2), .val (.ref o3), .val (.ref r63), .val (.int (0 : Int32)), .val (.int i), s7] [])) (fun _ ks_ => XS.istore X63.here hx rfl (hb hby d7_110) rfl  (l' := #[.val (.ref o0), .val (.int (3 : Int32)), .val (.ref o2), .val (.ref o3), .val (.ref r63), .val (.int (0 : Int32)), .val (.int i), s7]) rfl ks_) ?_
      have C112_2 : ∀ (t2 : Nat) (u : Int32) (nc : Nat → Int32) (oc : Nat → Int32) (T72 : State) (h72 : Heap) (Ls72 : List Loc), (Stand p l e ({ frames := 4, cells := 3, slots := 10, locals := 81 } : Room) s m #[(.ref o0), (.int (3 : Int32)), (.ref o2), (.ref o3)] below meth c T72 Ls72 3 10) → (T72.heap = h72) → (Fr n0 Ls72) → (n0 ≤ h72.size) → (Keep h0 h72 [o0]) → (Exa Z h72 o0 "com/example/traceweave/traceweave/pattern/NumberedPattern$Adjacency") → (Fld Z h72 o0 "com/example/traceweave/traceweave/pattern/NumberedPattern$Adjacency" "first" "[I" (.ref b2)) → (Fld Z h72 o0 "com/example/traceweave/traceweave/pattern/NumberedPattern$Adjacency" "otherEnd" "[I" (.ref b46)) → (PI Z h72 o2 .int k ef) → (PI Z h72 o3 .int k tf) → (PI Z h72 b2 .int 4 ff) → (PI Z h72 b46 .int k.toInt32.toNatClampNeg oc) → (PI Z h72 r63 .int 3 nc) → (0 ≤ u.toInt ∧ u.toInt + (t2 : Nat) = k) → (nc = N3 ff ef (k - t2)) → Go p.tables e below G (T72.setTop (mkF m 112 #[.val (.ref o0), .val (.int (3 : Int32)), .val (.ref o2), .val (.ref o3), .val (.ref r63), .val (.int u), .val (.int i), s7] [])) := by
        intro t2
        induction t2 with
        | zero =>
          intro u nc oc T72 h72 Ls72 X72 e72 N72 Z72 K72 F72_0 F72_1 F72_2 F72_3 F72_4 F72_5 F72_6 F72_7 hu hnc
          refine go (u' := T72.setTop (mkF m 114 #[.val (.ref o0), .val (.int (3 : Int32)), .val (.ref o2), .val (.ref o3), .val (.ref r63), .val (.int u), .val (.int i), s7] [(.int u)])) (fun _ ks_ => XS.iload X72.here hx rfl (hb hby d7_112) rfl  ks_) ?_
          refine go (u' := T72.setTop (mkF m 115 #[.val (.ref o0), .val (.int (3 : Int32)), .val (.ref o2), .val (.ref o3), .val (.ref r63), .val (.int u), .val (.int i), s7] [(.ref o2), (.int u)])) (fun _ ks_ => XS.aloadN X72.here hx rfl (hb hby d7_114) rfl rfl ks_) ?_
          refine go (u' := T72.setTop (mkF m 116 #[.val (.ref o0), .val (.int (3 : Int32)), .val (.ref o2), .val (.ref o3), .val (.ref r63), .val (.int u), .val (.int i), s7] [(.int k.toInt32), (.int u)])) (own_alen X72 hx hZ e72 F72_3 (z := k.toInt32) rfl (f := (mkF m 115 #[.val (.ref o0), .val (.int (3 : Int32)), .val (.ref o2), .val (.ref o3), .val (.ref r63), .val (.int u), .val (.int i), s7] [(.ref o2), (.int u)])) rfl rfl (hb hby d7_115)) ?_
          refine go (u' := T72.setTop (mkF m 146 #[.val (.ref o0), .val (.int (3 : Int32)), .val (.ref o2), .val (.ref o3), .val (.ref r63), .val (.int u), .val (.int i), s7] [])) (fun _ ks_ => XS.icmpYes X72.here hx rfl (pc0 := 116) (pc' := 146) rfl (hb hby d7_116) rfl (flt (show ¬ (u < k.toInt32) from (own_iz F3.bound hu))).2.1 (by decide) (by decide) ks_) ?_
          refine go (u' := T72.setTop (mkF m 147 #[.val (.ref o0), .val (.int (3 : Int32)), .val (.ref o2), .val (.ref o3), .val (.ref r63), .val (.int u), .val (.int i), s7] [(.int (0 : Int32))])) (fun _ ks_ => XS.iconst X72.here hx rfl (hb hby d7_146) ks_) ?_
          refine go (u' := T72.setTop (mkF m 149 #[.val (.ref o0), .val (.int (3 : Int32)), .val (.ref o2), .val (.ref o3), .val (.ref r63), .val (.int (0 : Int32)), .val (.int i), s7] [])) (fun _ ks_ => XS.istore X72.here hx rfl (hb hby d7_147) rfl  (l' := #[.val (.ref o0), .val (.int (3 : Int32)), .val (.ref o2), .val (.ref o3), .val (.ref r63), .val (.int (0 : Int32)), .val (.int i), s7]) rfl ks_) ?_
          refine go (u' := T72.setTop (mkF m 151 #[.val (.ref o0), .val (.int (3 : Int32)), .val (.ref o2), .val (.ref o3), .val (.ref r63), .val (.int (0 : Int32)), .val (.int i), s7] [(.int (0 : Int32))])) (fun _ ks_ => XS.iload X72.here hx rfl (hb hby d7_149) rfl  ks_) ?_
          refine go (u' := T72.setTop (mkF m 152 #[.val (.ref o0), .val (.int (3 : Int32)), .val (.ref o2), .val (.ref o3), .val (.ref r63), .val (.int (0 : Int32)), .val (.int i), s7] [(.int (3 : Int32)), (.int (0 : Int32))])) (fun _ ks_ => XS.iloadN X72.here hx rfl (hb hby d7_151) rfl  ks_) ?_
          refine go (u' := T72.setTop (mkF m 155 #[.val (.ref o0), .val (.int (3 : Int32)), .val (.ref o2), .val (.ref o3), .val (.ref r63), .val (.int (0 : Int32)), .val (.int i), s7] [])) (fun _ ks_ => XS.icmpNo X72.here hx rfl (hb hby d7_152) rfl (tlt (show (0 : Int32) < (3 : Int32) from (by decide))).2.1 ks_) ?_
          refine go (u' := T72.setTop (mkF m 156 #[.val (.ref o0), .val (.int (3 : Int32)), .val (.ref o2), .val (.ref o3), .val (.ref r63), .val (.int (0 : Int32)), .val (.int i), s7] [(.ref o0)])) (fun _ ks_ => XS.aloadN X72.here hx rfl (hb hby d7_155) rfl rfl ks_) ?_
          obtain ⟨T73, X73, e73, st73⟩ := getF X72 hx hZ hown (host := "") (Or.inl (ww hw 47 rfl)) Via.refl e72 F72_2 (g := (mkF m 156 #[.val (.ref o0), .val (.int (3 : Int32)), .val (.ref o2), .val (.ref o3), .val (.ref r63), .val (.int (0 : Int32)), .val (.int i), s7] [(.ref o0)])) rfl rfl (hb hby d7_156)
          refine go (u' := T73.setTop (mkF m 159 #[.val (.ref o0), .val (.int (3 : Int32)), .val (.ref o2), .val (.ref o3), .val (.ref r63), .val (.int (0 : Int32)), .val (.int i), s7] [(.ref b46)])) st73 ?_
          refine go (u' := T73.setTop (mkF m 160 #[.val (.ref o0), .val (.int (3 : Int32)), .val (.ref o2), .val (.ref o3), .val (.ref r63), .val (.int (0 : Int32)), .val (.int i), s7] [(.ref o0), (.ref b46)])) (fun _ ks_ => XS.aloadN X73.here hx rfl (hb hby d7_159) rfl rfl ks_) ?_
          obtain ⟨T74, X74, e74, st74⟩ := getF X73 hx hZ hown (host := "") (Or.inl (ww hw 45 rfl)) Via.refl e73 F72_1 (g := (mkF m 160 #[.val (.ref o0), .val (.int (3 : Int32)), .val (.ref o2), .val (.ref o3), .val (.ref r63), .val (.int (0 : Int32)), .val (.int i), s7] [(.ref o0), (.ref b46)])) rfl rfl (hb hby d7_160)
          refine go (u' := T74.setTop (mkF m 163 #[.val (.ref o0), .val (.int (3 : Int32)), .val (.ref o2), .val (.ref o3), .val (.ref r63), .val (.int (0 : Int32)), .val (.int i), s7] [(.ref b2), (.ref b46)])) st74 ?_
          refine go (u' := T74.setTop (mkF m 165 #[.val (.ref o0), .val (.int (3 : Int32)), .val (.ref o2), .val (.ref o3), .val (.ref r63), .val (.int (0 : Int32)), .val (.int i), s7] [(.int (0 : Int32)), (.ref b2), (.ref b46)])) (fun _ ks_ => XS.iload X74.here hx rfl (hb hby d7_163) rfl  ks_) ?_
          refine go (u' := T74.setTop (mkF m 166 #[.val (.ref o0), .val (.int (3 : Int32)), .val (.ref o2), .val (.ref o3), .val (.ref r63), .val (.int (0 : Int32)), .val (.int i), s7] [(.int (ff (0 : Int32).toNatClampNeg)), (.ref b46)])) (own_iaload X74 hx hZ e74 F72_5 (j := (0 : Int32)) (v := (ff (0 : Int32).toNatClampNeg)) (by decide) (by decide) rfl (f := (mkF m 165 #[.val (.ref o0), .val (.int (3 : Int32)), .val (.ref o2), .val (.ref o3), .val (.ref r63), .val (.int (0 : Int32)), .val (.int i), s7] [(.int (0 : Int32)), (.ref b2), (.ref b46)])) rfl rfl (hb hby d7_165)) ?_
          refine go (u' := T74.setTop (mkF m 167 #[.val (.ref o0), .val (.int (3 : Int32)), .val (.ref o2), .val (.ref o3), .val (.ref r63), .val (.int (0 : Int32)), .val (.int i), s7] [(.ref o0), (.int (ff (0 : Int32).toNatClampNeg)), (.ref b46)])) (fun _ ks_ => XS.aloadN X74.here hx rfl (hb hby d7_166) rfl rfl ks_) ?_
          obtain ⟨T75, X75, e75, st75⟩ := getF X74 hx hZ hown (host := "") (Or.inl (ww hw 45 rfl)) Via.refl e74 F72_1 (g := (mkF m 167 #[.val (.ref o0), .val (.int (3 : Int32)), .val (.ref o2), .val (.ref o3), .val (.ref r63), .val (.int (0 : Int32)), .val (.int i), s7] [(.ref o0), (.int (ff (0 : Int32).toNatClampNeg)), (.ref b46)])) rfl rfl (hb hby d7_167)
          refine go (u' := T75.setTop (mkF m 170 #[.val (.ref o0), .val (.int (3 : Int32)), .val (.ref o2), .val (.ref o3), .val (.ref r63), .val (.int (0 : Int32)), .val (.int i), s7] [(.ref b2), (.int (ff (0 : Int32).toNatClampNeg)), (.ref b46)])) st75 ?_
          refine go (u' := T75.setTop (mkF m 172 #[.val (.ref o0), .val (.int (3 : Int32)), .val (.ref o2), .val (.ref o3), .val (.ref r63), .val (.int (0 : Int32)), .val (.int i), s7] [(.int (0 : Int32)), (.ref b2), (.int (ff (0 : Int32).toNatClampNeg)), (.ref b46)])) (fun _ ks_ => XS.iload X75.here hx rfl (hb hby d7_170) rfl  ks_) ?_
          refine go (u' := T75.setTop (mkF m 173 #[.val (.ref o0), .val (.int (3 : Int32)), .val (.ref o2), .val (.ref o3), .val (.ref r63), .val (.int (0 : Int32)), .val (.int i), s7] [(.int (1 : Int32)), (.int (0 : Int32)), (.ref b2), (.int (ff (0 : Int32).toNatClampNeg)), (.ref b46)])) (fun _ ks_ => XS.iconst X75.here hx rfl (hb hby d7_172) ks_) ?_
          refine go (u' := T75.setTop (mkF m 174 #[.val (.ref o0), .val (.int (3 : Int32)), .val (.ref o2), .val (.ref o3), .val (.ref r63), .val (.int (0 : Int32)), .val (.int i), s7] [(.int ((0 : Int32) + (1 : Int32))), (.ref b2), (.int (ff (0 : Int32).toNatClampNeg)), (.ref b46)])) (fun _ ks_ => XS.iadd X75.here hx rfl (hb hby d7_173) rfl ks_) ?_
          refine go (u' := T75.setTop (mkF m 175 #[.val (.ref o0), .val (.int (3 : Int32)), .val (.ref o2), .val (.ref o3), .val (.ref r63), .val (.int (0 : Int32)), .val (.int i), s7] [(.int (ff ((0 : Int32) + (1 : Int32)).toNatClampNeg)), (.int (ff (0 : Int32).toNatClampNeg)), (.ref b46)])) (own_iaload X75 hx hZ e75 F72_5 (j := ((0 : Int32) + (1 : Int32))) (v := (ff ((0 : Int32) + (1 : Int32)).toNatClampNeg)) (by decide) (by decide) rfl (f := (mkF m 174 #[.val (.ref o0), .val (.int (3 : Int32)), .val (.ref o2), .val (.ref o3), .val (.ref r63), .val (.int (0 : Int32)), .val (.int i), s7] [(.int ((0 : Int32) + (1 : Int32))), (.ref b2), (.int (ff (0 : Int32).toNatClampNeg)), (.ref b46)])) rfl rfl (hb hby d7_174)) ?_
          obtain ⟨_, _, ⟨T76, L76, k76, n76⟩, -, X76, ⟨Lc76, hQ76, l76, y76, z76⟩, st76⟩ := Jvm.LawKit.callS X75 hx (y := (⟨"java/util/Arrays", "sort", "([III)V"⟩ : MethodName)) hown (mvT hZ (ww hw 61 rfl)) (mvT hZ (ww hw 62 rfl)) (mvT hZ (ww hw 51 rfl)) (mvT hZ (ww hw 63 rfl)) (by decide) (backOf (W := 0) (rm10 l Z a0 hw [] b46 (ff (0 : Int32).toNatClampNeg) (ff ((0 : Int32) + (1 : Int32)).toNatClampNeg) k.toInt32.toNatClampNeg oc h72 n0 Z72 g_b46 F72_6 (by rw [(own_n32 F3.bound).2]; omega) (by rw [(own_n32 F3.bound).2]; exact hgood.2 ⟨0, by omega⟩)) hZ (ww hw 63 rfl) (ww hw 51 rfl) (by decide) (by decide)) (g := (mkF m 175 #[.val (.ref o0), .val (.int (3 : Int32)), .val (.ref o2), .val (.ref o3), .val (.ref r63), .val (.int (0 : Int32)), .val (.int i), s7] [(.int (ff ((0 : Int32) + (1 : Int32)).toNatClampNeg)), (.int (ff (0 : Int32).toNatClampNeg)), (.ref b46)])) rfl (by rw [hml]; rfl) (argsL := [(.ref b46), (.int (ff (0 : Int32).toNatClampNeg)), (.int (ff ((0 : Int32) + (1 : Int32)).toNatClampNeg))]) (rest := []) (lenOf pd__40__91_III_41_V rfl) rfl (by show 2 * 0 + _ ≤ _; exact Nat.le_of_eq rfl) (hb hby d7_175) (fun _ _ => ⟨rfl, e75, (by decide : 3 + 0 ≤ _), (by decide : 10 + 0 ≤ _)⟩)
          dsimp only [Pt.U, Pt.locs, Pt.cells, Pt.slots] at X76 l76 y76 z76 st76 hQ76
          subst l76 y76 z76
          obtain ⟨g176, rfl, N76q, Kq76, Fa77⟩ := hQ76
          have N76 := Fr.app N72 N76q
          have K76 : Keep h0 T76.heap [o0] := K72.trans Kq76 (allS (P := fun x => x ∈ [o0] ∨ h0.size ≤ x) (Or.inr sz_b46) all0)
          have Z76 : n0 ≤ T76.heap.size := Nat.le_trans Z72 Kq76.1
          have Fa78 : Exa Z T76.heap o0 "com/example/traceweave/traceweave/pattern/NumberedPattern$Adjacency" := F72_0.keep Kq76
          have Fa79 : Fld Z T76.heap o0 "com/example/traceweave/traceweave/pattern/NumberedPattern$Adjacency" "first" "[I" (.ref b2) := F72_1.keep Kq76 (ninS ne_o0_b46 nin0)
          have Fa80 : Fld Z T76.heap o0 "com/example/traceweave/traceweave/pattern/NumberedPattern$Adjacency" "otherEnd" "[I" (.ref b46) := F72_2.keep Kq76 (ninS ne_o0_b46 nin0)
          have Fa81 : PI Z T76.heap o2 .int k ef := F72_3.keep Kq76 (ninS ne_o2_b46 nin0)
          have Fa82 : PI Z T76.heap o3 .int k tf := F72_4.keep Kq76 (ninS ne_o3_b46 nin0)
          have Fa83 : PI Z T76.heap b2 .int 4 ff := F72_5.keep Kq76 (ninS ne_b2_b46 nin0)
          have Fa84 : PI Z T76.heap r63 .int 3 nc := F72_7.keep Kq76 (ninS (Ne.symm ne_b46_r63) nin0)
          refine go (u' := T76.setTop (mkF m 178 #[.val (.ref o0), .val (.int (3 : Int32)), .val (.ref o2), .val (.ref o3), .val (.ref r63), .val (.int (0 : Int32)), .val (.int i), s7] [])) st76 ?_
          refine go (u' := T76.setTop (mkF m 181 #[.val (.ref o0), .val (.int (3 : Int32)), .val (.ref o2), .val (.ref o3), .val (.ref r63), .val (.int ((0 : Int32) + (1 : Int32))), .val (.int i), s7] [])) (fun _ ks_ => XS.iinc X76.here hx rfl (hb hby d7_178) rfl (l' := #[.val (.ref o0), .val (.int (3 : Int32)), .val (.ref o2), .val (.ref o3), .val (.ref r63), .val (.int ((0 : Int32) + (1 : Int32))), .val (.int i), s7]) rfl ks_) ?_
          refine go (u' := T76.setTop (mkF m 149 #[.val (.ref o0), .val (.int (3 : Int32)), .val (.ref o2), .val (.ref o3), .val (.ref r63), .val (.int ((0 : Int32) + (1 : Int32))), .val (.int i), s7] [])) (fun _ ks_ => XS.goto X76.here hx rfl (pc0 := 181) (pc' := 149) rfl (hb hby d7_181) (by decide) (by decide) ks_) ?_
          refine go (u' := T76.setTop (mkF m 151 #[.val (.ref o0), .val (.int (3 : Int32)), .val (.ref o2), .val (.ref o3), .val (.ref r63), .val (.int ((0 : Int32) + (1 : Int32))), .val (.int i), s7] [(.int ((0 : Int32) + (1 : Int32)))])) (fun _ ks_ => XS.iload X76.here hx rfl (hb hby d7_149) rfl  ks_) ?_
          refine go (u' := T76.setTop (mkF m 152 #[.val (.ref o0), .val (.int (3 : Int32)), .val (.ref o2), .val (.ref o3), .val (.ref r63), .val (.int ((0 : Int32) + (1 : Int32))), .val (.int i), s7] [(.int (3 : Int32)), (.int ((0 : Int32) + (1 : Int32)))])) (fun _ ks_ => XS.iloadN X76.here hx rfl (hb hby d7_151) rfl  ks_) ?_
          refine go (u' := T76.setTop (mkF m 155 #[.val (.ref o0), .val (.int (3 : Int32)), .val (.ref o2), .val (.ref o3), .val (.ref r63), .val (.int ((0 : Int32) + (1 : Int32))), .val (.int i), s7] [])) (fun _ ks_ => XS.icmpNo X76.here hx rfl (hb hby d7_152) rfl (tlt (show ((0 : Int32) + (1 : Int32)) < (3 : Int32) from (by decide))).2.1 ks_) ?_
          refine go (u' := T76.setTop (mkF m 156 #[.val (.ref o0), .val (.int (3 : Int32)), .val (.ref o2), .val (.ref o3), .val (.ref r63), .val (.int ((0 : Int32) + (1 : Int32))), .val (.int i), s7] [(.ref o0)])) (fun _ ks_ => XS.aloadN X76.here hx rfl (hb hby d7_155) rfl rfl ks_) ?_
          obtain ⟨T85, X85, e85, st85⟩ := getF X76 hx hZ hown (host := "") (Or.inl (ww hw 47 rfl)) Via.refl (rfl : T76.heap = _) Fa80 (g := (mkF m 156 #[.val (.ref o0), .val (.int (3 : Int32)), .val (.ref o2), .val (.ref o3), .val (.ref r63), .val (.int ((0 : Int32) + (1 : Int32))), .val (.int i), s7] [(.ref o0)])) rfl rfl (hb hby d7_156)
          refine go (u' := T85.setTop (mkF m 159 #[.val (.ref o0), .val (.int (3 : Int32)), .val (.ref o2), .val (.ref o3), .val (.ref r63), .val (.int ((0 : Int32) + (1 : Int32))), .val (.int i), s7] [(.ref b46)])) st85 ?_
          refine go (u' := T85.setTop (mkF m 160 #[.val (.ref o0), .val (.int (3 : Int32)), .val (.ref o2), .val (.ref o3), .val (.ref r63), .val (.int ((0 : Int32) + (1 : Int32))), .val (.int i), s7] [(.ref o0), (.ref b46)])) (fun _ ks_ => XS.aloadN X85.here hx rfl (hb hby d7_159) rfl rfl ks_) ?_
          obtain ⟨T86, X86, e86, st86⟩ := getF X85 hx hZ hown (host := "") (Or.inl (ww hw 45 rfl)) Via.refl e85 Fa79 (g := (mkF m 160 #[.val (.ref o0), .val (.int (3 : Int32)), .val (.ref o2), .val (.ref o3), .val (.ref r63), .val (.int ((0 : Int32) + (1 : Int32))), .val (.int i), s7] [(.ref o0), (.ref b46)])) rfl rfl (hb hby d7_160)
          refine go (u' := T86.setTop (mkF m 163 #[.val (.ref o0), .val (.int (3 : Int32)), .val (.ref o2), .val (.ref o3), .val (.ref r63), .val (.int ((0 : Int32) + (1 : Int32))), .val (.int i), s7] [(.ref b2), (.ref b46)])) st86 ?_
          refine go (u' := T86.setTop (mkF m 165 #[.val (.ref o0), .val (.int (3 : Int32)), .val (.ref o2), .val (.ref o3), .val (.ref r63), .val (.int ((0 : Int32) + (1 : Int32))), .val (.int i), s7] [(.int ((0 : Int32) + (1 : Int32))), (.ref b2), (.ref b46)])) (fun _ ks_ => XS.iload X86.here hx rfl (hb hby d7_163) rfl  ks_) ?_
          refine go (u' := T86.setTop (mkF m 166 #[.val (.ref o0), .val (.int (3 : Int32)), .val (.ref o2), .val (.ref o3), .val (.ref r63), .val (.int ((0 : Int32) + (1 : Int32))), .val (.int i), s7] [(.int (ff ((0 : Int32) + (1 : Int32)).toNatClampNeg)), (.ref b46)])) (own_iaload X86 hx hZ e86 Fa83 (j := ((0 : Int32) + (1 : Int32))) (v := (ff ((0 : Int32) + (1 : Int32)).toNatClampNeg)) (by decide) (by decide) rfl (f := (mkF m 165 #[.val (.ref o0), .val (.int (3 : Int32)), .val (.ref o2), .val (.ref o3), .val (.ref r63), .val (.int ((0 : Int32) + (1 : Int32))), .val (.int i), s7] [(.int ((0 : Int32) + (1 : Int32))), (.ref b2), (.ref b46)])) rfl rfl (hb hby d7_165)) ?_
          refine go (u' := T86.setTop (mkF m 167 #[.val (.ref o0), .val (.int (3 : Int32)), .val (.ref o2), .val (.ref o3), .val (.ref r63), .val (.int ((0 : Int32) + (1 : Int32))), .val (.int i), s7] [(.ref o0), (.int (ff ((0 : Int32) + (1 : Int32)).toNatClampNeg)), (.ref b46)])) (fun _ ks_ => XS.aloadN X86.here hx rfl (hb hby d7_166) rfl rfl ks_) ?_
          obtain ⟨T87, X87, e87, st87⟩ := getF X86 hx hZ hown (host := "") (Or.inl (ww hw 45 rfl)) Via.refl e86 Fa79 (g := (mkF m 167 #[.val (.ref o0), .val (.int (3 : Int32)), .val (.ref o2), .val (.ref o3), .val (.ref r63), .val (.int ((0 : Int32) + (1 : Int32))), .val (.int i), s7] [(.ref o0), (.int (ff ((0 : Int32) + (1 : Int32)).toNatClampNeg)), (.ref b46)])) rfl rfl (hb hby d7_167)
          refine go (u' := T87.setTop (mkF m 170 #[.val (.ref o0), .val (.int (3 : Int32)), .val (.ref o2), .val (.ref o3), .val (.ref r63), .val (.int ((0 : Int32) + (1 : Int32))), .val (.int i), s7] [(.ref b2), (.int (ff ((0 : Int32) + (1 : Int32)).toNatClampNeg)), (.ref b46)])) st87 ?_
          refine go (u' := T87.setTop (mkF m 172 #[.val (.ref o0), .val (.int (3 : Int32)), .val (.ref o2), .val (.ref o3), .val (.ref r63), .val (.int ((0 : Int32) + (1 : Int32))), .val (.int i), s7] [(.int ((0 : Int32) + (1 : Int32))), (.ref b2), (.int (ff ((0 : Int32) + (1 : Int32)).toNatClampNeg)), (.ref b46)])) (fun _ ks_ => XS.iload X87.here hx rfl (hb hby d7_170) rfl  ks_) ?_
          refine go (u' := T87.setTop (mkF m 173 #[.val (.ref o0), .val (.int (3 : Int32)), .val (.ref o2), .val (.ref o3), .val (.ref r63), .val (.int ((0 : Int32) + (1 : Int32))), .val (.int i), s7] [(.int (1 : Int32)), (.int ((0 : Int32) + (1 : Int32))), (.ref b2), (.int (ff ((0 : Int32) + (1 : Int32)).toNatClampNeg)), (.ref b46)])) (fun _ ks_ => XS.iconst X87.here hx rfl (hb hby d7_172) ks_) ?_
          refine go (u' := T87.setTop (mkF m 174 #[.val (.ref o0), .val (.int (3 : Int32)), .val (.ref o2), .val (.ref o3), .val (.ref r63), .val (.int ((0 : Int32) + (1 : Int32))), .val (.int i), s7] [(.int (((0 : Int32) + (1 : Int32)) + (1 : Int32))), (.ref b2), (.int (ff ((0 : Int32) + (1 : Int32)).toNatClampNeg)), (.ref b46)])) (fun _ ks_ => XS.iadd X87.here hx rfl (hb hby d7_173) rfl ks_) ?_
          refine go (u' := T87.setTop (mkF m 175 #[.val (.ref o0), .val (.int (3 : Int32)), .val (.ref o2), .val (.ref o3), .val (.ref r63), .val (.int ((0 : Int32) + (1 : Int32))), .val (.int i), s7] [(.int (ff (((0 : Int32) + (1 : Int32)) + (1 : Int32)).toNatClampNeg)), (.int (ff ((0 : Int32) + (1 : Int32)).toNatClampNeg)), (.ref b46)])) (own_iaload X87 hx hZ e87 Fa83 (j := (((0 : Int32) + (1 : Int32)) + (1 : Int32))) (v := (ff (((0 : Int32) + (1 : Int32)) + (1 : Int32)).toNatClampNeg)) (by decide) (by decide) rfl (f := (mkF m 174 #[.val (.ref o0), .val (.int (3 : Int32)), .val (.ref o2), .val (.ref o3), .val (.ref r63), .val (.int ((0 : Int32) + (1 : Int32))), .val (.int i), s7] [(.int (((0 : Int32) + (1 : Int32)) + (1 : Int32))), (.ref b2), (.int (ff ((0 : Int32) + (1 : Int32)).toNatClampNeg)), (.ref b46)])) rfl rfl (hb hby d7_174)) ?_
          obtain ⟨_, _, ⟨T88, L88, k88, n88⟩, -, X88, ⟨Lc88, hQ88, l88, y88, z88⟩, st88⟩ := Jvm.LawKit.callS X87 hx (y := (⟨"java/util/Arrays", "sort", "([III)V"⟩ : MethodName)) hown (mvT hZ (ww hw 61 rfl)) (mvT hZ (ww hw 62 rfl)) (mvT hZ (ww hw 51 rfl)) (mvT hZ (ww hw 63 rfl)) (by decide) (backOf (W := 0) (rm10 l Z a0 hw [] b46 (ff ((0 : Int32) + (1 : Int32)).toNatClampNeg) (ff (((0 : Int32) + (1 : Int32)) + (1 : Int32)).toNatClampNeg) k.toInt32.toNatClampNeg g176 T76.heap n0 Z76 g_b46 Fa77 (by rw [(own_n32 F3.bound).2]; omega) (by rw [(own_n32 F3.bound).2]; exact hgood.2 ⟨1, by omega⟩)) hZ (ww hw 63 rfl) (ww hw 51 rfl) (by decide) (by decide)) (g := (mkF m 175 #[.val (.ref o0), .val (.int (3 : Int32)), .val (.ref o2), .val (.ref o3), .val (.ref r63), .val (.int ((0 : Int32) + (1 : Int32))), .val (.int i), s7] [(.int (ff (((0 : Int32) + (1 : Int32)) + (1 : Int32)).toNatClampNeg)), (.int (ff ((0 : Int32) + (1 : Int32)).toNatClampNeg)), (.ref b46)])) rfl (by rw [hml]; rfl) (argsL := [(.ref b46), (.int (ff ((0 : Int32) + (1 : Int32)).toNatClampNeg)), (.int (ff (((0 : Int32) + (1 : Int32)) + (1 : Int32)).toNatClampNeg))]) (rest := []) (lenOf pd__40__91_III_41_V rfl) rfl (by show 2 * 0 + _ ≤ _; exact Nat.le_of_eq rfl) (hb hby d7_175) (fun _ _ => ⟨rfl, e87, (by decide : 3 + 0 ≤ _), (by decide : 10 + 0 ≤ _)⟩)
          dsimp only [Pt.U, Pt.locs, Pt.cells, Pt.slots] at X88 l88 y88 z88 st88 hQ88
          subst l88 y88 z88
          obtain ⟨g188, rfl, N88q, Kq88, Fa89⟩ := hQ88
          have N88 := Fr.app N76 N88q
          have K88 : Keep h0 T88.heap [o0] := K76.trans Kq88 (allS (P := fun x => x ∈ [o0] ∨ h0.size ≤ x) (Or.inr sz_b46) all0)
          have Z88 : n0 ≤ T88.heap.size := Nat.le_trans Z76 Kq88.1
          have Fa90 : Exa Z T88.heap o0 "com/example/traceweave/traceweave/pattern/NumberedPattern$Adjacency" := Fa78.keep Kq88
          have Fa91 : Fld Z T88.heap o0 "com/example/traceweave/traceweave/pattern/NumberedPattern$Adjacency" "first" "[I" (.ref b2) := Fa79.keep Kq88 (ninS ne_o0_b46 nin0)
          have Fa92 : Fld Z T88.heap o0 "com/example/traceweave/traceweave/pattern/NumberedPattern$Adjacency" "otherEnd" "[I" (.ref b46) := Fa80.keep Kq88 (ninS ne_o0_b46 nin0)
          have Fa93 : PI Z T88.heap o2 .int k ef := Fa81.keep Kq88 (ninS ne_o2_b46 nin0)
          have Fa94 : PI Z T88.heap o3 .int k tf := Fa82.keep Kq88 (ninS ne_o3_b46 nin0)
          have Fa95 : PI Z T88.heap b2 .int 4 ff := Fa83.keep Kq88 (ninS ne_b2_b46 nin0)
          have Fa96 : PI Z T88.heap r63 .int 3 nc := Fa84.keep Kq88 (ninS (Ne.symm ne_b46_r63) nin0)
          refine go (u' := T88.setTop (mkF m 178 #[.val (.ref o0), .val (.int (3 : Int32)), .val (.ref o2), .val (.ref o3), .val (.ref r63), .val (.int ((0 : Int32) + (1 : Int32))), .val (.int i), s7] [])) st88 ?_
          refine go (u' := T88.setTop (mkF m 181 #[.val (.ref o0), .val (.int (3 : Int32)), .val (.ref o2), .val (.ref o3), .val (.ref r63), .val (.int (((0 : Int32) + (1 : Int32)) + (1 : Int32))), .val (.int i), s7] [])) (fun _ ks_ => XS.iinc X88.here hx rfl (hb hby d7_178) rfl (l' := #[.val (.ref o0), .val (.int (3 : Int32)), .val (.ref o2), .val (.ref o3), .val (.ref r63), .val (.int (((0 : Int32) + (1 : Int32)) + (1 : Int32))), .val (.int i), s7]) rfl ks_) ?_
          refine go (u' := T88.setTop (mkF m 149 #[.val (.ref o0), .val (.int (3 : Int32)), .val (.ref o2), .val (.ref o3), .val (.ref r63), .val (.int (((0 : Int32) + (1 : Int32)) + (1 : Int32))), .val (.int i), s7] [])) (fun _ ks_ => XS.goto X88.here hx rfl (pc0 := 181) (pc' := 149) rfl (hb hby d7_181) (by decide) (by decide) ks_) ?_
          refine go (u' := T88.setTop (mkF m 151 #[.val (.ref o0), .val (.int (3 : Int32)), .val (.ref o2), .val (.ref o3), .val (.ref r63), .val (.int (((0 : Int32) + (1 : Int32)) + (1 : Int32))), .val (.int i), s7] [(.int (((0 : Int32) + (1 : Int32)) + (1 : Int32)))])) (fun _ ks_ => XS.iload X88.here hx rfl (hb hby d7_149) rfl  ks_) ?_
          refine go (u' := T88.setTop (mkF m 152 #[.val (.ref o0), .val (.int (3 : Int32)), .val (.ref o2), .val (.ref o3), .val (.ref r63), .val (.int (((0 : Int32) + (1 : Int32)) + (1 : Int32))), .val (.int i), s7] [(.int (3 : Int32)), (.int (((0 : Int32) + (1 : Int32)) + (1 : Int32)))])) (fun _ ks_ => XS.iloadN X88.here hx rfl (hb hby d7_151) rfl  ks_) ?_
          refine go (u' := T88.setTop (mkF m 155 #[.val (.ref o0), .val (.int (3 : Int32)), .val (.ref o2), .val (.ref o3), .val (.ref r63), .val (.int (((0 : Int32) + (1 : Int32)) + (1 : Int32))), .val (.int i), s7] [])) (fun _ ks_ => XS.icmpNo X88.here hx rfl (hb hby d7_152) rfl (tlt (show (((0 : Int32) + (1 : Int32)) + (1 : Int32)) < (3 : Int32) from (by decide))).2.1 ks_) ?_
          refine go (u' := T88.setTop (mkF m 156 #[.val (.ref o0), .val (.int (3 : Int32)), .val (.ref o2), .val (.ref o3), .val (.ref r63), .val (.int (((0 : Int32) + (1 : Int32)) + (1 : Int32))), .val (.int i), s7] [(.ref o0)])) (fun _ ks_ => XS.aloadN X88.here hx rfl (hb hby d7_155) rfl rfl ks_) ?_
          obtain ⟨T97, X97, e97, st97⟩ := getF X88 hx hZ hown (host := "") (Or.inl (ww hw 47 rfl)) Via.refl (rfl : T88.heap = _) Fa92 (g := (mkF m 156 #[.val (.ref o0), .val (.int (3 : Int32)), .val (.ref o2), .val (.ref o3), .val (.ref r63), .val (.int (((0 : Int32) + (1 : Int32)) + (1 : Int32))), .val (.int i), s7] [(.ref o0)])) rfl rfl (hb hby d7_156)
          refine go (u' := T97.setTop (mkF m 159 #[.val (.ref o0), .val (.int (3 : Int32)), .val (.ref o2), .val (.ref o3), .val (.ref r63), .val (.int (((0 : Int32) + (1 : Int32)) + (1 : Int32))), .val (.int i), s7] [(.ref b46)])) st97 ?_
          refine go (u' := T97.setTop (mkF m 160 #[.val (.ref o0), .val (.int (3 : Int32)), .val (.ref o2), .val (.ref o3), .val (.ref r63), .val (.int (((0 : Int32) + (1 : Int32)) + (1 : Int32))), .val (.int i), s7] [(.ref o0), (.ref b46)])) (fun _ ks_ => XS.aloadN X97.here hx rfl (hb hby d7_159) rfl rfl ks_) ?_
          obtain ⟨T98, X98, e98, st98⟩ := getF X97 hx hZ hown (host := "") (Or.inl (ww hw 45 rfl)) Via.refl e97 Fa91 (g := (mkF m 160 #[.val (.ref o0), .val (.int (3 : Int32)), .val (.ref o2), .val (.ref o3), .val (.ref r63), .val (.int (((0 : Int32) + (1 : Int32)) + (1 : Int32))), .val (.int i), s7] [(.ref o0), (.ref b46)])) rfl rfl (hb hby d7_160)
          refine go (u' := T98.setTop (mkF m 163 #[.val (.ref o0), .val (.int (3 : Int32)), .val (.ref o2), .val (.ref o3), .val (.ref r63), .val (.int (((0 : Int32) + (1 : Int32)) + (1 : Int32))), .val (.int i), s7] [(.ref b2), (.ref b46)])) st98 ?_
          refine go (u' := T98.setTop (mkF m 165 #[.val (.ref o0), .val (.int (3 : Int32)), .val (.ref o2), .val (.ref o3), .val (.ref r63), .val (.int (((0 : Int32) + (1 : Int32)) + (1 : Int32))), .val (.int i), s7] [(.int (((0 : Int32) + (1 : Int32)) + (1 : Int32))), (.ref b2), (.ref b46)])) (fun _ ks_ => XS.iload X98.here hx rfl (hb hby d7_163) rfl  ks_) ?_
          refine go (u' := T98.setTop (mkF m 166 #[.val (.ref o0), .val (.int (3 : Int32)), .val (.ref o2), .val (.ref o3), .val (.ref r63), .val (.int (((0 : Int32) + (1 : Int32)) + (1 : Int32))), .val (.int i), s7] [(.int (ff (((0 : Int32) + (1 : Int32)) + (1 : Int32)).toNatClampNeg)), (.ref b46)])) (own_iaload X98 hx hZ e98 Fa95 (j := (((0 : Int32) + (1 : Int32)) + (1 : Int32))) (v := (ff (((0 : Int32) + (1 : Int32)) + (1 : Int32)).toNatClampNeg)) (by decide) (by decide) rfl (f := (mkF m 165 #[.val (.ref o0), .val (.int (3 : Int32)), .val (.ref o2), .val (.ref o3), .val (.ref r63), .val (.int (((0 : Int32) + (1 : Int32)) + (1 : Int32))), .val (.int i), s7] [(.int (((0 : Int32) + (1 : Int32)) + (1 : Int32))), (.ref b2), (.ref b46)])) rfl rfl (hb hby d7_165)) ?_
          refine go (u' := T98.setTop (mkF m 167 #[.val (.ref o0), .val (.int (3 : Int32)), .val (.ref o2), .val (.ref o3), .val (.ref r63), .val (.int (((0 : Int32) + (1 : Int32)) + (1 : Int32))), .val (.int i), s7] [(.ref o0), (.int (ff (((0 : Int32) + (1 : Int32)) + (1 : Int32)).toNatClampNeg)), (.ref b46)])) (fun _ ks_ => XS.aloadN X98.here hx rfl (hb hby d7_166) rfl rfl ks_) ?_
          obtain ⟨T99, X99, e99, st99⟩ := getF X98 hx hZ hown (host := "") (Or.inl (ww hw 45 rfl)) Via.refl e98 Fa91 (g := (mkF m 167 #[.val (.ref o0), .val (.int (3 : Int32)), .val (.ref o2), .val (.ref o3), .val (.ref r63), .val (.int (((0 : Int32) + (1 : Int32)) + (1 : Int32))), .val (.int i), s7] [(.ref o0), (.int (ff (((0 : Int32) + (1 : Int32)) + (1 : Int32)).toNatClampNeg)), (.ref b46)])) rfl rfl (hb hby d7_167)
          refine go (u' := T99.setTop (mkF m 170 #[.val (.ref o0), .val (.int (3 : Int32)), .val (.ref o2), .val (.ref o3), .val (.ref r63), .val (.int (((0 : Int32) + (1 : Int32)) + (1 : Int32))), .val (.int i), s7] [(.ref b2), (.int (ff (((0 : Int32) + (1 : Int32)) + (1 : Int32)).toNatClampNeg)), (.ref b46)])) st99 ?_
          refine go (u' := T99.setTop (mkF m 172 #[.val (.ref o0), .val (.int (3 : Int32)), .val (.ref o2), .val (.ref o3), .val (.ref r63), .val (.int (((0 : Int32) + (1 : Int32)) + (1 : Int32))), .val (.int i), s7] [(.int (((0 : Int32) + (1 : Int32)) + (1 : Int32))), (.ref b2), (.int (ff (((0 : Int32) + (1 : Int32)) + (1 : Int32)).toNatClampNeg)), (.ref b46)])) (fun _ ks_ => XS.iload X99.here hx rfl (hb hby d7_170) rfl  ks_) ?_
          refine go (u' := T99.setTop (mkF m 173 #[.val (.ref o0), .val (.int (3 : Int32)), .val (.ref o2), .val (.ref o3), .val (.ref r63), .val (.int (((0 : Int32) + (1 : Int32)) + (1 : Int32))), .val (.int i), s7] [(.int (1 : Int32)), (.int (((0 : Int32) + (1 : Int32)) + (1 : Int32))), (.ref b2), (.int (ff (((0 : Int32) + (1 : Int32)) + (1 : Int32)).toNatClampNeg)), (.ref b46)])) (fun _ ks_ => XS.iconst X99.here hx rfl (hb hby d7_172) ks_) ?_
          refine go (u' := T99.setTop (mkF m 174 #[.val (.ref o0), .val (.int (3 : Int32)), .val (.ref o2), .val (.ref o3), .val (.ref r63), .val (.int (((0 : Int32) + (1 : Int32)) + (1 : Int32))), .val (.int i), s7] [(.int ((((0 : Int32) + (1 : Int32)) + (1 : Int32)) + (1 : Int32))), (.ref b2), (.int (ff (((0 : Int32) + (1 : Int32)) + (1 : Int32)).toNatClampNeg)), (.ref b46)])) (fun _ ks_ => XS.iadd X99.here hx rfl (hb hby d7_173) rfl ks_) ?_
          refine go (u' := T99.setTop (mkF m 175 #[.val (.ref o0), .val (.int (3 : Int32)), .val (.ref o2), .val (.ref o3), .val (.ref r63), .val (.int (((0 : Int32) + (1 : Int32)) + (1 : Int32))), .val (.int i), s7] [(.int (ff ((((0 : Int32) + (1 : Int32)) + (1 : Int32)) + (1 : Int32)).toNatClampNeg)), (.int (ff (((0 : Int32) + (1 : Int32)) + (1 : Int32)).toNatClampNeg)), (.ref b46)])) (own_iaload X99 hx hZ e99 Fa95 (j := ((((0 : Int32) + (1 : Int32)) + (1 : Int32)) + (1 : Int32))) (v := (ff ((((0 : Int32) + (1 : Int32)) + (1 : Int32)) + (1 : Int32)).toNatClampNeg)) (by decide) (by decide) rfl (f := (mkF m 174 #[.val (.ref o0), .val (.int (3 : Int32)), .val (.ref o2), .val (.ref o3), .val (.ref r63), .val (.int (((0 : Int32) + (1 : Int32)) + (1 : Int32))), .val (.int i), s7] [(.int ((((0 : Int32) + (1 : Int32)) + (1 : Int32)) + (1 : Int32))), (.ref b2), (.int (ff (((0 : Int32) + (1 : Int32)) + (1 : Int32)).toNatClampNeg)), (.ref b46)])) rfl rfl (hb hby d7_174)) ?_
          obtain ⟨_, _, ⟨T100, L100, k100, n100⟩, -, X100, ⟨Lc100, hQ100, l100, y100, z100⟩, st100⟩ := Jvm.LawKit.callS X99 hx (y := (⟨"java/util/Arrays", "sort", "([III)V"⟩ : MethodName)) hown (mvT hZ (ww hw 61 rfl)) (mvT hZ (ww hw 62 rfl)) (mvT hZ (ww hw 51 rfl)) (mvT hZ (ww hw 63 rfl)) (by decide) (backOf (W := 0) (rm10 l Z a0 hw [] b46 (ff (((0 : Int32) + (1 : Int32)) + (1 : Int32)).toNatClampNeg) (ff ((((0 : Int32) + (1 : Int32)) + (1 : Int32)) + (1 : Int32)).toNatClampNeg) k.toInt32.toNatClampNeg g188 T88.heap n0 Z88 g_b46 Fa89 (by rw [(own_n32 F3.bound).2]; omega) (by rw [(own_n32 F3.bound).2]; exact hgood.2 ⟨2, by omega⟩)) hZ (ww hw 63 rfl) (ww hw 51 rfl) (by decide) (by decide)) (g := (mkF m 175 #[.val (.ref o0), .val (.int (3 : Int32)), .val (.ref o2), .val (.ref o3), .val (.ref r63), .val (.int (((0 : Int32) + (1 : Int32)) + (1 : Int32))), .val (.int i), s7] [(.int (ff ((((0 : Int32) + (1 : Int32)) + (1 : Int32)) + (1 : Int32)).toNatClampNeg)), (.int (ff (((0 : Int32) + (1 : Int32)) + (1 : Int32)).toNatClampNeg)), (.ref b46)])) rfl (by rw [hml]; rfl) (argsL := [(.ref b46), (.int (ff (((0 : Int32) + (1 : Int32)) + (1 : Int32)).toNatClampNeg)), (.int (ff ((((0 : Int32) + (1 : Int32)) + (1 : Int32)) + (1 : Int32)).toNatClampNeg))]) (rest := []) (lenOf pd__40__91_III_41_V rfl) rfl (by show 2 * 0 + _ ≤ _; exact Nat.le_of_eq rfl) (hb hby d7_175) (fun _ _ => ⟨rfl, e99, (by decide : 3 + 0 ≤ _), (by decide : 10 + 0 ≤ _)⟩)
          dsimp only [Pt.U, Pt.locs, Pt.cells, Pt.slots] at X100 l100 y100 z100 st100 hQ100
          subst l100 y100 z100
          obtain ⟨g1100, rfl, N100q, Kq100, Fa101⟩ := hQ100
          have N100 := Fr.app N88 N100q
          have K100 : Keep h0 T100.heap [o0] := K88.trans Kq100 (allS (P := fun x => x ∈ [o0] ∨ h0.size ≤ x) (Or.inr sz_b46) all0)
          have Z100 : n0 ≤ T100.heap.size := Nat.le_trans Z88 Kq100.1
          have Fa102 : Exa Z T100.heap o0 "com/example/traceweave/traceweave/pattern/NumberedPattern$Adjacency" := Fa90.keep Kq100
          have Fa103 : Fld Z T100.heap o0 "com/example/traceweave/traceweave/pattern/NumberedPattern$Adjacency" "first" "[I" (.ref b2) := Fa91.keep Kq100 (ninS ne_o0_b46 nin0)
          have Fa104 : Fld Z T100.heap o0 "com/example/traceweave/traceweave/pattern/NumberedPattern$Adjacency" "otherEnd" "[I" (.ref b46) := Fa92.keep Kq100 (ninS ne_o0_b46 nin0)
          have Fa105 : PI Z T100.heap o2 .int k ef := Fa93.keep Kq100 (ninS ne_o2_b46 nin0)
          have Fa106 : PI Z T100.heap o3 .int k tf := Fa94.keep Kq100 (ninS ne_o3_b46 nin0)
          have Fa107 : PI Z T100.heap b2 .int 4 ff := Fa95.keep Kq100 (ninS ne_b2_b46 nin0)
          have Fa108 : PI Z T100.heap r63 .int 3 nc := Fa96.keep Kq100 (ninS (Ne.symm ne_b46_r63) nin0)
          refine go (u' := T100.setTop (mkF m 178 #[.val (.ref o0), .val (.int (3 : Int32)), .val (.ref o2), .val (.ref o3), .val (.ref r63), .val (.int (((0 : Int32) + (1 : Int32)) + (1 : Int32))), .val (.int i), s7] [])) st100 ?_
          refine go (u' := T100.setTop (mkF m 181 #[.val (.ref o0), .val (.int (3 : Int32)), .val (.ref o2), .val (.ref o3), .val (.ref r63), .val (.int ((((0 : Int32) + (1 : Int32)) + (1 : Int32)) + (1 : Int32))), .val (.int i), s7] [])) (fun _ ks_ => XS.iinc X100.here hx rfl (hb hby d7_178) rfl (l' := #[.val (.ref o0), .val (.int (3 : Int32)), .val (.ref o2), .val (.ref o3), .val (.ref r63), .val (.int ((((0 : Int32) + (1 : Int32)) + (1 : Int32)) + (1 : Int32))), .val (.int i), s7]) rfl ks_) ?_
          refine go (u' := T100.setTop (mkF m 149 #[.val (.ref o0), .val (.int (3 : Int32)), .val (.ref o2), .val (.ref o3), .val (.ref r63), .val (.int ((((0 : Int32) + (1 : Int32)) + (1 : Int32)) + (1 : Int32))), .val (.int i), s7] [])) (fun _ ks_ => XS.goto X100.here hx rfl (pc0 := 181) (pc' := 149) rfl (hb hby d7_181) (by decide) (by decide) ks_) ?_
          refine go (u' := T100.setTop (mkF m 151 #[.val (.ref o0), .val (.int (3 : Int32)), .val (.ref o2), .val (.ref o3), .val (.ref r63), .val (.int ((((0 : Int32) + (1 : Int32)) + (1 : Int32)) + (1 : Int32))), .val (.int i), s7] [(.int ((((0 : Int32) + (1 : Int32)) + (1 : Int32)) + (1 : Int32)))])) (fun _ ks_ => XS.iload X100.here hx rfl (hb hby d7_149) rfl  ks_) ?_
          refine go (u' := T100.setTop (mkF m 152 #[.val (.ref o0), .val (.int (3 : Int32)), .val (.ref o2), .val (.ref o3), .val (.ref r63), .val (.int ((((0 : Int32) + (1 : Int32)) + (1 : Int32)) + (1 : Int32))), .val (.int i), s7] [(.int (3 : Int32)), (.int ((((0 : Int32) + (1 : Int32)) + (1 : Int32)) + (1 : Int32)))])) (fun _ ks_ => XS.iloadN X100.here hx rfl (hb hby d7_151) rfl  ks_) ?_
          refine go (u' := T100.setTop (mkF m 184 #[.val (.ref o0), .val (.int (3 : Int32)), .val (.ref o2), .val (.ref o3), .val (.ref r63), .val (.int ((((0 : Int32) + (1 : Int32)) + (1 : Int32)) + (1 : Int32))), .val (.int i), s7] [])) (fun _ ks_ => XS.icmpYes X100.here hx rfl (pc0 := 152) (pc' := 184) rfl (hb hby d7_152) rfl (flt (show ¬ (((((0 : Int32) + (1 : Int32)) + (1 : Int32)) + (1 : Int32)) < (3 : Int32)) from (by decide))).2.1 (by decide) (by decide) ks_) ?_
          rw [hG]
          refine g0 X100 hx hlk hret (hb hby d7_184) ?_ (Nat.le_of_ble_eq_true rfl) (Nat.le_of_ble_eq_true rfl)
          show Q_rm7 Z o0 o2 o3 k ef tf h0 n0 (none) T100.heap _
          exact ⟨b2, (.ref b46), rfl, N100, K100, Fa102, Fa103, Fa104, (own_Gto Fa107 hff), sz_b2⟩
        | succ t2 ih112 =>
          intro u nc oc T72 h72 Ls72 X72 e72 N72 Z72 K72 F72_0 F72_1 F72_2 F72_3 F72_4 F72_5 F72_6 F72_7 hu hnc
          have huv := own_iv (N := 0) F3.bound hu
          have hut : t2 + 1 ≤ k := by have := hu.2; have := hu.1; omega
          have hcx0 := he _ huv.2.1
          have hgj := hgood.1 ⟨k - (t2 + 1), by omega⟩ (by show k - (t2 + 1) < k; omega)
          replace hgj : 0 ≤ (N3 ff ef (k - (t2 + 1)) (ef (k - (t2 + 1))).toNatClampNeg).toInt ∧ (N3 ff ef (k - (t2 + 1)) (ef (k - (t2 + 1))).toNatClampNeg).toInt < k := hgj
          rw [← hnc, ← huv.2.2.2.2] at hgj
          refine go (u' := T72.setTop (mkF m 114 #[.val (.ref o0), .val (.int (3 : Int32)), .val (.ref o2), .val (.ref o3), .val (.ref r63), .val (.int u), .val (.int i), s7] [(.int u)])) (fun _ ks_ => XS.iload X72.here hx rfl (hb hby d7_112) rfl  ks_) ?_
          refine go (u' := T72.setTop (mkF m 115 #[.val (.ref o0), .val (.int (3 : Int32)), .val (.ref o2), .val (.ref o3), .val (.ref r63), .val (.int u), .val (.int i), s7] [(.ref o2), (.int u)])) (fun _ ks_ => XS.aloadN X72.here hx rfl (hb hby d7_114) rfl rfl ks_) ?_
          refine go (u' := T72.setTop (mkF m 116 #[.val (.ref o0), .val (.int (3 : Int32)), .val (.ref o2), .val (.ref o3), .val (.ref r63), .val (.int u), .val (.int i), s7] [(.int k.toInt32), (.int u)])) (own_alen X72 hx hZ e72 F72_3 (z := k.toInt32) rfl (f := (mkF m 115 #[.val (.ref o0), .val (.int (3 : Int32)), .val (.ref o2), .val (.ref o3), .val (.ref r63), .val (.int u), .val (.int i), s7] [(.ref o2), (.int u)])) rfl rfl (hb hby d7_115)) ?_
          refine go (u' := T72.setTop (mkF m 119 #[.val (.ref o0), .val (.int (3 : Int32)), .val (.ref o2), .val (.ref o3), .val (.ref r63), .val (.int u), .val (.int i), s7] [])) (fun _ ks_ => XS.icmpNo X72.here hx rfl (hb hby d7_116) rfl (tlt huv.2.2.1).2.1 ks_) ?_
          refine go (u' := T72.setTop (mkF m 120 #[.val (.ref o0), .val (.int (3 : Int32)), .val (.ref o2), .val (.ref o3), .val (.ref r63), .val (.int u), .val (.int i), s7] [(.ref o0)])) (fun _ ks_ => XS.aloadN X72.here hx rfl (hb hby d7_119) rfl rfl ks_) ?_
          obtain ⟨T109, X109, e109, st109⟩ := getF X72 hx hZ hown (host := "") (Or.inl (ww hw 47 rfl)) Via.refl e72 F72_2 (g := (mkF m 120 #[.val (.ref o0), .val (.int (3 : Int32)), .val (.ref o2), .val (.ref o3), .val (.ref r63), .val (.int u), .val (.int i), s7] [(.ref o0)])) rfl rfl (hb hby d7_120)
          refine go (u' := T109.setTop (mkF m 123 #[.val (.ref o0), .val (.int (3 : Int32)), .val (.ref o2), .val (.ref o3), .val (.ref r63), .val (.int u), .val (.int i), s7] [(.ref b46)])) st109 ?_
          refine go (u' := T109.setTop (mkF m 125 #[.val (.ref o0), .val (.int (3 : Int32)), .val (.ref o2), .val (.ref o3), .val (.ref r63), .val (.int u), .val (.int i), s7] [(.ref r63), (.ref b46)])) (fun _ ks_ => XS.aload X109.here hx rfl (hb hby d7_123) rfl rfl ks_) ?_
          refine go (u' := T109.setTop (mkF m 126 #[.val (.ref o0), .val (.int (3 : Int32)), .val (.ref o2), .val (.ref o3), .val (.ref r63), .val (.int u), .val (.int i), s7] [(.ref o2), (.ref r63), (.ref b46)])) (fun _ ks_ => XS.aloadN X109.here hx rfl (hb hby d7_125) rfl rfl ks_) ?_
          refine go (u' := T109.setTop (mkF m 128 #[.val (.ref o0), .val (.int (3 : Int32)), .val (.ref o2), .val (.ref o3), .val (.ref r63), .val (.int u), .val (.int i), s7] [(.int u), (.ref o2), (.ref r63), (.ref b46)])) (fun _ ks_ => XS.iload X109.here hx rfl (hb hby d7_126) rfl  ks_) ?_
          refine go (u' := T109.setTop (mkF m 129 #[.val (.ref o0), .val (.int (3 : Int32)), .val (.ref o2), .val (.ref o3), .val (.ref r63), .val (.int u), .val (.int i), s7] [(.int (ef u.toNatClampNeg)), (.ref r63), (.ref b46)])) (own_iaload X109 hx hZ e109 F72_3 (j := u) (v := (ef u.toNatClampNeg)) huv.1 huv.2.1 rfl (f := (mkF m 128 #[.val (.ref o0), .val (.int (3 : Int32)), .val (.ref o2), .val (.ref o3), .val (.ref r63), .val (.int u), .val (.int i), s7] [(.int u), (.ref o2), (.ref r63), (.ref b46)])) rfl rfl (hb hby d7_128)) ?_
          obtain ⟨cx, hcx⟩ : ∃ z, z = (ef u.toNatClampNeg) := ⟨_, rfl⟩
          rw [← hcx]
          have hcx' : 0 ≤ cx.toInt ∧ cx.toInt < 3 := by rw [hcx]; exact hcx0
          rw [← hcx] at hgj
          refine go (u' := T109.setTop (mkF m 130 #[.val (.ref o0), .val (.int (3 : Int32)), .val (.ref o2), .val (.ref o3), .val (.ref r63), .val (.int u), .val (.int i), s7] [(.int cx), (.ref r63), (.int cx), (.ref r63), (.ref b46)])) (fun _ ks_ => Jvm.Free.XT.dup2 X109.here hx rfl (hb hby d7_129) rfl rfl rfl ks_) ?_
          refine go (u' := T109.setTop (mkF m 131 #[.val (.ref o0), .val (.int (3 : Int32)), .val (.ref o2), .val (.ref o3), .val (.ref r63), .val (.int u), .val (.int i), s7] [(.int (nc cx.toNatClampNeg)), (.int cx), (.ref r63), (.ref b46)])) (own_iaload X109 hx hZ e109 F72_7 (j := cx) (v := (nc cx.toNatClampNeg)) (own_nn hcx'.1) (own_lt hcx'.1 hcx'.2) rfl (f := (mkF m 130 #[.val (.ref o0), .val (.int (3 : Int32)), .val (.ref o2), .val (.ref o3), .val (.ref r63), .val (.int u), .val (.int i), s7] [(.int cx), (.ref r63), (.int cx), (.ref r63), (.ref b46)])) rfl rfl (hb hby d7_130)) ?_
          refine go (u' := T109.setTop (mkF m 132 #[.val (.ref o0), .val (.int (3 : Int32)), .val (.ref o2), .val (.ref o3), .val (.ref r63), .val (.int u), .val (.int i), s7] [(.int (nc cx.toNatClampNeg)), (.int cx), (.ref r63), (.int (nc cx.toNatClampNeg)), (.ref b46)])) (fun _ ks_ => own_dupx2 X109.here hx rfl (hb hby d7_131) rfl ks_) ?_
          refine go (u' := T109.setTop (mkF m 133 #[.val (.ref o0), .val (.int (3 : Int32)), .val (.ref o2), .val (.ref o3), .val (.ref r63), .val (.int u), .val (.int i), s7] [(.int (1 : Int32)), (.int (nc cx.toNatClampNeg)), (.int cx), (.ref r63), (.int (nc cx.toNatClampNeg)), (.ref b46)])) (fun _ ks_ => XS.iconst X109.here hx rfl (hb hby d7_132) ks_) ?_
          refine go (u' := T109.setTop (mkF m 134 #[.val (.ref o0), .val (.int (3 : Int32)), .val (.ref o2), .val (.ref o3), .val (.ref r63), .val (.int u), .val (.int i), s7] [(.int ((nc cx.toNatClampNeg) + (1 : Int32))), (.int cx), (.ref r63), (.int (nc cx.toNatClampNeg)), (.ref b46)])) (fun _ ks_ => XS.iadd X109.here hx rfl (hb hby d7_133) rfl ks_) ?_
          obtain ⟨T110, h110, X110, e110, W110, st110⟩ := own_iastore X109 hx hZ e109 F72_7 (j := cx) (x := ((nc cx.toNatClampNeg) + (1 : Int32)))  (own_nn hcx'.1) (own_lt hcx'.1 hcx'.2) (f := (mkF m 134 #[.val (.ref o0), .val (.int (3 : Int32)), .val (.ref o2), .val (.ref o3), .val (.ref r63), .val (.int u), .val (.int i), s7] [(.int ((nc cx.toNatClampNeg) + (1 : Int32))), (.int cx), (.ref r63), (.int (nc cx.toNatClampNeg)), (.ref b46)])) rfl rfl (hb hby d7_134)
          have N110 := Fr.snoc X110 N72 g_r63
          have K110 : Keep h0 h110 [o0] := K72.wr W110 (Or.inr sz_r63)
          have Z110 : n0 ≤ h110.size := Nat.le_trans Z72 (Keep.of_wr W110).1
          have Fa111 : Exa Z h110 o0 "com/example/traceweave/traceweave/pattern/NumberedPattern$Adjacency" := F72_0.wr W110
          have Fa112 : Fld Z h110 o0 "com/example/traceweave/traceweave/pattern/NumberedPattern$Adjacency" "first" "[I" (.ref b2) := F72_1.other W110 (Or.inl ne_o0_r63)
          have Fa113 : Fld Z h110 o0 "com/example/traceweave/traceweave/pattern/NumberedPattern$Adjacency" "otherEnd" "[I" (.ref b46) := F72_2.other W110 (Or.inl ne_o0_r63)
          have Fa114 : PI Z h110 o2 .int k ef := F72_3.other W110 ne_o2_r63
          have Fa115 : PI Z h110 o3 .int k tf := F72_4.other W110 ne_o3_r63
          have Fa116 : PI Z h110 b2 .int 4 ff := F72_5.other W110 ne_b2_r63
          have Fa117 : PI Z h110 b46 .int k.toInt32.toNatClampNeg oc := F72_6.other W110 ne_b46_r63
          have Fa118 : PI Z h110 r63 .int 3 (upd nc (cx).toNatClampNeg ((nc cx.toNatClampNeg) + (1 : Int32))) := F72_7.set (own_lt hcx'.1 hcx'.2) W110
          refine go (u' := T110.setTop (mkF m 135 #[.val (.ref o0), .val (.int (3 : Int32)), .val (.ref o2), .val (.ref o3), .val (.ref r63), .val (.int u), .val (.int i), s7] [(.int (nc cx.toNatClampNeg)), (.ref b46)])) st110 ?_
          refine go (u' := T110.setTop (mkF m 136 #[.val (.ref o0), .val (.int (3 : Int32)), .val (.ref o2), .val (.ref o3), .val (.ref r63), .val (.int u), .val (.int i), s7] [(.ref o3), (.int (nc cx.toNatClampNeg)), (.ref b46)])) (fun _ ks_ => XS.aloadN X110.here hx rfl (hb hby d7_135) rfl rfl ks_) ?_
          refine go (u' := T110.setTop (mkF m 138 #[.val (.ref o0), .val (.int (3 : Int32)), .val (.ref o2), .val (.ref o3), .val (.ref r63), .val (.int u), .val (.int i), s7] [(.int u), (.ref o3), (.int (nc cx.toNatClampNeg)), (.ref b46)])) (fun _ ks_ => XS.iload X110.here hx rfl (hb hby d7_136) rfl  ks_) ?_
          refine go (u' := T110.setTop (mkF m 139 #[.val (.ref o0), .val (.int (3 : Int32)), .val (.ref o2), .val (.ref o3), .val (.ref r63), .val (.int u), .val (.int i), s7] [(.int (tf u.toNatClampNeg)), (.int (nc cx.toNatClampNeg)), (.ref b46)])) (own_iaload X110 hx hZ e110 Fa115 (j := u) (v := (tf u.toNatClampNeg)) huv.1 huv.2.1 rfl (f := (mkF m 138 #[.val (.ref o0), .val (.int (3 : Int32)), .val (.ref o2), .val (.ref o3), .val (.ref r63), .val (.int u), .val (.int i), s7] [(.int u), (.ref o3), (.int (nc cx.toNatClampNeg)), (.ref b46)])) rfl rfl (hb hby d7_138)) ?_
          obtain ⟨T119, h119, X119, e119, W119, st119⟩ := own_iastore X110 hx hZ e110 Fa117 (j := (nc cx.toNatClampNeg)) (x := (tf u.toNatClampNeg))  (own_nn hgj.1) (own_lt hgj.1 (by rw [(own_n32 F3.bound).2]; exact hgj.2)) (f := (mkF m 139 #[.val (.ref o0), .val (.int (3 : Int32)), .val (.ref o2), .val (.ref o3), .val (.ref r63), .val (.int u), .val (.int i), s7] [(.int (tf u.toNatClampNeg)), (.int (nc cx.toNatClampNeg)), (.ref b46)])) rfl rfl (hb hby d7_139)
          have N119 := Fr.snoc X119 N110 g_b46
          have K119 : Keep h0 h119 [o0] := K110.wr W119 (Or.inr sz_b46)
          have Z119 : n0 ≤ h119.size := Nat.le_trans Z110 (Keep.of_wr W119).1
          have Fa120 : Exa Z h119 o0 "com/example/traceweave/traceweave/pattern/NumberedPattern$Adjacency" := Fa111.wr W119
          have Fa121 : Fld Z h119 o0 "com/example/traceweave/traceweave/pattern/NumberedPattern$Adjacency" "first" "[I" (.ref b2) := Fa112.other W119 (Or.inl ne_o0_b46)
          have Fa122 : Fld Z h119 o0 "com/example/traceweave/traceweave/pattern/NumberedPattern$Adjacency" "otherEnd" "[I" (.ref b46) := Fa113.other W119 (Or.inl ne_o0_b46)
          have Fa123 : PI Z h119 o2 .int k ef := Fa114.other W119 ne_o2_b46
          have Fa124 : PI Z h119 o3 .int k tf := Fa115.other W119 ne_o3_b46
          have Fa125 : PI Z h119 b2 .int 4 ff := Fa116.other W119 ne_b2_b46
          have Fa126 : PI Z h119 r63 .int 3 (upd nc (cx).toNatClampNeg ((nc cx.toNatClampNeg) + (1 : Int32))) := Fa118.other W119 (Ne.symm ne_b46_r63)
          have Fa127 : PI Z h119 b46 .int k.toInt32.toNatClampNeg (upd oc ((nc cx.toNatClampNeg)).toNatClampNeg (tf u.toNatClampNeg)) := Fa117.set (own_lt hgj.1 (by rw [(own_n32 F3.bound).2]; exact hgj.2)) W119
          refine go (u' := T119.setTop (mkF m 140 #[.val (.ref o0), .val (.int (3 : Int32)), .val (.ref o2), .val (.ref o3), .val (.ref r63), .val (.int u), .val (.int i), s7] [])) st119 ?_
          refine go (u' := T119.setTop (mkF m 143 #[.val (.ref o0), .val (.int (3 : Int32)), .val (.ref o2), .val (.ref o3), .val (.ref r63), .val (.int (u + (1 : Int32))), .val (.int i), s7] [])) (fun _ ks_ => XS.iinc X119.here hx rfl (hb hby d7_140) rfl (l' := #[.val (.ref o0), .val (.int (3 : Int32)), .val (.ref o2), .val (.ref o3), .val (.ref r63), .val (.int (u + (1 : Int32))), .val (.int i), s7]) rfl ks_) ?_
          refine go (u' := T119.setTop (mkF m 112 #[.val (.ref o0), .val (.int (3 : Int32)), .val (.ref o2), .val (.ref o3), .val (.ref r63), .val (.int (u + (1 : Int32))), .val (.int i), s7] [])) (fun _ ks_ => XS.goto X119.here hx rfl (pc0 := 143) (pc' := 112) rfl (hb hby d7_143) (by decide) (by decide) ks_) ?_
          exact ih112 ((u + (1 : Int32))) ((upd nc (cx).toNatClampNeg ((nc cx.toNatClampNeg) + (1 : Int32)))) ((upd oc ((nc cx.toNatClampNeg)).toNatClampNeg (tf u.toNatClampNeg))) _ _ _ X119 e119 N119 Z119 K119 Fa120 Fa121 Fa122 Fa123 Fa124 Fa125 Fa127 Fa126 huv.2.2.2.1 (by rw [own_N3s hut, ← huv.2.2.2.2, ← hcx, huv.2.2.2.2, ← hnc])
      exact C112_2 k ((0 : Int32)) ff ((fun _ => 0)) _ _ _ X63 (rfl : T63.heap = _) N63 Z63 K63 Fa65 Fa66 Fa67 Fa68 Fa69 Fa70 Fa71 Fa64 ⟨by decide, by simp⟩ (by rw [Nat.sub_self]; rfl)
    | succ t ih24 =>
      intro i fc s7 T17 h17 Ls17 X17 e17 N17 Z17 K17 F17_0 F17_1 F17_2 F17_3 F17_4 F17_5 hi hfc hs7
      have hiv := own_iv (N := 0) F3.bound hi
      have htk : t + 1 ≤ k := by have := hi.2; have := hi.1; omega
      have hcb0 := he _ hiv.2.1
      refine go (u' := T17.setTop (mkF m 26 #[.val (.ref o0), .val (.int (3 : Int32)), .val (.ref o2), .val (.ref o3), .val (.ref o2), .val (.int k.toInt32), .val (.int i), s7] [(.int i)])) (fun _ ks_ => XS.iload X17.here hx rfl (hb hby d7_24) rfl  ks_) ?_
      refine go (u' := T17.setTop (mkF m 28 #[.val (.ref o0), .val (.int (3 : Int32)), .val (.ref o2), .val (.ref o3), .val (.ref o2), .val (.int k.toInt32), .val (.int i), s7] [(.int k.toInt32), (.int i)])) (fun _ ks_ => XS.iload X17.here hx rfl (hb hby d7_26) rfl  ks_) ?_
      refine go (u' := T17.setTop (mkF m 31 #[.val (.ref o0), .val (.int (3 : Int32)), .val (.ref o2), .val (.ref o3), .val (.ref o2), .val (.int k.toInt32), .val (.int i), s7] [])) (fun _ ks_ => XS.icmpNo X17.here hx rfl (hb hby d7_28) rfl (tlt hiv.2.2.1).2.1 ks_) ?_
      refine go (u' := T17.setTop (mkF m 33 #[.val (.ref o0), .val (.int (3 : Int32)), .val (.ref o2), .val (.ref o3), .val (.ref o2), .val (.int k.toInt32), .val (.int i), s7] [(.ref o2)])) (fun _ ks_ => XS.aload X17.here hx rfl (hb hby d7_31) rfl rfl ks_) ?_
      refine go (u' := T17.setTop (mkF m 35 #[.val (.ref o0), .val (.int (3 : Int32)), .val (.ref o2), .val (.ref o3), .val (.ref o2), .val (.int k.toInt32), .val (.int i), s7] [(.int i), (.ref o2)])) (fun _ ks_ => XS.iload X17.here hx rfl (hb hby d7_33) rfl  ks_) ?_
      refine go (u' := T17.setTop (mkF m 36 #[.val (.ref o0), .val (.int (3 : Int32)), .val (.ref o2), .val (.ref o3), .val (.ref o2), .val (.int k.toInt32), .val (.int i), s7] [(.int (ef i.toNatClampNeg))])) (own_iaload X17 hx hZ e17 F17_3 (j := i) (v := (ef i.toNatClampNeg)) hiv.1 hiv.2.1 rfl (f := (mkF m 35 #[.val (.ref o0), .val (.int (3 : Int32)), .val (.ref o2), .val (.ref o3), .val (.ref o2), .val (.int k.toInt32), .val (.int i), s7] [(.int i), (.ref o2)])) rfl rfl (hb hby d7_35)) ?_
      obtain ⟨cy, hcy⟩ : ∃ z, z = (ef i.toNatClampNeg) := ⟨_, rfl⟩
      rw [← hcy]
      refine go (u' := T17.setTop (mkF m 38 #[.val (.ref o0), .val (.int (3 : Int32)), .val (.ref o2), .val (.ref o3), .val (.ref o2), .val (.int k.toInt32), .val (.int i), .val (.int cy)] [])) (fun _ ks_ => XS.istoreS X17.here hx rfl (hb hby d7_36) rfl  rfl hs7 ks_) ?_
      have hcb : 0 ≤ cy.toInt ∧ cy.toInt < 3 := by rw [hcy]; exact hcb0
      have hc4 := own_c4 hcb
      refine go (u' := T17.setTop (mkF m 39 #[.val (.ref o0), .val (.int (3 : Int32)), .val (.ref o2), .val (.ref o3), .val (.ref o2), .val (.int k.toInt32), .val (.int i), .val (.int cy)] [(.ref o0)])) (fun _ ks_ => XS.aloadN X17.here hx rfl (hb hby d7_38) rfl rfl ks_) ?_
      obtain ⟨T128, X128, e128, st128⟩ := getF X17 hx hZ hown (host := "") (Or.inl (ww hw 45 rfl)) Via.refl e17 F17_1 (g := (mkF m 39 #[.val (.ref o0), .val (.int (3 : Int32)), .val (.ref o2), .val (.ref o3), .val (.ref o2), .val (.int k.toInt32), .val (.int i), .val (.int cy)] [(.ref o0)])) rfl rfl (hb hby d7_39)
      refine go (u' := T128.setTop (mkF m 42 #[.val (.ref o0), .val (.int (3 : Int32)), .val (.ref o2), .val (.ref o3), .val (.ref o2), .val (.int k.toInt32), .val (.int i), .val (.int cy)] [(.ref b2)])) st128 ?_
      refine go (u' := T128.setTop (mkF m 44 #[.val (.ref o0), .val (.int (3 : Int32)), .val (.ref o2), .val (.ref o3), .val (.ref o2), .val (.int k.toInt32), .val (.int i), .val (.int cy)] [(.int cy), (.ref b2)])) (fun _ ks_ => XS.iload X128.here hx rfl (hb hby d7_42) rfl  ks_) ?_
      refine go (u' := T128.setTop (mkF m 45 #[.val (.ref o0), .val (.int (3 : Int32)), .val (.ref o2), .val (.ref o3), .val (.ref o2), .val (.int k.toInt32), .val (.int i), .val (.int cy)] [(.int (1 : Int32)), (.int cy), (.ref b2)])) (fun _ ks_ => XS.iconst X128.here hx rfl (hb hby d7_44) ks_) ?_
      refine go (u' := T128.setTop (mkF m 46 #[.val (.ref o0), .val (.int (3 : Int32)), .val (.ref o2), .val (.ref o3), .val (.ref o2), .val (.int k.toInt32), .val (.int i), .val (.int cy)] [(.int (cy + (1 : Int32))), (.ref b2)])) (fun _ ks_ => XS.iadd X128.here hx rfl (hb hby d7_45) rfl ks_) ?_
      refine go (u' := T128.setTop (mkF m 47 #[.val (.ref o0), .val (.int (3 : Int32)), .val (.ref o2), .val (.ref o3), .val (.ref o2), .val (.int k.toInt32), .val (.int i), .val (.int cy)] [(.int (cy + (1 : Int32))), (.ref b2), (.int (cy + (1 : Int32))), (.ref b2)])) (fun _ ks_ => Jvm.Free.XT.dup2 X128.here hx rfl (hb hby d7_46) rfl rfl rfl ks_) ?_
      refine go (u' := T128.setTop (mkF m 48 #[.val (.ref o0), .val (.int (3 : Int32)), .val (.ref o2), .val (.ref o3), .val (.ref o2), .val (.int k.toInt32), .val (.int i), .val (.int cy)] [(.int (fc (cy + (1 : Int32)).toNatClampNeg)), (.int (cy + (1 : Int32))), (.ref b2)])) (own_iaload X128 hx hZ e128 F17_5 (j := (cy + (1 : Int32))) (v := (fc (cy + (1 : Int32)).toNatClampNeg)) (own_nn hc4.1) (own_lt hc4.1 hc4.2) rfl (f := (mkF m 47 #[.val (.ref o0), .val (.int (3 : Int32)), .val (.ref o2), .val (.ref o3), .val (.ref o2), .val (.int k.toInt32), .val (.int i), .val (.int cy)] [(.int (cy + (1 : Int32))), (.ref b2), (.int (cy + (1 : Int32))), (.ref b2)])) rfl rfl (hb hby d7_47)) ?_
      refine go (u' := T128.setTop (mkF m 49 #[.val (.ref o0), .val (.int (3 : Int32)), .val (.ref o2), .val (.ref o3), .val (.ref o2), .val (.int k.toInt32), .val (.int i), .val (.int cy)] [(.int (1 : Int32)), (.int (fc (cy + (1 : Int32)).toNatClampNeg)), (.int (cy + (1 : Int32))), (.ref b2)])) (fun _ ks_ => XS.iconst X128.here hx rfl (hb hby d7_48) ks_) ?_
      refine go (u' := T128.setTop (mkF m 50 #[.val (.ref o0), .val (.int (3 : Int32)), .val (.ref o2), .val (.ref o3), .val (.ref o2), .val (.int k.toInt32), .val (.int i), .val (.int cy)] [(.int ((fc (cy + (1 : Int32)).toNatClampNeg) + (1 : Int32))), (.int (cy + (1 : Int32))), (.ref b2)])) (fun _ ks_ => XS.iadd X128.here hx rfl (hb hby d7_49) rfl ks_) ?_
      obtain ⟨T129, h129, X129, e129, W129, st129⟩ := own_iastore X128 hx hZ e128 F17_5 (j := (cy + (1 : Int32))) (x := ((fc (cy + (1 : Int32)).toNatClampNeg) + (1 : Int32)))  (own_nn hc4.1) (own_lt hc4.1 hc4.2) (f := (mkF m 50 #[.val (.ref o0), .val (.int (3 : Int32)), .val (.ref o2), .val (.ref o3), .val (.ref o2), .val (.int k.toInt32), .val (.int i), .val (.int cy)] [(.int ((fc (cy + (1 : Int32)).toNatClampNeg) + (1 : Int32))), (.int (cy + (1 : Int32))), (.ref b2)])) rfl rfl (hb hby d7_50)
      have N129 := Fr.snoc X129 N17 g_b2
      have K129 : Keep h0 h129 [o0] := K17.wr W129 (Or.inr sz_b2)
      have Z129 : n0 ≤ h129.size := Nat.le_trans Z17 (Keep.of_wr W129).1
      have Fa130 : Exa Z h129 o0 "com/example/traceweave/traceweave/pattern/NumberedPattern$Adjacency" := F17_0.wr W129
      have Fa131 : Fld Z h129 o0 "com/example/traceweave/traceweave/pattern/NumberedPattern$Adjacency" "first" "[I" (.ref b2) := F17_1.other W129 (Or.inl ne_o0_b2)
      have Fa132 : Fld Z h129 o0 "com/example/traceweave/traceweave/pattern/NumberedPattern$Adjacency" "otherEnd" "[I" .null := F17_2.other W129 (Or.inl ne_o0_b2)
      have Fa133 : PI Z h129 o2 .int k ef := F17_3.other W129 ne_o2_b2
      have Fa134 : PI Z h129 o3 .int k tf := F17_4.other W129 ne_o3_b2
      have Fa135 : PI Z h129 b2 .int 4 (upd fc ((cy + (1 : Int32))).toNatClampNeg ((fc (cy + (1 : Int32)).toNatClampNeg) + (1 : Int32))) := F17_5.set (own_lt hc4.1 hc4.2) W129
      refine go (u' := T129.setTop (mkF m 51 #[.val (.ref o0), .val (.int (3 : Int32)), .val (.ref o2), .val (.ref o3), .val (.ref o2), .val (.int k.toInt32), .val (.int i), .val (.int cy)] [])) st129 ?_
      refine go (u' := T129.setTop (mkF m 54 #[.val (.ref o0), .val (.int (3 : Int32)), .val (.ref o2), .val (.ref o3), .val (.ref o2), .val (.int k.toInt32), .val (.int (i + (1 : Int32))), .val (.int cy)] [])) (fun _ ks_ => XS.iinc X129.here hx rfl (hb hby d7_51) rfl (l' := #[.val (.ref o0), .val (.int (3 : Int32)), .val (.ref o2), .val (.ref o3), .val (.ref o2), .val (.int k.toInt32), .val (.int (i + (1 : Int32))), .val (.int cy)]) rfl ks_) ?_
      refine go (u' := T129.setTop (mkF m 24 #[.val (.ref o0), .val (.int (3 : Int32)), .val (.ref o2), .val (.ref o3), .val (.ref o2), .val (.int k.toInt32), .val (.int (i + (1 : Int32))), .val (.int cy)] [])) (fun _ ks_ => XS.goto X129.here hx rfl (pc0 := 54) (pc' := 24) rfl (hb hby d7_54) (by decide) (by decide) ks_) ?_
      exact ih24 ((i + (1 : Int32))) ((upd fc ((cy + (1 : Int32))).toNatClampNeg ((fc (cy + (1 : Int32)).toNatClampNeg) + (1 : Int32)))) (.val (.int cy)) _ _ _ X129 e129 N129 Z129 K129 Fa130 Fa131 Fa132 Fa133 Fa134 Fa135 hiv.2.2.2.1 (by rw [own_cn1s htk, ← hiv.2.2.2.2, ← hcy, hiv.2.2.2.2, ← hfc]) (One.val rfl)
  exact C24_1 k ((0 : Int32)) ((cn1 ef 0)) .unset _ _ _ X9 e9 N9 Z9 K9 Fa10 Fa15 Fa11 Fa12 Fa13 Fa16 ⟨by decide, by simp⟩ (by rw [Nat.sub_self]) One.u
theorem pd__40_I_91_I_91_I_41_V : parseMethodDescriptor "(I[I[I)V" = some ⟨[.int, (.array .int), (.array .int)], none⟩ := by decide +kernel
theorem pn_com_example_traceweave_traceweave_pattern_NumberedPattern__init__6 : plainFor (⟨"com/example/traceweave/traceweave/pattern/NumberedPattern", "<init>", "(I[I[ILjava/util/BitSet;Ljava/util/BitSet;)V"⟩ : MethodName) = true := by first | exact plainFor_of_name (by first | (simp [plainName, overriddenIn]; done) | decide +kernel) | decide +kernel
def Q_rm6 (Z : State) (o0 : Addr) (o2 : Addr) (o3 : Addr) (o4 : Addr) (o5 : Addr) (k : Nat) (ef : Nat → Int32) (tf : Nat → Int32) (h0 : Heap) (n0 : Nat) (v : Option Value) (h : Heap) (L : List Loc) : Prop := ∃ ad : Addr, ∃ fi : Addr, v = none ∧ Fr n0 L ∧ Keep h0 h [o0] ∧ (Exa Z h o0 "com/example/traceweave/traceweave/pattern/NumberedPattern") ∧ (Fld Z h o0 "com/example/traceweave/traceweave/pattern/NumberedPattern" "entering" "Lcom/example/traceweave/traceweave/pattern/NumberedPattern$Adjacency;" (.ref ad)) ∧ (Exa Z h ad "com/example/traceweave/traceweave/pattern/NumberedPattern$Adjacency") ∧ (Fld Z h ad "com/example/traceweave/traceweave/pattern/NumberedPattern$Adjacency" "first" "[I" (.ref fi)) ∧ (PI Z h fi .int 4 (ps2 (cn1 tf k) 3)) ∧ (h0.size ≤ ad) ∧ (h0.size ≤ fi) ∧ (ad ≠ fi)
set_option maxRecDepth 65536 in
set_option maxHeartbeats 4000000 in
theorem ef_rm6 (m : MethodId) (o0 : Addr) (o2 : Addr) (o3 : Addr) (o4 : Addr) (o5 : Addr) : entryFrame m #[(.ref o0), (.int (3 : Int32)), (.ref o2), (.ref o3), (.ref o4), (.ref o5)] 6 = mkF m 0 #[.val (.ref o0), .val (.int (3 : Int32)), .val (.ref o2), .val (.ref o3), .val (.ref o4), .val (.ref o5)] [] := by first | (simp [entryFrame, mkF, argsToLocals, Value.category, maxLocals]; done) | rfl
theorem d6_0 : decode prog_42_method_2_code 0 = .ok (.aload_n 0, 1) := by decide +kernel
theorem d6_1 : decode prog_42_method_2_code 1 = .ok (.invokespecial 12, 3) := by decide +kernel
theorem d6_4 : decode prog_42_method_2_code 4 = .ok (.aload_n 0, 1) := by decide +kernel
theorem d6_5 : decode prog_42_method_2_code 5 = .ok (.iload_n 1, 1) := by decide +kernel
theorem d6_6 : decode prog_42_method_2_code 6 = .ok (.putfield 15, 3) := by decide +kernel
theorem d6_9 : decode prog_42_method_2_code 9 = .ok (.aload_n 0, 1) := by decide +kernel
theorem d6_10 : decode prog_42_method_2_code 10 = .ok (.new 19, 3) := by decide +kernel
theorem d6_13 : decode prog_42_method_2_code 13 = .ok (.dup, 1) := by decide +kernel
theorem d6_14 : decode prog_42_method_2_code 14 = .ok (.iload_n 1, 1) := by decide +kernel
theorem d6_15 : decode prog_42_method_2_code 15 = .ok (.aload_n 2, 1) := by decide +kernel
theorem d6_16 : decode prog_42_method_2_code 16 = .ok (.aload_n 3, 1) := by decide +kernel
theorem d6_17 : decode prog_42_method_2_code 17 = .ok (.invokespecial 21, 3) := by decide +kernel
theorem d6_20 : decode prog_42_method_2_code 20 = .ok (.putfield 24, 3) := by decide +kernel
theorem d6_23 : decode prog_42_method_2_code 23 = .ok (.aload_n 0, 1) := by decide +kernel
theorem d6_24 : decode prog_42_method_2_code 24 = .ok (.new 19, 3) := by decide +kernel
theorem d6_27 : decode prog_42_method_2_code 27 = .ok (.dup, 1) := by decide +kernel
theorem d6_28 : decode prog_42_method_2_code 28 = .ok (.iload_n 1, 1) := by decide +kernel
theorem d6_29 : decode prog_42_method_2_code 29 = .ok (.aload_n 3, 1) := by decide +kernel
theorem d6_30 : decode prog_42_method_2_code 30 = .ok (.aload_n 2, 1) := by decide +kernel
theorem d6_31 : decode prog_42_method_2_code 31 = .ok (.invokespecial 21, 3) := by decide +kernel
theorem d6_34 : decode prog_42_method_2_code 34 = .ok (.putfield 28, 3) := by decide +kernel
theorem d6_37 : decode prog_42_method_2_code 37 = .ok (.aload_n 0, 1) := by decide +kernel
theorem d6_38 : decode prog_42_method_2_code 38 = .ok (.aload 4, 2) := by decide +kernel
theorem d6_40 : decode prog_42_method_2_code 40 = .ok (.putfield 31, 3) := by decide +kernel
theorem d6_43 : decode prog_42_method_2_code 43 = .ok (.aload_n 0, 1) := by decide +kernel
theorem d6_44 : decode prog_42_method_2_code 44 = .ok (.aload 5, 2) := by decide +kernel
theorem d6_46 : decode prog_42_method_2_code 46 = .ok (.putfield 35, 3) := by decide +kernel
theorem d6_49 : decode prog_42_method_2_code 49 = .ok (.return_, 1) := by decide +kernel
set_option maxRecDepth 65536 in
set_option maxHeartbeats 40000000 in
theorem rm6 (l : Launch) (Z : State) (a0 : Array Value) (hw : ∀ d ∈ tables_1, d.before a0 Z = true) (ws : List Jvm.Cond) (o0 : Addr) (o2 : Addr) (o3 : Addr) (o4 : Addr) (o5 : Addr) (k : Nat) (ef : Nat → Int32) (tf : Nat → Int32) (h0 : Heap) (n0 : Nat) (Z0 : n0 ≤ h0.size) (g_o0 : n0 ≤ o0) (ne_o2_o0 : o2 ≠ o0) (ne_o3_o0 : o3 ≠ o0) (F0 : Exa Z h0 o0 "com/example/traceweave/traceweave/pattern/NumberedPattern") (F1 : Fld Z h0 o0 "com/example/traceweave/traceweave/pattern/NumberedPattern" "activities" "I" (.int (0 : Int32))) (F2 : Fld Z h0 o0 "com/example/traceweave/traceweave/pattern/NumberedPattern" "leaving" "Lcom/example/traceweave/traceweave/pattern/NumberedPattern$Adjacency;" .null) (F3 : Fld Z h0 o0 "com/example/traceweave/traceweave/pattern/NumberedPattern" "entering" "Lcom/example/traceweave/traceweave/pattern/NumberedPattern$Adjacency;" .null) (F4 : Fld Z h0 o0 "com/example/traceweave/traceweave/pattern/NumberedPattern" "openInputs" "Ljava/util/BitSet;" .null) (F5 : Fld Z h0 o0 "com/example/traceweave/traceweave/pattern/NumberedPattern" "openOutputs" "Ljava/util/BitSet;" .null) (F6 : PI Z h0 o2 .int k ef) (F7 : PI Z h0 o3 .int k tf) (hk : k ≤ 3) (he : ∀ i, i < k → 0 ≤ (ef i).toInt ∧ (ef i).toInt < 3) (ht : ∀ i, i < k → 0 ≤ (tf i).toInt ∧ (tf i).toInt < 3) :
    MetFree l (⟨"com/example/traceweave/traceweave/pattern/NumberedPattern", "<init>", "(I[I[ILjava/util/BitSet;Ljava/util/BitSet;)V"⟩ : MethodName) (head1 (Jvm.Cond.code (⟨"com/example/traceweave/traceweave/pattern/NumberedPattern", "<init>", "(I[I[ILjava/util/BitSet;Ljava/util/BitSet;)V"⟩ : MethodName) prog_42_method_2_code 6 none :: ws) ({ frames := 5, cells := 8, slots := 24, locals := 102 } : Room)) (fun a U => a = #[(.ref o0), (.int (3 : Int32)), (.ref o2), (.ref o3), (.ref o4), (.ref o5)] ∧ Z.Warmed39 U.vm ∧ U.heap = h0) (fun _ _ _ _ _ => True) (fun _ U o U' => ∃ v L, o = .returned v ∧ Q_rm6 Z o0 o2 o3 o4 o5 k ef tf h0 n0 v U'.heap L ∧ FrameEnd U o U' L ({ frames := 5, cells := 8, slots := 24, locals := 102 } : Room).cells ({ frames := 5, cells := 8, slots := 24, locals := 102 } : Room).slots) := by
  refine body pn_com_example_traceweave_traceweave_pattern_NumberedPattern__init__6 ?_
  intro p e s m below meth c s₁ hx hby hml hown hnm hret hlk hZ e0 X0
  replace hml : c.maxLocals = 6 := hml
  replace hown : s.vm.findClass "com/example/traceweave/traceweave/pattern/NumberedPattern" = some m.cls := hown
  replace hnm : meth.name = "<init>" := hnm
  replace hret : meth.sig.returnType = none := hret
  have N0 := Fr.nil n0
  rw [ef_rm6]
  obtain ⟨G, hG⟩ : ∃ G, G = End (Q_rm6 Z o0 o2 o3 o4 o5 k ef tf h0 n0) s ({ frames := 5, cells := 8, slots := 24, locals := 102 } : Room).cells ({ frames := 5, cells := 8, slots := 24, locals := 102 } : Room).slots := ⟨_, rfl⟩
  rw [← hG]
  refine go (u' := s₁.setTop (mkF m 1 #[.val (.ref o0), .val (.int (3 : Int32)), .val (.ref o2), .val (.ref o3), .val (.ref o4), .val (.ref o5)] [(.ref o0)])) (fun _ ks_ => XS.aloadN X0.here hx rfl (hb hby d6_0) rfl rfl ks_) ?_
  obtain ⟨T1, X1, e1, st1⟩ := initO X0 hx hZ hown (ww hw 35 rfl) (ww hw 15 rfl) (ww hw 16 rfl) e0 (g := (mkF m 1 #[.val (.ref o0), .val (.int (3 : Int32)), .val (.ref o2), .val (.ref o3), .val (.ref o4), .val (.ref o5)] [(.ref o0)])) rfl (by rw [hml]; rfl) rfl (hb hby d6_1) (by decide) (W := 0) (by show 2 * 0 + _ ≤ _; exact Nat.le_of_eq rfl) (by decide)
  refine go (u' := T1.setTop (mkF m 4 #[.val (.ref o0), .val (.int (3 : Int32)), .val (.ref o2), .val (.ref o3), .val (.ref o4), .val (.ref o5)] [])) st1 ?_
  refine go (u' := T1.setTop (mkF m 5 #[.val (.ref o0), .val (.int (3 : Int32)), .val (.ref o2), .val (.ref o3), .val (.ref o4), .val (.ref o5)] [(.ref o0)])) (fun _ ks_ => XS.aloadN X1.here hx rfl (hb hby d6_4) rfl rfl ks_) ?_
  refine go (u' := T1.setTop (mkF m 6 #[.val (.ref o0), .val (.int (3 : Int32)), .val (.ref o2), .val (.ref o3), .val (.ref o4), .val (.ref o5)] [(.int (3 : Int32)), (.ref o0)])) (fun _ ks_ => XS.iloadN X1.here hx rfl (hb hby d6_5) rfl  ks_) ?_
  obtain ⟨T2, h2, X2, e2, W2, st2⟩ := putF X1 hx hZ hown (host := "") (Or.inl (ww hw 36 rfl)) Via.refl e1 F1 F0 (Or.inr ⟨(ww hw 37 rfl), rfl, hnm⟩) (ww hw 3 rfl) (ty := .int) (by decide) rfl rfl (g := (mkF m 6 #[.val (.ref o0), .val (.int (3 : Int32)), .val (.ref o2), .val (.ref o3), .val (.ref o4), .val (.ref o5)] [(.int (3 : Int32)), (.ref o0)])) rfl rfl (hb hby d6_6)
  have N2 := Fr.snoc X2 N0 g_o0
  have K2 : Keep h0 h2 [o0] := (Keep.refl h0 [o0]).wr W2 (Or.inl (List.mem_of_getElem? (i := 0) rfl))
  have Z2 : n0 ≤ h2.size := Nat.le_trans Z0 (Keep.of_wr W2).1
  have Fa3 : Exa Z h2 o0 "com/example/traceweave/traceweave/pattern/NumberedPattern" := F0.wr W2
  have Fa4 : Fld Z h2 o0 "com/example/traceweave/traceweave/pattern/NumberedPattern" "leaving" "Lcom/example/traceweave/traceweave/pattern/NumberedPattern$Adjacency;" .null := F2.other W2 (Or.inr (slot_ne (Or.inr (ww hw 78 rfl)) (Or.inr (ww hw 37 rfl)) (by decide) (t := (.object "com/example/traceweave/traceweave/pattern/NumberedPattern$Adjacency")) (t' := .int) (by decide) (by decide)))
  have Fa5 : Fld Z h2 o0 "com/example/traceweave/traceweave/pattern/NumberedPattern" "entering" "Lcom/example/traceweave/traceweave/pattern/NumberedPattern$Adjacency;" .null := F3.other W2 (Or.inr (slot_ne (Or.inr (ww hw 80 rfl)) (Or.inr (ww hw 37 rfl)) (by decide) (t := (.object "com/example/traceweave/traceweave/pattern/NumberedPattern$Adjacency")) (t' := .int) (by decide) (by decide)))
  have Fa6 : Fld Z h2 o0 "com/example/traceweave/traceweave/pattern/NumberedPattern" "openInputs" "Ljava/util/BitSet;" .null := F4.other W2 (Or.inr (slot_ne (Or.inr (ww hw 82 rfl)) (Or.inr (ww hw 37 rfl)) (by decide) (t := (.object "java/util/BitSet")) (t' := .int) (by decide) (by decide)))
  have Fa7 : Fld Z h2 o0 "com/example/traceweave/traceweave/pattern/NumberedPattern" "openOutputs" "Ljava/util/BitSet;" .null := F5.other W2 (Or.inr (slot_ne (Or.inr (ww hw 84 rfl)) (Or.inr (ww hw 37 rfl)) (by decide) (t := (.object "java/util/BitSet")) (t' := .int) (by decide) (by decide)))
  have Fa8 : PI Z h2 o2 .int k ef := F6.other W2 ne_o2_o0
  have Fa9 : PI Z h2 o3 .int k tf := F7.other W2 ne_o3_o0
  have Fa10 : Fld Z h2 o0 "com/example/traceweave/traceweave/pattern/NumberedPattern" "activities" "I" (.int (3 : Int32)) := F1.same W2
  refine go (u' := T2.setTop (mkF m 9 #[.val (.ref o0), .val (.int (3 : Int32)), .val (.ref o2), .val (.ref o3), .val (.ref o4), .val (.ref o5)] [])) st2 ?_
  refine go (u' := T2.setTop (mkF m 10 #[.val (.ref o0), .val (.int (3 : Int32)), .val (.ref o2), .val (.ref o3), .val (.ref o4), .val (.ref o5)] [(.ref o0)])) (fun _ ks_ => XS.aloadN X2.here hx rfl (hb hby d6_9) rfl rfl ks_) ?_
  obtain ⟨T11, h11, X11, e11, E11, A11, D11, -, st11⟩ := newO X2 hx hZ hown (ww hw 38 rfl) (ww hw 39 rfl) (ww hw 40 rfl) e2 (g := (mkF m 10 #[.val (.ref o0), .val (.int (3 : Int32)), .val (.ref o2), .val (.ref o3), .val (.ref o4), .val (.ref o5)] [(.ref o0)])) rfl (hb hby d6_10) (by decide) (by decide)
  obtain ⟨b11, g11⟩ : ∃ z, z = h2.size := ⟨_, rfl⟩
  rw [← g11] at A11 D11 st11
  have ne_o0_b11 : o0 ≠ b11 := Nat.ne_of_lt (Nat.lt_of_lt_of_le Fa3.lt (Nat.le_of_eq g11.symm))
  have ne_o2_b11 : o2 ≠ b11 := Nat.ne_of_lt (Nat.lt_of_lt_of_le Fa8.lt (Nat.le_of_eq g11.symm))
  have ne_o3_b11 : o3 ≠ b11 := Nat.ne_of_lt (Nat.lt_of_lt_of_le Fa9.lt (Nat.le_of_eq g11.symm))
  have g_b11 : n0 ≤ b11 := Nat.le_trans Z2 (Nat.le_of_eq g11.symm)
  have sz_b11 : h0.size ≤ b11 := Nat.le_trans K2.1 (Nat.le_of_eq g11.symm)
  have K11 : Keep h0 h11 [o0] := K2.ext E11
  have Fa12 : Exa Z h11 o0 "com/example/traceweave/traceweave/pattern/NumberedPattern" := Fa3.ext E11
  have Fa13 : Fld Z h11 o0 "com/example/traceweave/traceweave/pattern/NumberedPattern" "activities" "I" (.int (3 : Int32)) := Fa10.ext E11
  have Fa14 : Fld Z h11 o0 "com/example/traceweave/traceweave/pattern/NumberedPattern" "leaving" "Lcom/example/traceweave/traceweave/pattern/NumberedPattern$Adjacency;" .null := Fa4.ext E11
  have Fa15 : Fld Z h11 o0 "com/example/traceweave/traceweave/pattern/NumberedPattern" "entering" "Lcom/example/traceweave/traceweave/pattern/NumberedPattern$Adjacency;" .null := Fa5.ext E11
  have Fa16 : Fld Z h11 o0 "com/example/traceweave/traceweave/pattern/NumberedPattern" "openInputs" "Ljava/util/BitSet;" .null := Fa6.ext E11
  have Fa17 : Fld Z h11 o0 "com/example/traceweave/traceweave/pattern/NumberedPattern" "openOutputs" "Ljava/util/BitSet;" .null := Fa7.ext E11
  have Fa18 : PI Z h11 o2 .int k ef := Fa8.ext E11
  have Fa19 : PI Z h11 o3 .int k tf := Fa9.ext E11
  have Z11 : n0 ≤ h11.size := Nat.le_trans Z2 E11.1
  have Fa20 : Fld Z h11 b11 "com/example/traceweave/traceweave/pattern/NumberedPattern$Adjacency" "first" "[I" .null := D11 (Or.inr (ww hw 46 rfl)) (ty := (.array .int)) (by decide)
  have Fa21 : Fld Z h11 b11 "com/example/traceweave/traceweave/pattern/NumberedPattern$Adjacency" "otherEnd" "[I" .null := D11 (Or.inr (ww hw 48 rfl)) (ty := (.array .int)) (by decide)
  refine go (u' := T11.setTop (mkF m 13 #[.val (.ref o0), .val (.int (3 : Int32)), .val (.ref o2), .val (.ref o3), .val (.ref o4), .val (.ref o5)] [(.ref b11), (.ref o0)])) st11 ?_
  refine go (u' := T11.setTop (mkF m 14 #[.val (.ref o0), .val (.int (3 : Int32)), .val (.ref o2), .val (.ref o3), .val (.ref o4), .val (.ref o5)] [(.ref b11), (.ref b11), (.ref o0)])) (fun _ ks_ => XS.dup X11.here hx rfl (hb hby d6_13) rfl rfl ks_) ?_
  refine go (u' := T11.setTop (mkF m 15 #[.val (.ref o0), .val (.int (3 : Int32)), .val (.ref o2), .val (.ref o3), .val (.ref o4), .val (.ref o5)] [(.int (3 : Int32)), (.ref b11), (.ref b11), (.ref o0)])) (fun _ ks_ => XS.iloadN X11.here hx rfl (hb hby d6_14) rfl  ks_) ?_
  refine go (u' := T11.setTop (mkF m 16 #[.val (.ref o0), .val (.int (3 : Int32)), .val (.ref o2), .val (.ref o3), .val (.ref o4), .val (.ref o5)] [(.ref o2), (.int (3 : Int32)), (.ref b11), (.ref b11), (.ref o0)])) (fun _ ks_ => XS.aloadN X11.here hx rfl (hb hby d6_15) rfl rfl ks_) ?_
  refine go (u' := T11.setTop (mkF m 17 #[.val (.ref o0), .val (.int (3 : Int32)), .val (.ref o2), .val (.ref o3), .val (.ref o4), .val (.ref o5)] [(.ref o3), (.ref o2), (.int (3 : Int32)), (.ref b11), (.ref b11), (.ref o0)])) (fun _ ks_ => XS.aloadN X11.here hx rfl (hb hby d6_16) rfl rfl ks_) ?_
  obtain ⟨_, _, ⟨T22, L22, k22, n22⟩, -, X22, ⟨Lc22, hQ22, l22, y22, z22⟩, st22⟩ := X11.specialBack hx (y := (⟨"com/example/traceweave/traceweave/pattern/NumberedPattern$Adjacency", "<init>", "(I[I[I)V"⟩ : MethodName)) rfl hown (mvT hZ (ww hw 41 rfl)) (mvT hZ (ww hw 42 rfl)) (mvT hZ (ww hw 43 rfl)) (by decide) (backOf (W := 2) (rm7 l Z a0 hw [] b11 o2 o3 k ef tf h11 n0 Z11 g_b11 ne_o2_b11 ne_o3_b11 A11 Fa20 Fa21 Fa18 Fa19 hk he) hZ (ww hw 43 rfl) (ww hw 40 rfl) (by decide) (by decide)) (g := (mkF m 17 #[.val (.ref o0), .val (.int (3 : Int32)), .val (.ref o2), .val (.ref o3), .val (.ref o4), .val (.ref o5)] [(.ref o3), (.ref o2), (.int (3 : Int32)), (.ref b11), (.ref b11), (.ref o0)])) rfl (by rw [hml]; rfl) (Steps.refl _) (a := b11) (argsL := [(.int (3 : Int32)), (.ref o2), (.ref o3)]) (rest := [(.ref b11), (.ref o0)]) (lenOf pd__40_I_91_I_91_I_41_V rfl) rfl (by show 2 * 0 + _ ≤ _; exact Nat.le_of_eq rfl) (hb hby d6_17) (fun _ _ => ⟨rfl, e11, (by decide : 1 + 3 ≤ _), (by decide : 2 + 10 ≤ _)⟩)
  dsimp only [Pt.U, Pt.locs, Pt.cells, Pt.slots] at X22 l22 y22 z22 st22 hQ22
  subst l22 y22 z22
  obtain ⟨fi22, ov22, rfl, N22q, Kq22, Fa23, Fa24, Fa25, Fa26, gfi_22⟩ := hQ22
  have N22 := Fr.app N2 N22q
  have K22 : Keep h0 T22.heap [o0] := K11.trans Kq22 (allS (P := fun x => x ∈ [o0] ∨ h0.size ≤ x) (Or.inr sz_b11) all0)
  have Z22 : n0 ≤ T22.heap.size := Nat.le_trans Z11 Kq22.1
  have Fa27 : Exa Z T22.heap o0 "com/example/traceweave/traceweave/pattern/NumberedPattern" := Fa12.keep Kq22
  have Fa28 : Fld Z T22.heap o0 "com/example/traceweave/traceweave/pattern/NumberedPattern" "activities" "I" (.int (3 : Int32)) := Fa13.keep Kq22 (ninS ne_o0_b11 nin0)
  have Fa29 : Fld Z T22.heap o0 "com/example/traceweave/traceweave/pattern/NumberedPattern" "leaving" "Lcom/example/traceweave/traceweave/pattern/NumberedPattern$Adjacency;" .null := Fa14.keep Kq22 (ninS ne_o0_b11 nin0)
  have Fa30 : Fld Z T22.heap o0 "com/example/traceweave/traceweave/pattern/NumberedPattern" "entering" "Lcom/example/traceweave/traceweave/pattern/NumberedPattern$Adjacency;" .null := Fa15.keep Kq22 (ninS ne_o0_b11 nin0)
  have Fa31 : Fld Z T22.heap o0 "com/example/traceweave/traceweave/pattern/NumberedPattern" "openInputs" "Ljava/util/BitSet;" .null := Fa16.keep Kq22 (ninS ne_o0_b11 nin0)
  have Fa32 : Fld Z T22.heap o0 "com/example/traceweave/traceweave/pattern/NumberedPattern" "openOutputs" "Ljava/util/BitSet;" .null := Fa17.keep Kq22 (ninS ne_o0_b11 nin0)
  have Fa33 : PI Z T22.heap o2 .int k ef := Fa18.keep Kq22 (ninS ne_o2_b11 nin0)
  have Fa34 : PI Z T22.heap o3 .int k tf := Fa19.keep Kq22 (ninS ne_o3_b11 nin0)
  have Fa35 : Exa Z T22.heap b11 "com/example/traceweave/traceweave/pattern/NumberedPattern$Adjacency" := A11.keep Kq22
  have ne_o0_fi22 : o0 ≠ fi22 := Nat.ne_of_lt (Nat.lt_of_lt_of_le Fa12.lt gfi_22)
  have ne_o2_fi22 : o2 ≠ fi22 := Nat.ne_of_lt (Nat.lt_of_lt_of_le Fa18.lt gfi_22)
  have ne_o3_fi22 : o3 ≠ fi22 := Nat.ne_of_lt (Nat.lt_of_lt_of_le Fa19.lt gfi_22)
  have ne_b11_fi22 : b11 ≠ fi22 := Nat.ne_of_lt (Nat.lt_of_lt_of_le A11.lt gfi_22)
  have g_fi22 : n0 ≤ fi22 := Nat.le_trans Z11 gfi_22
  have sz_fi22 : h0.size ≤ fi22 := Nat.le_trans K11.1 gfi_22
  refine goT (u' := T22.setTop (mkF m 20 #[.val (.ref o0), .val (.int (3 : Int32)), .val (.ref o2), .val (.ref o3), .val (.ref o4), .val (.ref o5)] [(.ref b11), (.ref o0)])) st22 ?_
  obtain ⟨T36, h36, X36, e36, W36, st36⟩ := putF X22 hx hZ hown (host := "") (Or.inl (ww hw 77 rfl)) Via.refl (rfl : T22.heap = _) Fa29 Fa27 (Or.inr ⟨(ww hw 78 rfl), rfl, hnm⟩) (ww hw 3 rfl) (ty := (.object "com/example/traceweave/traceweave/pattern/NumberedPattern$Adjacency")) (by decide) rfl rfl (g := (mkF m 20 #[.val (.ref o0), .val (.int (3 : Int32)), .val (.ref o2), .val (.ref o3), .val (.ref o4), .val (.ref o5)] [(.ref b11), (.ref o0)])) rfl rfl (hb hby d6_20)
  have N36 := Fr.snoc X36 N22 g_o0
  have K36 : Keep h0 h36 [o0] := K22.wr W36 (Or.inl (List.mem_of_getElem? (i := 0) rfl))
  have Z36 : n0 ≤ h36.size := Nat.le_trans Z22 (Keep.of_wr W36).1
  have Fa37 : Exa Z h36 o0 "com/example/traceweave/traceweave/pattern/NumberedPattern" := Fa27.wr W36
  have Fa38 : Fld Z h36 o0 "com/example/traceweave/traceweave/pattern/NumberedPattern" "activities" "I" (.int (3 : Int32)) := Fa28.other W36 (Or.inr (slot_ne (Or.inr (ww hw 37 rfl)) (Or.inr (ww hw 78 rfl)) (by decide) (t := .int) (t' := (.object "com/example/traceweave/traceweave/pattern/NumberedPattern$Adjacency")) (by decide) (by decide)))
  have Fa39 : Fld Z h36 o0 "com/example/traceweave/traceweave/pattern/NumberedPattern" "entering" "Lcom/example/traceweave/traceweave/pattern/NumberedPattern$Adjacency;" .null := Fa30.other W36 (Or.inr (slot_ne (Or.inr (ww hw 80 rfl)) (Or.inr (ww hw 78 rfl)) (by decide) (t := (.object "com/example/traceweave/traceweave/pattern/NumberedPattern$Adjacency")) (t' := (.object "com/example/traceweave/traceweave/pattern/NumberedPattern$Adjacency")) (by decide) (by decide)))
  have Fa40 : Fld Z h36 o0 "com/example/traceweave/traceweave/pattern/NumberedPattern" "openInputs" "Ljava/util/BitSet;" .null := Fa31.other W36 (Or.inr (slot_ne (Or.inr (ww hw 82 rfl)) (Or.inr (ww hw 78 rfl)) (by decide) (t := (.object "java/util/BitSet")) (t' := (.object "com/example/traceweave/traceweave/pattern/NumberedPattern$Adjacency")) (by decide) (by decide)))
  have Fa41 : Fld Z h36 o0 "com/example/traceweave/traceweave/pattern/NumberedPattern" "openOutputs" "Ljava/util/BitSet;" .null := Fa32.other W36 (Or.inr (slot_ne (Or.inr (ww hw 84 rfl)) (Or.inr (ww hw 78 rfl)) (by decide) (t := (.object "java/util/BitSet")) (t' := (.object "com/example/traceweave/traceweave/pattern/NumberedPattern$Adjacency")) (by decide) (by decide)))
  have Fa42 : PI Z h36 o2 .int k ef := Fa33.other W36 ne_o2_o0
  have Fa43 : PI Z h36 o3 .int k tf := Fa34.other W36 ne_o3_o0
  have Fa44 : Exa Z h36 b11 "com/example/traceweave/traceweave/pattern/NumberedPattern$Adjacency" := Fa23.wr W36
  have Fa45 : Fld Z h36 b11 "com/example/traceweave/traceweave/pattern/NumberedPattern$Adjacency" "first" "[I" (.ref fi22) := Fa24.other W36 (Or.inl (Ne.symm ne_o0_b11))
  have Fa46 : Fld Z h36 b11 "com/example/traceweave/traceweave/pattern/NumberedPattern$Adjacency" "otherEnd" "[I" ov22 := Fa25.other W36 (Or.inl (Ne.symm ne_o0_b11))
  have Fa47 : PI Z h36 fi22 .int 4 (ps2 (cn1 ef k) 3) := Fa26.other W36 (Ne.symm ne_o0_fi22)
  have Fa48 : Fld Z h36 o0 "com/example/traceweave/traceweave/pattern/NumberedPattern" "leaving" "Lcom/example/traceweave/traceweave/pattern/NumberedPattern$Adjacency;" (.ref b11) := Fa29.same W36
  refine go (u' := T36.setTop (mkF m 23 #[.val (.ref o0), .val (.int (3 : Int32)), .val (.ref o2), .val (.ref o3), .val (.ref o4), .val (.ref o5)] [])) st36 ?_
  refine go (u' := T36.setTop (mkF m 24 #[.val (.ref o0), .val (.int (3 : Int32)), .val (.ref o2), .val (.ref o3), .val (.ref o4), .val (.ref o5)] [(.ref o0)])) (fun _ ks_ => XS.aloadN X36.here hx rfl (hb hby d6_23) rfl rfl ks_) ?_
  obtain ⟨T49, h49, X49, e49, E49, A49, D49, -, st49⟩ := newO X36 hx hZ hown (ww hw 38 rfl) (ww hw 39 rfl) (ww hw 40 rfl) e36 (g := (mkF m 24 #[.val (.ref o0), .val (.int (3 : Int32)), .val (.ref o2), .val (.ref o3), .val (.ref o4), .val (.ref o5)] [(.ref o0)])) rfl (hb hby d6_24) (by decide) (by decide)
  obtain ⟨b49, g49⟩ : ∃ z, z = h36.size := ⟨_, rfl⟩
  rw [← g49] at A49 D49 st49
  have ne_o0_b49 : o0 ≠ b49 := Nat.ne_of_lt (Nat.lt_of_lt_of_le Fa37.lt (Nat.le_of_eq g49.symm))
  have ne_o2_b49 : o2 ≠ b49 := Nat.ne_of_lt (Nat.lt_of_lt_of_le Fa42.lt (Nat.le_of_eq g49.symm))
  have ne_o3_b49 : o3 ≠ b49 := Nat.ne_of_lt (Nat.lt_of_lt_of_le Fa43.lt (Nat.le_of_eq g49.symm))
  have ne_b11_b49 : b11 ≠ b49 := Nat.ne_of_lt (Nat.lt_of_lt_of_le Fa44.lt (Nat.le_of_eq g49.symm))
  have ne_fi22_b49 : fi22 ≠ b49 := Nat.ne_of_lt (Nat.lt_of_lt_of_le Fa47.lt (Nat.le_of_eq g49.symm))
  have g_b49 : n0 ≤ b49 := Nat.le_trans Z36 (Nat.le_of_eq g49.symm)
  have sz_b49 : h0.size ≤ b49 := Nat.le_trans K36.1 (Nat.le_of_eq g49.symm)
  have K49 : Keep h0 h49 [o0] := K36.ext E49
  have Fa50 : Exa Z h49 o0 "com/example/traceweave/traceweave/pattern/NumberedPattern" := Fa37.ext E49
  have Fa51 : Fld Z h49 o0 "com/example/traceweave/traceweave/pattern/NumberedPattern" "activities" "I" (.int (3 : Int32)) := Fa38.ext E49
  have Fa52 : Fld Z h49 o0 "com/example/traceweave/traceweave/pattern/NumberedPattern" "leaving" "Lcom/example/traceweave/traceweave/pattern/NumberedPattern$Adjacency;" (.ref b11) := Fa48.ext E49
  have Fa53 : Fld Z h49 o0 "com/example/traceweave/traceweave/pattern/NumberedPattern" "entering" "Lcom/example/traceweave/traceweave/pattern/NumberedPattern$Adjacency;" .null := Fa39.ext E49
  have Fa54 : Fld Z h49 o0 "com/example/traceweave/traceweave/pattern/NumberedPattern" "openInputs" "Ljava/util/BitSet;" .null := Fa40.ext E49
  have Fa55 : Fld Z h49 o0 "com/example/traceweave/traceweave/pattern/NumberedPattern" "openOutputs" "Ljava/util/BitSet;" .null := Fa41.ext E49
  have Fa56 : PI Z h49 o2 .int k ef := Fa42.ext E49
  have Fa57 : PI Z h49 o3 .int k tf := Fa43.ext E49
  have Fa58 : Exa Z h49 b11 "com/example/traceweave/traceweave/pattern/NumberedPattern$Adjacency" := Fa44.ext E49
  have Fa59 : Fld Z h49 b11 "com/example/traceweave/traceweave/pattern/NumberedPattern$Adjacency" "first" "[I" (.ref fi22) := Fa45.ext E49
  have Fa60 : Fld Z h49 b11 "com/example/traceweave/traceweave/pattern/NumberedPattern$Adjacency" "otherEnd" "[I" ov22 := Fa46.ext E49
  have Fa61 : PI Z h49 fi22 .int 4 (ps2 (cn1 ef k) 3) := Fa47.ext E49
  have Z49 : n0 ≤ h49.size := Nat.le_trans Z36 E49.1
  have Fa62 : Fld Z h49 b49 "com/example/traceweave/traceweave/pattern/NumberedPattern$Adjacency" "first" "[I" .null := D49 (Or.inr (ww hw 46 rfl)) (ty := (.array .int)) (by decide)
  have Fa63 : Fld Z h49 b49 "com/example/traceweave/traceweave/pattern/NumberedPattern$Adjacency" "otherEnd" "[I" .null := D49 (Or.inr (ww hw 48 rfl)) (ty := (.array .int)) (by decide)
  refine go (u' := T49.setTop (mkF m 27 #[.val (.ref o0), .val (.int (3 : Int32)), .val (.ref o2), .val (.ref o3), .val (.ref o4), .val (.ref o5)] [(.ref b49), (.ref o0)])) st49 ?_
  refine go (u' := T49.setTop (mkF m 28 #[.val (.ref o0), .val (.int (3 : Int32)), .val (.ref o2), .val (.ref o3), .val (.ref o4), .val (.ref o5)] [(.ref b49), (.ref b49), (.ref o0)])) (fun _ ks_ => XS.dup X49.here hx rfl (hb hby d6_27) rfl rfl ks_) ?_
  refine go (u' := T49.setTop (mkF m 29 #[.val (.ref o0), .val (.int (3 : Int32)), .val (.ref o2), .val (.ref o3), .val (.ref o4), .val (.ref o5)] [(.int (3 : Int32)), (.ref b49), (.ref b49), (.ref o0)])) (fun _ ks_ => XS.iloadN X49.here hx rfl (hb hby d6_28) rfl  ks_) ?_
  refine go (u' := T49.setTop (mkF m 30 #[.val (.ref o0), .val (.int (3 : Int32)), .val (.ref o2), .val (.ref o3), .val (.ref o4), .val (.ref o5)] [(.ref o3), (.int (3 : Int32)), (.ref b49), (.ref b49), (.ref o0)])) (fun _ ks_ => XS.aloadN X49.here hx rfl (hb hby d6_29) rfl rfl ks_) ?_
  refine go (u' := T49.setTop (mkF m 31 #[.val (.ref o0), .val (.int (3 : Int32)), .val (.ref o2), .val (.ref o3), .val (.ref o4), .val (.ref o5)] [(.ref o2), (.ref o3), (.int (3 : Int32)), (.ref b49), (.ref b49), (.ref o0)])) (fun _ ks_ => XS.aloadN X49.here hx rfl (hb hby d6_30) rfl rfl ks_) ?_
  obtain ⟨_, _, ⟨T64, L64, k64, n64⟩, -, X64, ⟨Lc64, hQ64, l64, y64, z64⟩, st64⟩ := X49.specialBack hx (y := (⟨"com/example/traceweave/traceweave/pattern/NumberedPattern$Adjacency", "<init>", "(I[I[I)V"⟩ : MethodName)) rfl hown (mvT hZ (ww hw 41 rfl)) (mvT hZ (ww hw 42 rfl)) (mvT hZ (ww hw 43 rfl)) (by decide) (backOf (W := 2) (rm7 l Z a0 hw [] b49 o3 o2 k tf ef h49 n0 Z49 g_b49 ne_o3_b49 ne_o2_b49 A49 Fa62 Fa63 Fa57 Fa56 hk ht) hZ (ww hw 43 rfl) (ww hw 40 rfl) (by decide) (by decide)) (g := (mkF m 31 #[.val (.ref o0), .val (.int (3 : Int32)), .val (.ref o2), .val (.ref o3), .val (.ref o4), .val (.ref o5)] [(.ref o2), (.ref o3), (.int (3 : Int32)), (.ref b49), (.ref b49), (.ref o0)])) rfl (by rw [hml]; rfl) (Steps.refl _) (a := b49) (argsL := [(.int (3 : Int32)), (.ref o3), (.ref o2)]) (rest := [(.ref b49), (.ref o0)]) (lenOf pd__40_I_91_I_91_I_41_V rfl) rfl (by show 2 * 0 + _ ≤ _; exact Nat.le_of_eq rfl) (hb hby d6_31) (fun _ _ => ⟨rfl, e49, (by decide : 5 + 3 ≤ _), (by decide : 14 + 10 ≤ _)⟩)
  dsimp only [Pt.U, Pt.locs, Pt.cells, Pt.slots] at X64 l64 y64 z64 st64 hQ64
  subst l64 y64 z64
  obtain ⟨fi64, ov64, rfl, N64q, Kq64, Fa65, Fa66, Fa67, Fa68, gfi_64⟩ := hQ64
  have N64 := Fr.app N36 N64q
  have K64 : Keep h0 T64.heap [o0] := K49.trans Kq64 (allS (P := fun x => x ∈ [o0] ∨ h0.size ≤ x) (Or.inr sz_b49) all0)
  have Z64 : n0 ≤ T64.heap.size := Nat.le_trans Z49 Kq64.1
  have Fa69 : Exa Z T64.heap o0 "com/example/traceweave/traceweave/pattern/NumberedPattern" := Fa50.keep Kq64
  have Fa70 : Fld Z T64.heap o0 "com/example/traceweave/traceweave/pattern/NumberedPattern" "activities" "I" (.int (3 : Int32)) := Fa51.keep Kq64 (ninS ne_o0_b49 nin0)
  have Fa71 : Fld Z T64.heap o0 "com/example/traceweave/traceweave/pattern/NumberedPattern" "leaving" "Lcom/example/traceweave/traceweave/pattern/NumberedPattern$Adjacency;" (.ref b11) := Fa52.keep Kq64 (ninS ne_o0_b49 nin0)
  have Fa72 : Fld Z T64.heap o0 "com/example/traceweave/traceweave/pattern/NumberedPattern" "entering" "Lcom/example/traceweave/traceweave/pattern/NumberedPattern$Adjacency;" .null := Fa53.keep Kq64 (ninS ne_o0_b49 nin0)
  have Fa73 : Fld Z T64.heap o0 "com/example/traceweave/traceweave/pattern/NumberedPattern" "openInputs" "Ljava/util/BitSet;" .null := Fa54.keep Kq64 (ninS ne_o0_b49 nin0)
  have Fa74 : Fld Z T64.heap o0 "com/example/traceweave/traceweave/pattern/NumberedPattern" "openOutputs" "Ljava/util/BitSet;" .null := Fa55.keep Kq64 (ninS ne_o0_b49 nin0)
  have Fa75 : PI Z T64.heap o2 .int k ef := Fa56.keep Kq64 (ninS ne_o2_b49 nin0)
  have Fa76 : PI Z T64.heap o3 .int k tf := Fa57.keep Kq64 (ninS ne_o3_b49 nin0)
  have Fa77 : Exa Z T64.heap b11 "com/example/traceweave/traceweave/pattern/NumberedPattern$Adjacency" := Fa58.keep Kq64
  have Fa78 : Fld Z T64.heap b11 "com/example/traceweave/traceweave/pattern/NumberedPattern$Adjacency" "first" "[I" (.ref fi22) := Fa59.keep Kq64 (ninS ne_b11_b49 nin0)
  have Fa79 : Fld Z T64.heap b11 "com/example/traceweave/traceweave/pattern/NumberedPattern$Adjacency" "otherEnd" "[I" ov22 := Fa60.keep Kq64 (ninS ne_b11_b49 nin0)
  have Fa80 : PI Z T64.heap fi22 .int 4 (ps2 (cn1 ef k) 3) := Fa61.keep Kq64 (ninS ne_fi22_b49 nin0)
  have Fa81 : Exa Z T64.heap b49 "com/example/traceweave/traceweave/pattern/NumberedPattern$Adjacency" := A49.keep Kq64
  have ne_o0_fi64 : o0 ≠ fi64 := Nat.ne_of_lt (Nat.lt_of_lt_of_le Fa50.lt gfi_64)
  have ne_o2_fi64 : o2 ≠ fi64 := Nat.ne_of_lt (Nat.lt_of_lt_of_le Fa56.lt gfi_64)
  have ne_o3_fi64 : o3 ≠ fi64 := Nat.ne_of_lt (Nat.lt_of_lt_of_le Fa57.lt gfi_64)
  have ne_b11_fi64 : b11 ≠ fi64 := Nat.ne_of_lt (Nat.lt_of_lt_of_le Fa58.lt gfi_64)
  have ne_fi22_fi64 : fi22 ≠ fi64 := Nat.ne_of_lt (Nat.lt_of_lt_of_le Fa61.lt gfi_64)
  have ne_b49_fi64 : b49 ≠ fi64 := Nat.ne_of_lt (Nat.lt_of_lt_of_le A49.lt gfi_64)
  have g_fi64 : n0 ≤ fi64 := Nat.le_trans Z49 gfi_64
  have sz_fi64 : h0.size ≤ fi64 := Nat.le_trans K49.1 gfi_64
  refine goT (u' := T64.setTop (mkF m 34 #[.val (.ref o0), .val (.int (3 : Int32)), .val (.ref o2), .val (.ref o3), .val (.ref o4), .val (.ref o5)] [(.ref b49), (.ref o0)])) st64 ?_
  obtain ⟨T82, h82, X82, e82, W82, st82⟩ := putF X64 hx hZ hown (host := "") (Or.inl (ww hw 79 rfl)) Via.refl (rfl : T64.heap = _) Fa72 Fa69 (Or.inr ⟨(ww hw 80 rfl), rfl, hnm⟩) (ww hw 3 rfl) (ty := (.object "com/example/traceweave/traceweave/pattern/NumberedPattern$Adjacency")) (by decide) rfl rfl (g := (mkF m 34 #[.val (.ref o0), .val (.int (3 : Int32)), .val (.ref o2), .val (.ref o3), .val (.ref o4), .val (.ref o5)] [(.ref b49), (.ref o0)])) rfl rfl (hb hby d6_34)
  have N82 := Fr.snoc X82 N64 g_o0
  have K82 : Keep h0 h82 [o0] := K64.wr W82 (Or.inl (List.mem_of_getElem? (i := 0) rfl))
  have Z82 : n0 ≤ h82.size := Nat.le_trans Z64 (Keep.of_wr W82).1
  have Fa83 : Exa Z h82 o0 "com/example/traceweave/traceweave/pattern/NumberedPattern" := Fa69.wr W82
  have Fa84 : Fld Z h82 o0 "com/example/traceweave/traceweave/pattern/NumberedPattern" "activities" "I" (.int (3 : Int32)) := Fa70.other W82 (Or.inr (slot_ne (Or.inr (ww hw 37 rfl)) (Or.inr (ww hw 80 rfl)) (by decide) (t := .int) (t' := (.object "com/example/traceweave/traceweave/pattern/NumberedPattern$Adjacency")) (by decide) (by decide)))
  have Fa85 : Fld Z h82 o0 "com/example/traceweave/traceweave/pattern/NumberedPattern" "leaving" "Lcom/example/traceweave/traceweave/pattern/NumberedPattern$Adjacency;" (.ref b11) := Fa71.other W82 (Or.inr (slot_ne (Or.inr (ww hw 78 rfl)) (Or.inr (ww hw 80 rfl)) (by decide) (t := (.object "com/example/traceweave/traceweave/pattern/NumberedPattern$Adjacency")) (t' := (.object "com/example/traceweave/traceweave/pattern/NumberedPattern$Adjacency")) (by decide) (by decide)))
  have Fa86 : Fld Z h82 o0 "com/example/traceweave/traceweave/pattern/NumberedPattern" "openInputs" "Ljava/util/BitSet;" .null := Fa73.other W82 (Or.inr (slot_ne (Or.inr (ww hw 82 rfl)) (Or.inr (ww hw 80 rfl)) (by decide) (t := (.object "java/util/BitSet")) (t' := (.object "com/example/traceweave/traceweave/pattern/NumberedPattern$Adjacency")) (by decide) (by decide)))
  have Fa87 : Fld Z h82 o0 "com/example/traceweave/traceweave/pattern/NumberedPattern" "openOutputs" "Ljava/util/BitSet;" .null := Fa74.other W82 (Or.inr (slot_ne (Or.inr (ww hw 84 rfl)) (Or.inr (ww hw 80 rfl)) (by decide) (t := (.object "java/util/BitSet")) (t' := (.object "com/example/traceweave/traceweave/pattern/NumberedPattern$Adjacency")) (by decide) (by decide)))
  have Fa88 : PI Z h82 o2 .int k ef := Fa75.other W82 ne_o2_o0
  have Fa89 : PI Z h82 o3 .int k tf := Fa76.other W82 ne_o3_o0
  have Fa90 : Exa Z h82 b11 "com/example/traceweave/traceweave/pattern/NumberedPattern$Adjacency" := Fa77.wr W82
  have Fa91 : Fld Z h82 b11 "com/example/traceweave/traceweave/pattern/NumberedPattern$Adjacency" "first" "[I" (.ref fi22) := Fa78.other W82 (Or.inl (Ne.symm ne_o0_b11))
  have Fa92 : Fld Z h82 b11 "com/example/traceweave/traceweave/pattern/NumberedPattern$Adjacency" "otherEnd" "[I" ov22 := Fa79.other W82 (Or.inl (Ne.symm ne_o0_b11))
  have Fa93 : PI Z h82 fi22 .int 4 (ps2 (cn1 ef k) 3) := Fa80.other W82 (Ne.symm ne_o0_fi22)
  have Fa94 : Exa Z h82 b49 "com/example/traceweave/traceweave/pattern/NumberedPattern$Adjacency" := Fa65.wr W82
  have Fa95 : Fld Z h82 b49 "com/example/traceweave/traceweave/pattern/NumberedPattern$Adjacency" "first" "[I" (.ref fi64) := Fa66.other W82 (Or.inl (Ne.symm ne_o0_b49))
  have Fa96 : Fld Z h82 b49 "com/example/traceweave/traceweave/pattern/NumberedPattern$Adjacency" "otherEnd" "[I" ov64 := Fa67.other W82 (Or.inl (Ne.symm ne_o0_b49))
  have Fa97 : PI Z h82 fi64 .int 4 (ps2 (cn1 tf k) 3) := Fa68.other W82 (Ne.symm ne_o0_fi64)
  have Fa98 : Fld Z h82 o0 "com/example/traceweave/traceweave/pattern/NumberedPattern" "entering" "Lcom/example/traceweave/traceweave/pattern/NumberedPattern$Adjacency;" (.ref b49) := Fa72.same W82
  refine go (u' := T82.setTop (mkF m 37 #[.val (.ref o0), .val (.int (3 : Int32)), .val (.ref o2), .val (.ref o3), .val (.ref o4), .val (.ref o5)] [])) st82 ?_
  refine go (u' := T82.setTop (mkF m 38 #[.val (.ref o0), .val (.int (3 : Int32)), .val (.ref o2), .val (.ref o3), .val (.ref o4), .val (.ref o5)] [(.ref o0)])) (fun _ ks_ => XS.aloadN X82.here hx rfl (hb hby d6_37) rfl rfl ks_) ?_
  refine go (u' := T82.setTop (mkF m 40 #[.val (.ref o0), .val (.int (3 : Int32)), .val (.ref o2), .val (.ref o3), .val (.ref o4), .val (.ref o5)] [(.ref o4), (.ref o0)])) (fun _ ks_ => XS.aload X82.here hx rfl (hb hby d6_38) rfl rfl ks_) ?_
  obtain ⟨T99, h99, X99, e99, W99, st99⟩ := putF X82 hx hZ hown (host := "") (Or.inl (ww hw 81 rfl)) Via.refl e82 Fa86 Fa83 (Or.inr ⟨(ww hw 82 rfl), rfl, hnm⟩) (ww hw 3 rfl) (ty := (.object "java/util/BitSet")) (by decide) rfl rfl (g := (mkF m 40 #[.val (.ref o0), .val (.int (3 : Int32)), .val (.ref o2), .val (.ref o3), .val (.ref o4), .val (.ref o5)] [(.ref o4), (.ref o0)])) rfl rfl (hb hby d6_40)
  have N99 := Fr.snoc X99 N82 g_o0
  have K99 : Keep h0 h99 [o0] := K82.wr W99 (Or.inl (List.mem_of_getElem? (i := 0) rfl))
  have Z99 : n0 ≤ h99.size := Nat.le_trans Z82 (Keep.of_wr W99).1
  have Fa100 : Exa Z h99 o0 "com/example/traceweave/traceweave/pattern/NumberedPattern" := Fa83.wr W99
  have Fa101 : Fld Z h99 o0 "com/example/traceweave/traceweave/pattern/NumberedPattern" "activities" "I" (.int (3 : Int32)) := Fa84.other W99 (Or.inr (slot_ne (Or.inr (ww hw 37 rfl)) (Or.inr (ww hw 82 rfl)) (by decide) (t := .int) (t' := (.object "java/util/BitSet")) (by decide) (by decide)))
  have Fa102 : Fld Z h99 o0 "com/example/traceweave/traceweave/pattern/NumberedPattern" "leaving" "Lcom/example/traceweave/traceweave/pattern/NumberedPattern$Adjacency;" (.ref b11) := Fa85.other W99 (Or.inr (slot_ne (Or.inr (ww hw 78 rfl)) (Or.inr (ww hw 82 rfl)) (by decide) (t := (.object "com/example/traceweave/traceweave/pattern/NumberedPattern$Adjacency")) (t' := (.object "java/util/BitSet")) (by decide) (by decide)))
  have Fa103 : Fld Z h99 o0 "com/example/traceweave/traceweave/pattern/NumberedPattern" "entering" "Lcom/example/traceweave/traceweave/pattern/NumberedPattern$Adjacency;" (.ref b49) := Fa98.other W99 (Or.inr (slot_ne (Or.inr (ww hw 80 rfl)) (Or.inr (ww hw 82 rfl)) (by decide) (t := (.object "com/example/traceweave/traceweave/pattern/NumberedPattern$Adjacency")) (t' := (.object "java/util/BitSet")) (by decide) (by decide)))
  have Fa104 : Fld Z h99 o0 "com/example/traceweave/traceweave/pattern/NumberedPattern" "openOutputs" "Ljava/util/BitSet;" .null := Fa87.other W99 (Or.inr (slot_ne (Or.inr (ww hw 84 rfl)) (Or.inr (ww hw 82 rfl)) (by decide) (t := (.object "java/util/BitSet")) (t' := (.object "java/util/BitSet")) (by decide) (by decide)))
  have Fa105 : PI Z h99 o2 .int k ef := Fa88.other W99 ne_o2_o0
  have Fa106 : PI Z h99 o3 .int k tf := Fa89.other W99 ne_o3_o0
  have Fa107 : Exa Z h99 b11 "com/example/traceweave/traceweave/pattern/NumberedPattern$Adjacency" := Fa90.wr W99
  have Fa108 : Fld Z h99 b11 "com/example/traceweave/traceweave/pattern/NumberedPattern$Adjacency" "first" "[I" (.ref fi22) := Fa91.other W99 (Or.inl (Ne.symm ne_o0_b11))
  have Fa109 : Fld Z h99 b11 "com/example/traceweave/traceweave/pattern/NumberedPattern$Adjacency" "otherEnd" "[I" ov22 := Fa92.other W99 (Or.inl (Ne.symm ne_o0_b11))
  have Fa110 : PI Z h99 fi22 .int 4 (ps2 (cn1 ef k) 3) := Fa93.other W99 (Ne.symm ne_o0_fi22)
  have Fa111 : Exa Z h99 b49 "com/example/traceweave/traceweave/pattern/NumberedPattern$Adjacency" := Fa94.wr W99
  have Fa112 : Fld Z h99 b49 "com/example/traceweave/traceweave/pattern/NumberedPattern$Adjacency" "first" "[I" (.ref fi64) := Fa95.other W99 (Or.inl (Ne.symm ne_o0_b49))
  have Fa113 : Fld Z h99 b49 "com/example/traceweave/traceweave/pattern/NumberedPattern$Adjacency" "otherEnd" "[I" ov64 := Fa96.other W99 (Or.inl (Ne.symm ne_o0_b49))
  have Fa114 : PI Z h99 fi64 .int 4 (ps2 (cn1 tf k) 3) := Fa97.other W99 (Ne.symm ne_o0_fi64)
  have Fa115 : Fld Z h99 o0 "com/example/traceweave/traceweave/pattern/NumberedPattern" "openInputs" "Ljava/util/BitSet;" (.ref o4) := Fa86.same W99
  refine go (u' := T99.setTop (mkF m 43 #[.val (.ref o0), .val (.int (3 : Int32)), .val (.ref o2), .val (.ref o3), .val (.ref o4), .val (.ref o5)] [])) st99 ?_
  refine go (u' := T99.setTop (mkF m 44 #[.val (.ref o0), .val (.int (3 : Int32)), .val (.ref o2), .val (.ref o3), .val (.ref o4), .val (.ref o5)] [(.ref o0)])) (fun _ ks_ => XS.aloadN X99.here hx rfl (hb hby d6_43) rfl rfl ks_) ?_
  refine go (u' := T99.setTop (mkF m 46 #[.val (.ref o0), .val (.int (3 : Int32)), .val (.ref o2), .val (.ref o3), .val (.ref o4), .val (.ref o5)] [(.ref o5), (.ref o0)])) (fun _ ks_ => XS.aload X99.here hx rfl (hb hby d6_44) rfl rfl ks_) ?_
  obtain ⟨T116, h116, X116, e116, W116, st116⟩ := putF X99 hx hZ hown (host := "") (Or.inl (ww hw 83 rfl)) Via.refl e99 Fa104 Fa100 (Or.inr ⟨(ww hw 84 rfl), rfl, hnm⟩) (ww hw 3 rfl) (ty := (.object "java/util/BitSet")) (by decide) rfl rfl (g := (mkF m 46 #[.val (.ref o0), .val (.int (3 : Int32)), .val (.ref o2), .val (.ref o3), .val (.ref o4), .val (.ref o5)] [(.ref o5), (.ref o0)])) rfl rfl (hb hby d6_46)
  have N116 := Fr.snoc X116 N99 g_o0
  have K116 : Keep h0 h116 [o0] := K99.wr W116 (Or.inl (List.mem_of_getElem? (i := 0) rfl))
  have Z116 : n0 ≤ h116.size := Nat.le_trans Z99 (Keep.of_wr W116).1
  have Fa117 : Exa Z h116 o0 "com/example/traceweave/traceweave/pattern/NumberedPattern" := Fa100.wr W116
  have Fa118 : Fld Z h116 o0 "com/example/traceweave/traceweave/pattern/NumberedPattern" "activities" "I" (.int (3 : Int32)) := Fa101.other W116 (Or.inr (slot_ne (Or.inr (ww hw 37 rfl)) (Or.inr (ww hw 84 rfl)) (by decide) (t := .int) (t' := (.object "java/util/BitSet")) (by decide) (by decide)))
  have Fa119 : Fld Z h116 o0 "com/example/traceweave/traceweave/pattern/NumberedPattern" "leaving" "Lcom/example/traceweave/traceweave/pattern/NumberedPattern$Adjacency;" (.ref b11) := Fa102.other W116 (Or.inr (slot_ne (Or.inr (ww hw 78 rfl)) (Or.inr (ww hw 84 rfl)) (by decide) (t := (.object "com/example/traceweave/traceweave/pattern/NumberedPattern$Adjacency")) (t' := (.object "java/util/BitSet")) (by decide) (by decide)))
  have Fa120 : Fld Z h116 o0 "com/example/traceweave/traceweave/pattern/NumberedPattern" "entering" "Lcom/example/traceweave/traceweave/pattern/NumberedPattern$Adjacency;" (.ref b49) := Fa103.other W116 (Or.inr (slot_ne (Or.inr (ww hw 80 rfl)) (Or.inr (ww hw 84 rfl)) (by decide) (t := (.object "com/example/traceweave/traceweave/pattern/NumberedPattern$Adjacency")) (t' := (.object "java/util/BitSet")) (by decide) (by decide)))
  have Fa121 : Fld Z h116 o0 "com/example/traceweave/traceweave/pattern/NumberedPattern" "openInputs" "Ljava/util/BitSet;" (.ref o4) := Fa115.other W116 (Or.inr (slot_ne (Or.inr (ww hw 82 rfl)) (Or.inr (ww hw 84 rfl)) (by decide) (t := (.object "java/util/BitSet")) (t' := (.object "java/util/BitSet")) (by decide) (by decide)))
  have Fa122 : PI Z h116 o2 .int k ef := Fa105.other W116 ne_o2_o0
  have Fa123 : PI Z h116 o3 .int k tf := Fa106.other W116 ne_o3_o0
  have Fa124 : Exa Z h116 b11 "com/example/traceweave/traceweave/pattern/NumberedPattern$Adjacency" := Fa107.wr W116
  have Fa125 : Fld Z h116 b11 "com/example/traceweave/traceweave/pattern/NumberedPattern$Adjacency" "first" "[I" (.ref fi22) := Fa108.other W116 (Or.inl (Ne.symm ne_o0_b11))
  have Fa126 : Fld Z h116 b11 "com/example/traceweave/traceweave/pattern/NumberedPattern$Adjacency" "otherEnd" "[I" ov22 := Fa109.other W116 (Or.inl (Ne.symm ne_o0_b11))
  have Fa127 : PI Z h116 fi22 .int 4 (ps2 (cn1 ef k) 3) := Fa110.other W116 (Ne.symm ne_o0_fi22)
  have Fa128 : Exa Z h116 b49 "com/example/traceweave/traceweave/pattern/NumberedPattern$Adjacency" := Fa111.wr W116
  have Fa129 : Fld Z h116 b49 "com/example/traceweave/traceweave/pattern/NumberedPattern$Adjacency" "first" "[I" (.ref fi64) := Fa112.other W116 (Or.inl (Ne.symm ne_o0_b49))
  have Fa130 : Fld Z h116 b49 "com/example/traceweave/traceweave/pattern/NumberedPattern$Adjacency" "otherEnd" "[I" ov64 := Fa113.other W116 (Or.inl (Ne.symm ne_o0_b49))
  have Fa131 : PI Z h116 fi64 .int 4 (ps2 (cn1 tf k) 3) := Fa114.other W116 (Ne.symm ne_o0_fi64)
  have Fa132 : Fld Z h116 o0 "com/example/traceweave/traceweave/pattern/NumberedPattern" "openOutputs" "Ljava/util/BitSet;" (.ref o5) := Fa104.same W116
  refine go (u' := T116.setTop (mkF m 49 #[.val (.ref o0), .val (.int (3 : Int32)), .val (.ref o2), .val (.ref o3), .val (.ref o4), .val (.ref o5)] [])) st116 ?_
  rw [hG]
  refine g0 X116 hx hlk hret (hb hby d6_49) ?_ (Nat.le_of_ble_eq_true rfl) (Nat.le_of_ble_eq_true rfl)
  show Q_rm6 Z o0 o2 o3 o4 o5 k ef tf h0 n0 (none) T116.heap _
  rw [e116]
  exact ⟨b49, fi64, rfl, N116, K116, Fa117, Fa120, Fa128, Fa129, Fa131, sz_b49, sz_fi64, ne_b49_fi64⟩
theorem pd__40__41_V : parseMethodDescriptor "()V" = some ⟨[], none⟩ := by decide +kernel
theorem pd__40_I_91_I_91_ILjava_47_util_47_BitSet_59_Ljava_47_util_47_BitSet_59__41_V : parseMethodDescriptor "(I[I[ILjava/util/BitSet;Ljava/util/BitSet;)V" = some ⟨[.int, (.array .int), (.array .int), (.object "java/util/BitSet"), (.object "java/util/BitSet")], none⟩ := by decide +kernel
theorem pn_com_example_traceweave_traceweave_pattern_NumberedPattern__init__1 : plainFor (⟨"com/example/traceweave/traceweave/pattern/NumberedPattern", "<init>", "(I[I[I)V"⟩ : MethodName) = true := by first | exact plainFor_of_name (by first | (simp [plainName, overriddenIn]; done) | decide +kernel) | decide +kernel
def Q_rm1 (Z : State) (o0 : Addr) (o2 : Addr) (o3 : Addr) (k : Nat) (ef : Nat → Int32) (tf : Nat → Int32) (h0 : Heap) (n0 : Nat) (v : Option Value) (h : Heap) (L : List Loc) : Prop := ∃ ad : Addr, ∃ fi : Addr, v = none ∧ Fr n0 L ∧ Keep h0 h [o0] ∧ (Exa Z h o0 "com/example/traceweave/traceweave/pattern/NumberedPattern") ∧ (Fld Z h o0 "com/example/traceweave/traceweave/pattern/NumberedPattern" "entering" "Lcom/example/traceweave/traceweave/pattern/NumberedPattern$Adjacency;" (.ref ad)) ∧ (Exa Z h ad "com/example/traceweave/traceweave/pattern/NumberedPattern$Adjacency") ∧ (Fld Z h ad "com/example/traceweave/traceweave/pattern/NumberedPattern$Adjacency" "first" "[I" (.ref fi)) ∧ (PI Z h fi .int 4 (ps2 (cn1 tf k) 3)) ∧ (h0.size ≤ ad) ∧ (h0.size ≤ fi) ∧ (ad ≠ fi)
set_option maxRecDepth 65536 in
set_option maxHeartbeats 4000000 in
theorem ef_rm1 (m : MethodId) (o0 : Addr) (o2 : Addr) (o3 : Addr) : entryFrame m #[(.ref o0), (.int (3 : Int32)), (.ref o2), (.ref o3)] 4 = mkF m 0 #[.val (.ref o0), .val (.int (3 : Int32)), .val (.ref o2), .val (.ref o3)] [] := by first | (simp [entryFrame, mkF, argsToLocals, Value.category, maxLocals]; done) | rfl
theorem d1_0 : decode prog_42_method_1_code 0 = .ok (.aload_n 0, 1) := by decide +kernel
theorem d1_1 : decode prog_42_method_1_code 1 = .ok (.iload_n 1, 1) := by decide +kernel
theorem d1_2 : decode prog_42_method_1_code 2 = .ok (.aload_n 2, 1) := by decide +kernel
theorem d1_3 : decode prog_42_method_1_code 3 = .ok (.aload_n 3, 1) := by decide +kernel
theorem d1_4 : decode prog_42_method_1_code 4 = .ok (.new 1, 3) := by decide +kernel
theorem d1_7 : decode prog_42_method_1_code 7 = .ok (.dup, 1) := by decide +kernel
theorem d1_8 : decode prog_42_method_1_code 8 = .ok (.invokespecial 3, 3) := by decide +kernel
theorem d1_11 : decode prog_42_method_1_code 11 = .ok (.new 1, 3) := by decide +kernel
theorem d1_14 : decode prog_42_method_1_code 14 = .ok (.dup, 1) := by decide +kernel
theorem d1_15 : decode prog_42_method_1_code 15 = .ok (.invokespecial 3, 3) := by decide +kernel
theorem d1_18 : decode prog_42_method_1_code 18 = .ok (.invokespecial 7, 3) := by decide +kernel
theorem d1_21 : decode prog_42_method_1_code 21 = .ok (.return_, 1) := by decide +kernel
set_option maxRecDepth 65536 in
set_option maxHeartbeats 40000000 in
theorem rm1 (l : Launch) (Z : State) (a0 : Array Value) (hw : ∀ d ∈ tables_1, d.before a0 Z = true) (ws : List Jvm.Cond) (o0 : Addr) (o2 : Addr) (o3 : Addr) (k : Nat) (ef : Nat → Int32) (tf : Nat → Int32) (h0 : Heap) (n0 : Nat) (Z0 : n0 ≤ h0.size) (g_o0 : n0 ≤ o0) (ne_o2_o0 : o2 ≠ o0) (ne_o3_o0 : o3 ≠ o0) (F0 : Exa Z h0 o0 "com/example/traceweave/traceweave/pattern/NumberedPattern") (F1 : Fld Z h0 o0 "com/example/traceweave/traceweave/pattern/NumberedPattern" "activities" "I" (.int (0 : Int32))) (F2 : Fld Z h0 o0 "com/example/traceweave/traceweave/pattern/NumberedPattern" "leaving" "Lcom/example/traceweave/traceweave/pattern/NumberedPattern$Adjacency;" .null) (F3 : Fld Z h0 o0 "com/example/traceweave/traceweave/pattern/NumberedPattern" "entering" "Lcom/example/traceweave/traceweave/pattern/NumberedPattern$Adjacency;" .null) (F4 : Fld Z h0 o0 "com/example/traceweave/traceweave/pattern/NumberedPattern" "openInputs" "Ljava/util/BitSet;" .null) (F5 : Fld Z h0 o0 "com/example/traceweave/traceweave/pattern/NumberedPattern" "openOutputs" "Ljava/util/BitSet;" .null) (F6 : PI Z h0 o2 .int k ef) (F7 : PI Z h0 o3 .int k tf) (hk : k ≤ 3) (he : ∀ i, i < k → 0 ≤ (ef i).toInt ∧ (ef i).toInt < 3) (ht : ∀ i, i < k → 0 ≤ (tf i).toInt ∧ (tf i).toInt < 3) :
    MetFree l (⟨"com/example/traceweave/traceweave/pattern/NumberedPattern", "<init>", "(I[I[I)V"⟩ : MethodName) (head1 (Jvm.Cond.code (⟨"com/example/traceweave/traceweave/pattern/NumberedPattern", "<init>", "(I[I[I)V"⟩ : MethodName) prog_42_method_1_code 4 none :: ws) ({ frames := 6, cells := 12, slots := 32, locals := 119 } : Room)) (fun a U => a = #[(.ref o0), (.int (3 : Int32)), (.ref o2), (.ref o3)] ∧ Z.Warmed39 U.vm ∧ U.heap = h0) (fun _ _ _ _ _ => True) (fun _ U o U' => ∃ v L, o = .returned v ∧ Q_rm1 Z o0 o2 o3 k ef tf h0 n0 v U'.heap L ∧ FrameEnd U o U' L ({ frames := 6, cells := 12, slots := 32, locals := 119 } : Room).cells ({ frames := 6, cells := 12, slots := 32, locals := 119 } : Room).slots) := by
  refine body pn_com_example_traceweave_traceweave_pattern_NumberedPattern__init__1 ?_
  intro p e s m below meth c s₁ hx hby hml hown hnm hret hlk hZ e0 X0
  replace hml : c.maxLocals = 4 := hml
  replace hown : s.vm.findClass "com/example/traceweave/traceweave/pattern/NumberedPattern" = some m.cls := hown
  replace hnm : meth.name = "<init>" := hnm
  replace hret : meth.sig.returnType = none := hret
  have N0 := Fr.nil n0
  rw [ef_rm1]
  obtain ⟨G, hG⟩ : ∃ G, G = End (Q_rm1 Z o0 o2 o3 k ef tf h0 n0) s ({ frames := 6, cells := 12, slots := 32, locals := 119 } : Room).cells ({ frames := 6, cells := 12, slots := 32, locals := 119 } : Room).slots := ⟨_, rfl⟩
  rw [← hG]
  refine go (u' := s₁.setTop (mkF m 1 #[.val (.ref o0), .val (.int (3 : Int32)), .val (.ref o2), .val (.ref o3)] [(.ref o0)])) (fun _ ks_ => XS.aloadN X0.here hx rfl (hb hby d1_0) rfl rfl ks_) ?_
  refine go (u' := s₁.setTop (mkF m 2 #[.val (.ref o0), .val (.int (3 : Int32)), .val (.ref o2), .val (.ref o3)] [(.int (3 : Int32)), (.ref o0)])) (fun _ ks_ => XS.iloadN X0.here hx rfl (hb hby d1_1) rfl  ks_) ?_
  refine go (u' := s₁.setTop (mkF m 3 #[.val (.ref o0), .val (.int (3 : Int32)), .val (.ref o2), .val (.ref o3)] [(.ref o2), (.int (3 : Int32)), (.ref o0)])) (fun _ ks_ => XS.aloadN X0.here hx rfl (hb hby d1_2) rfl rfl ks_) ?_
  refine go (u' := s₁.setTop (mkF m 4 #[.val (.ref o0), .val (.int (3 : Int32)), .val (.ref o2), .val (.ref o3)] [(.ref o3), (.ref o2), (.int (3 : Int32)), (.ref o0)])) (fun _ ks_ => XS.aloadN X0.here hx rfl (hb hby d1_3) rfl rfl ks_) ?_
  obtain ⟨T1, h1, X1, e1, E1, A1, D1, -, st1⟩ := newO X0 hx hZ hown (ww hw 8 rfl) (ww hw 9 rfl) (ww hw 10 rfl) e0 (g := (mkF m 4 #[.val (.ref o0), .val (.int (3 : Int32)), .val (.ref o2), .val (.ref o3)] [(.ref o3), (.ref o2), (.int (3 : Int32)), (.ref o0)])) rfl (hb hby d1_4) (by decide) (by decide)
  obtain ⟨b1, g1⟩ : ∃ z, z = h0.size := ⟨_, rfl⟩
  rw [← g1] at A1 D1 st1
  have ne_o0_b1 : o0 ≠ b1 := Nat.ne_of_lt (Nat.lt_of_lt_of_le F0.lt (Nat.le_of_eq g1.symm))
  have ne_o2_b1 : o2 ≠ b1 := Nat.ne_of_lt (Nat.lt_of_lt_of_le F6.lt (Nat.le_of_eq g1.symm))
  have ne_o3_b1 : o3 ≠ b1 := Nat.ne_of_lt (Nat.lt_of_lt_of_le F7.lt (Nat.le_of_eq g1.symm))
  have g_b1 : n0 ≤ b1 := Nat.le_trans Z0 (Nat.le_of_eq g1.symm)
  have sz_b1 : h0.size ≤ b1 := Nat.le_trans (Keep.refl h0 [o0]).1 (Nat.le_of_eq g1.symm)
  have K1 : Keep h0 h1 [o0] := (Keep.refl h0 [o0]).ext E1
  have Fa2 : Exa Z h1 o0 "com/example/traceweave/traceweave/pattern/NumberedPattern" := F0.ext E1
  have Fa3 : Fld Z h1 o0 "com/example/traceweave/traceweave/pattern/NumberedPattern" "activities" "I" (.int (0 : Int32)) := F1.ext E1
  have Fa4 : Fld Z h1 o0 "com/example/traceweave/traceweave/pattern/NumberedPattern" "leaving" "Lcom/example/traceweave/traceweave/pattern/NumberedPattern$Adjacency;" .null := F2.ext E1
  have Fa5 : Fld Z h1 o0 "com/example/traceweave/traceweave/pattern/NumberedPattern" "entering" "Lcom/example/traceweave/traceweave/pattern/NumberedPattern$Adjacency;" .null := F3.ext E1
  have Fa6 : Fld Z h1 o0 "com/example/traceweave/traceweave/pattern/NumberedPattern" "openInputs" "Ljava/util/BitSet;" .null := F4.ext E1
  have Fa7 : Fld Z h1 o0 "com/example/traceweave/traceweave/pattern/NumberedPattern" "openOutputs" "Ljava/util/BitSet;" .null := F5.ext E1
  have Fa8 : PI Z h1 o2 .int k ef := F6.ext E1
  have Fa9 : PI Z h1 o3 .int k tf := F7.ext E1
  have Z1 : n0 ≤ h1.size := Nat.le_trans Z0 E1.1
  have Fa10 : Fld Z h1 b1 "java/util/BitSet" "wordsInUse" "I" (.int (0 : Int32)) := D1 (Or.inl (ww hw 18 rfl)) (ty := .int) (by decide)
  have Fa11 : Fld Z h1 b1 "java/util/BitSet" "sizeIsSticky" "Z" (.int (0 : Int32)) := D1 (Or.inl (ww hw 20 rfl)) (ty := .boolean) (by decide)
  have Fa12 : Fld Z h1 b1 "java/util/BitSet" "words" "[J" .null := D1 (Or.inl (ww hw 31 rfl)) (ty := (.array .long)) (by decide)
  refine go (u' := T1.setTop (mkF m 7 #[.val (.ref o0), .val (.int (3 : Int32)), .val (.ref o2), .val (.ref o3)] [(.ref b1), (.ref o3), (.ref o2), (.int (3 : Int32)), (.ref o0)])) st1 ?_
  refine go (u' := T1.setTop (mkF m 8 #[.val (.ref o0), .val (.int (3 : Int32)), .val (.ref o2), .val (.ref o3)] [(.ref b1), (.ref b1), (.ref o3), (.ref o2), (.int (3 : Int32)), (.ref o0)])) (fun _ ks_ => XS.dup X1.here hx rfl (hb hby d1_7) rfl rfl ks_) ?_
  obtain ⟨_, _, ⟨T13, L13, k13, n13⟩, -, X13, ⟨Lc13, hQ13, l13, y13, z13⟩, st13⟩ := X1.specialBack hx (y := (⟨"java/util/BitSet", "<init>", "()V"⟩ : MethodName)) rfl hown (mvT hZ (ww hw 11 rfl)) (mvT hZ (ww hw 12 rfl)) (mvT hZ (ww hw 13 rfl)) (by decide) (backOf (W := 5) (rm2 l Z a0 hw [] b1 h1 n0 Z1 g_b1 A1 Fa10 Fa11 Fa12) hZ (ww hw 13 rfl) (ww hw 10 rfl) (by decide) (by decide)) (g := (mkF m 8 #[.val (.ref o0), .val (.int (3 : Int32)), .val (.ref o2), .val (.ref o3)] [(.ref b1), (.ref b1), (.ref o3), (.ref o2), (.int (3 : Int32)), (.ref o0)])) rfl (by rw [hml]; rfl) (Steps.refl _) (a := b1) (argsL := []) (rest := [(.ref b1), (.ref o3), (.ref o2), (.int (3 : Int32)), (.ref o0)]) (lenOf pd__40__41_V rfl) rfl (by show 2 * 0 + _ ≤ _; exact Nat.le_of_eq rfl) (hb hby d1_8) (fun _ _ => ⟨rfl, e1, (by decide : 1 + 1 ≤ _), (by decide : 3 + 1 ≤ _)⟩)
  dsimp only [Pt.U, Pt.locs, Pt.cells, Pt.slots] at X13 l13 y13 z13 st13 hQ13
  subst l13 y13 z13
  obtain ⟨wv13, rfl, N13q, Kq13, Fa14, Fa15, Fa16, Fa17⟩ := hQ13
  have N13 := Fr.app N0 N13q
  have K13 : Keep h0 T13.heap [o0] := K1.trans Kq13 (allS (P := fun x => x ∈ [o0] ∨ h0.size ≤ x) (Or.inr sz_b1) all0)
  have Z13 : n0 ≤ T13.heap.size := Nat.le_trans Z1 Kq13.1
  have Fa18 : Exa Z T13.heap o0 "com/example/traceweave/traceweave/pattern/NumberedPattern" := Fa2.keep Kq13
  have Fa19 : Fld Z T13.heap o0 "com/example/traceweave/traceweave/pattern/NumberedPattern" "activities" "I" (.int (0 : Int32)) := Fa3.keep Kq13 (ninS ne_o0_b1 nin0)
  have Fa20 : Fld Z T13.heap o0 "com/example/traceweave/traceweave/pattern/NumberedPattern" "leaving" "Lcom/example/traceweave/traceweave/pattern/NumberedPattern$Adjacency;" .null := Fa4.keep Kq13 (ninS ne_o0_b1 nin0)
  have Fa21 : Fld Z T13.heap o0 "com/example/traceweave/traceweave/pattern/NumberedPattern" "entering" "Lcom/example/traceweave/traceweave/pattern/NumberedPattern$Adjacency;" .null := Fa5.keep Kq13 (ninS ne_o0_b1 nin0)
  have Fa22 : Fld Z T13.heap o0 "com/example/traceweave/traceweave/pattern/NumberedPattern" "openInputs" "Ljava/util/BitSet;" .null := Fa6.keep Kq13 (ninS ne_o0_b1 nin0)
  have Fa23 : Fld Z T13.heap o0 "com/example/traceweave/traceweave/pattern/NumberedPattern" "openOutputs" "Ljava/util/BitSet;" .null := Fa7.keep Kq13 (ninS ne_o0_b1 nin0)
  have Fa24 : PI Z T13.heap o2 .int k ef := Fa8.keep Kq13 (ninS ne_o2_b1 nin0)
  have Fa25 : PI Z T13.heap o3 .int k tf := Fa9.keep Kq13 (ninS ne_o3_b1 nin0)
  have Fa26 : Exa Z T13.heap b1 "java/util/BitSet" := A1.keep Kq13
  refine goT (u' := T13.setTop (mkF m 11 #[.val (.ref o0), .val (.int (3 : Int32)), .val (.ref o2), .val (.ref o3)] [(.ref b1), (.ref o3), (.ref o2), (.int (3 : Int32)), (.ref o0)])) st13 ?_
  obtain ⟨T27, h27, X27, e27, E27, A27, D27, -, st27⟩ := newO X13 hx hZ hown (ww hw 8 rfl) (ww hw 9 rfl) (ww hw 10 rfl) (rfl : T13.heap = _) (g := (mkF m 11 #[.val (.ref o0), .val (.int (3 : Int32)), .val (.ref o2), .val (.ref o3)] [(.ref b1), (.ref o3), (.ref o2), (.int (3 : Int32)), (.ref o0)])) rfl (hb hby d1_11) (by decide) (by decide)
  obtain ⟨b27, g27⟩ : ∃ z, z = T13.heap.size := ⟨_, rfl⟩
  rw [← g27] at A27 D27 st27
  have ne_o0_b27 : o0 ≠ b27 := Nat.ne_of_lt (Nat.lt_of_lt_of_le Fa18.lt (Nat.le_of_eq g27.symm))
  have ne_o2_b27 : o2 ≠ b27 := Nat.ne_of_lt (Nat.lt_of_lt_of_le Fa24.lt (Nat.le_of_eq g27.symm))
  have ne_o3_b27 : o3 ≠ b27 := Nat.ne_of_lt (Nat.lt_of_lt_of_le Fa25.lt (Nat.le_of_eq g27.symm))
  have ne_b1_b27 : b1 ≠ b27 := Nat.ne_of_lt (Nat.lt_of_lt_of_le Fa14.lt (Nat.le_of_eq g27.symm))
  have g_b27 : n0 ≤ b27 := Nat.le_trans Z13 (Nat.le_of_eq g27.symm)
  have sz_b27 : h0.size ≤ b27 := Nat.le_trans K13.1 (Nat.le_of_eq g27.symm)
  have K27 : Keep h0 h27 [o0] := K13.ext E27
  have Fa28 : Exa Z h27 o0 "com/example/traceweave/traceweave/pattern/NumberedPattern" := Fa18.ext E27
  have Fa29 : Fld Z h27 o0 "com/example/traceweave/traceweave/pattern/NumberedPattern" "activities" "I" (.int (0 : Int32)) := Fa19.ext E27
  have Fa30 : Fld Z h27 o0 "com/example/traceweave/traceweave/pattern/NumberedPattern" "leaving" "Lcom/example/traceweave/traceweave/pattern/NumberedPattern$Adjacency;" .null := Fa20.ext E27
  have Fa31 : Fld Z h27 o0 "com/example/traceweave/traceweave/pattern/NumberedPattern" "entering" "Lcom/example/traceweave/traceweave/pattern/NumberedPattern$Adjacency;" .null := Fa21.ext E27
  have Fa32 : Fld Z h27 o0 "com/example/traceweave/traceweave/pattern/NumberedPattern" "openInputs" "Ljava/util/BitSet;" .null := Fa22.ext E27
  have Fa33 : Fld Z h27 o0 "com/example/traceweave/traceweave/pattern/NumberedPattern" "openOutputs" "Ljava/util/BitSet;" .null := Fa23.ext E27
  have Fa34 : PI Z h27 o2 .int k ef := Fa24.ext E27
  have Fa35 : PI Z h27 o3 .int k tf := Fa25.ext E27
  have Fa36 : Exa Z h27 b1 "java/util/BitSet" := Fa14.ext E27
  have Fa37 : Fld Z h27 b1 "java/util/BitSet" "wordsInUse" "I" (.int (0 : Int32)) := Fa15.ext E27
  have Fa38 : Fld Z h27 b1 "java/util/BitSet" "sizeIsSticky" "Z" (.int (0 : Int32)) := Fa16.ext E27
  have Fa39 : Fld Z h27 b1 "java/util/BitSet" "words" "[J" wv13 := Fa17.ext E27
  have Z27 : n0 ≤ h27.size := Nat.le_trans Z13 E27.1
  have Fa40 : Fld Z h27 b27 "java/util/BitSet" "wordsInUse" "I" (.int (0 : Int32)) := D27 (Or.inl (ww hw 18 rfl)) (ty := .int) (by decide)
  have Fa41 : Fld Z h27 b27 "java/util/BitSet" "sizeIsSticky" "Z" (.int (0 : Int32)) := D27 (Or.inl (ww hw 20 rfl)) (ty := .boolean) (by decide)
  have Fa42 : Fld Z h27 b27 "java/util/BitSet" "words" "[J" .null := D27 (Or.inl (ww hw 31 rfl)) (ty := (.array .long)) (by decide)
  refine go (u' := T27.setTop (mkF m 14 #[.val (.ref o0), .val (.int (3 : Int32)), .val (.ref o2), .val (.ref o3)] [(.ref b27), (.ref b1), (.ref o3), (.ref o2), (.int (3 : Int32)), (.ref o0)])) st27 ?_
  refine go (u' := T27.setTop (mkF m 15 #[.val (.ref o0), .val (.int (3 : Int32)), .val (.ref o2), .val (.ref o3)] [(.ref b27), (.ref b27), (.ref b1), (.ref o3), (.ref o2), (.int (3 : Int32)), (.ref o0)])) (fun _ ks_ => XS.dup X27.here hx rfl (hb hby d1_14) rfl rfl ks_) ?_
  obtain ⟨_, _, ⟨T43, L43, k43, n43⟩, -, X43, ⟨Lc43, hQ43, l43, y43, z43⟩, st43⟩ := X27.specialBack hx (y := (⟨"java/util/BitSet", "<init>", "()V"⟩ : MethodName)) rfl hown (mvT hZ (ww hw 11 rfl)) (mvT hZ (ww hw 12 rfl)) (mvT hZ (ww hw 13 rfl)) (by decide) (backOf (W := 6) (rm2 l Z a0 hw [] b27 h27 n0 Z27 g_b27 A27 Fa40 Fa41 Fa42) hZ (ww hw 13 rfl) (ww hw 10 rfl) (by decide) (by decide)) (g := (mkF m 15 #[.val (.ref o0), .val (.int (3 : Int32)), .val (.ref o2), .val (.ref o3)] [(.ref b27), (.ref b27), (.ref b1), (.ref o3), (.ref o2), (.int (3 : Int32)), (.ref o0)])) rfl (by rw [hml]; rfl) (Steps.refl _) (a := b27) (argsL := []) (rest := [(.ref b27), (.ref b1), (.ref o3), (.ref o2), (.int (3 : Int32)), (.ref o0)]) (lenOf pd__40__41_V rfl) rfl (by show 2 * 0 + _ ≤ _; exact Nat.le_of_eq rfl) (hb hby d1_15) (fun _ _ => ⟨rfl, e27, (by decide : 3 + 1 ≤ _), (by decide : 7 + 1 ≤ _)⟩)
  dsimp only [Pt.U, Pt.locs, Pt.cells, Pt.slots] at X43 l43 y43 z43 st43 hQ43
  subst l43 y43 z43
  obtain ⟨wv43, rfl, N43q, Kq43, Fa44, Fa45, Fa46, Fa47⟩ := hQ43
  have N43 := Fr.app N13 N43q
  have K43 : Keep h0 T43.heap [o0] := K27.trans Kq43 (allS (P := fun x => x ∈ [o0] ∨ h0.size ≤ x) (Or.inr sz_b27) all0)
  have Z43 : n0 ≤ T43.heap.size := Nat.le_trans Z27 Kq43.1
  have Fa48 : Exa Z T43.heap o0 "com/example/traceweave/traceweave/pattern/NumberedPattern" := Fa28.keep Kq43
  have Fa49 : Fld Z T43.heap o0 "com/example/traceweave/traceweave/pattern/NumberedPattern" "activities" "I" (.int (0 : Int32)) := Fa29.keep Kq43 (ninS ne_o0_b27 nin0)
  have Fa50 : Fld Z T43.heap o0 "com/example/traceweave/traceweave/pattern/NumberedPattern" "leaving" "Lcom/example/traceweave/traceweave/pattern/NumberedPattern$Adjacency;" .null := Fa30.keep Kq43 (ninS ne_o0_b27 nin0)
  have Fa51 : Fld Z T43.heap o0 "com/example/traceweave/traceweave/pattern/NumberedPattern" "entering" "Lcom/example/traceweave/traceweave/pattern/NumberedPattern$Adjacency;" .null := Fa31.keep Kq43 (ninS ne_o0_b27 nin0)
  have Fa52 : Fld Z T43.heap o0 "com/example/traceweave/traceweave/pattern/NumberedPattern" "openInputs" "Ljava/util/BitSet;" .null := Fa32.keep Kq43 (ninS ne_o0_b27 nin0)
  have Fa53 : Fld Z T43.heap o0 "com/example/traceweave/traceweave/pattern/NumberedPattern" "openOutputs" "Ljava/util/BitSet;" .null := Fa33.keep Kq43 (ninS ne_o0_b27 nin0)
  have Fa54 : PI Z T43.heap o2 .int k ef := Fa34.keep Kq43 (ninS ne_o2_b27 nin0)
  have Fa55 : PI Z T43.heap o3 .int k tf := Fa35.keep Kq43 (ninS ne_o3_b27 nin0)
  have Fa56 : Exa Z T43.heap b1 "java/util/BitSet" := Fa36.keep Kq43
  have Fa57 : Fld Z T43.heap b1 "java/util/BitSet" "wordsInUse" "I" (.int (0 : Int32)) := Fa37.keep Kq43 (ninS ne_b1_b27 nin0)
  have Fa58 : Fld Z T43.heap b1 "java/util/BitSet" "sizeIsSticky" "Z" (.int (0 : Int32)) := Fa38.keep Kq43 (ninS ne_b1_b27 nin0)
  have Fa59 : Fld Z T43.heap b1 "java/util/BitSet" "words" "[J" wv13 := Fa39.keep Kq43 (ninS ne_b1_b27 nin0)
  have Fa60 : Exa Z T43.heap b27 "java/util/BitSet" := A27.keep Kq43
  refine goT (u' := T43.setTop (mkF m 18 #[.val (.ref o0), .val (.int (3 : Int32)), .val (.ref o2), .val (.ref o3)] [(.ref b27), (.ref b1), (.ref o3), (.ref o2), (.int (3 : Int32)), (.ref o0)])) st43 ?_
  obtain ⟨_, _, ⟨T61, L61, k61, n61⟩, -, X61, ⟨Lc61, hQ61, l61, y61, z61⟩, st61⟩ := X43.specialBack hx (y := (⟨"com/example/traceweave/traceweave/pattern/NumberedPattern", "<init>", "(I[I[ILjava/util/BitSet;Ljava/util/BitSet;)V"⟩ : MethodName)) rfl hown (mvT hZ (ww hw 32 rfl)) (mvT hZ (ww hw 33 rfl)) (mvT hZ (ww hw 34 rfl)) (by decide) (backOf (W := 0) (rm6 l Z a0 hw [] o0 o2 o3 b1 b27 k ef tf T43.heap n0 Z43 g_o0 ne_o2_o0 ne_o3_o0 Fa48 Fa49 Fa50 Fa51 Fa52 Fa53 Fa54 Fa55 hk he ht) hZ (ww hw 34 rfl) (ww hw 4 rfl) (by decide) (by decide)) (g := (mkF m 18 #[.val (.ref o0), .val (.int (3 : Int32)), .val (.ref o2), .val (.ref o3)] [(.ref b27), (.ref b1), (.ref o3), (.ref o2), (.int (3 : Int32)), (.ref o0)])) rfl (by rw [hml]; rfl) (Steps.refl _) (a := o0) (argsL := [(.int (3 : Int32)), (.ref o2), (.ref o3), (.ref b1), (.ref b27)]) (rest := []) (lenOf pd__40_I_91_I_91_ILjava_47_util_47_BitSet_59_Ljava_47_util_47_BitSet_59__41_V rfl) rfl (by show 2 * 0 + _ ≤ _; exact Nat.le_of_eq rfl) (hb hby d1_18) (fun _ _ => ⟨rfl, (rfl : T43.heap = _), (by decide : 4 + 8 ≤ _), (by decide : 8 + 24 ≤ _)⟩)
  dsimp only [Pt.U, Pt.locs, Pt.cells, Pt.slots] at X61 l61 y61 z61 st61 hQ61
  subst l61 y61 z61
  obtain ⟨ad61, fi61, rfl, N61q, Kq61, Fa62, Fa63, Fa64, Fa65, Fa66, gad_61, gfi_61, nad_61⟩ := hQ61
  have N61 := Fr.app N43 N61q
  have K61 : Keep h0 T61.heap [o0] := K43.trans Kq61 (allS (P := fun x => x ∈ [o0] ∨ h0.size ≤ x) (Or.inl (List.mem_of_getElem? (i := 0) rfl)) all0)
  have Z61 : n0 ≤ T61.heap.size := Nat.le_trans Z43 Kq61.1
  have Fa67 : Exa Z T61.heap o0 "com/example/traceweave/traceweave/pattern/NumberedPattern" := Fa48.keep Kq61
  have Fa68 : PI Z T61.heap o2 .int k ef := Fa54.keep Kq61 (ninS ne_o2_o0 nin0)
  have Fa69 : PI Z T61.heap o3 .int k tf := Fa55.keep Kq61 (ninS ne_o3_o0 nin0)
  have Fa70 : Exa Z T61.heap b1 "java/util/BitSet" := Fa56.keep Kq61
  have Fa71 : Fld Z T61.heap b1 "java/util/BitSet" "wordsInUse" "I" (.int (0 : Int32)) := Fa57.keep Kq61 (ninS (Ne.symm ne_o0_b1) nin0)
  have Fa72 : Fld Z T61.heap b1 "java/util/BitSet" "sizeIsSticky" "Z" (.int (0 : Int32)) := Fa58.keep Kq61 (ninS (Ne.symm ne_o0_b1) nin0)
  have Fa73 : Fld Z T61.heap b1 "java/util/BitSet" "words" "[J" wv13 := Fa59.keep Kq61 (ninS (Ne.symm ne_o0_b1) nin0)
  have Fa74 : Exa Z T61.heap b27 "java/util/BitSet" := Fa44.keep Kq61
  have Fa75 : Fld Z T61.heap b27 "java/util/BitSet" "wordsInUse" "I" (.int (0 : Int32)) := Fa45.keep Kq61 (ninS (Ne.symm ne_o0_b27) nin0)
  have Fa76 : Fld Z T61.heap b27 "java/util/BitSet" "sizeIsSticky" "Z" (.int (0 : Int32)) := Fa46.keep Kq61 (ninS (Ne.symm ne_o0_b27) nin0)
  have Fa77 : Fld Z T61.heap b27 "java/util/BitSet" "words" "[J" wv43 := Fa47.keep Kq61 (ninS (Ne.symm ne_o0_b27) nin0)
  have ne_o0_ad61 : o0 ≠ ad61 := Nat.ne_of_lt (Nat.lt_of_lt_of_le Fa48.lt gad_61)
  have ne_o2_ad61 : o2 ≠ ad61 := Nat.ne_of_lt (Nat.lt_of_lt_of_le Fa54.lt gad_61)
  have ne_o3_ad61 : o3 ≠ ad61 := Nat.ne_of_lt (Nat.lt_of_lt_of_le Fa55.lt gad_61)
  have ne_b1_ad61 : b1 ≠ ad61 := Nat.ne_of_lt (Nat.lt_of_lt_of_le Fa56.lt gad_61)
  have ne_b27_ad61 : b27 ≠ ad61 := Nat.ne_of_lt (Nat.lt_of_lt_of_le Fa44.lt gad_61)
  have g_ad61 : n0 ≤ ad61 := Nat.le_trans Z43 gad_61
  have sz_ad61 : h0.size ≤ ad61 := Nat.le_trans K43.1 gad_61
  have ne_o0_fi61 : o0 ≠ fi61 := Nat.ne_of_lt (Nat.lt_of_lt_of_le Fa48.lt gfi_61)
  have ne_o2_fi61 : o2 ≠ fi61 := Nat.ne_of_lt (Nat.lt_of_lt_of_le Fa54.lt gfi_61)
  have ne_o3_fi61 : o3 ≠ fi61 := Nat.ne_of_lt (Nat.lt_of_lt_of_le Fa55.lt gfi_61)
  have ne_b1_fi61 : b1 ≠ fi61 := Nat.ne_of_lt (Nat.lt_of_lt_of_le Fa56.lt gfi_61)
  have ne_b27_fi61 : b27 ≠ fi61 := Nat.ne_of_lt (Nat.lt_of_lt_of_le Fa44.lt gfi_61)
  have g_fi61 : n0 ≤ fi61 := Nat.le_trans Z43 gfi_61
  have sz_fi61 : h0.size ≤ fi61 := Nat.le_trans K43.1 gfi_61
  refine goT (u' := T61.setTop (mkF m 21 #[.val (.ref o0), .val (.int (3 : Int32)), .val (.ref o2), .val (.ref o3)] [])) st61 ?_
  rw [hG]
  refine g0 X61 hx hlk hret (hb hby d1_21) ?_ (Nat.le_of_ble_eq_true rfl) (Nat.le_of_ble_eq_true rfl)
  show Q_rm1 Z o0 o2 o3 k ef tf h0 n0 (none) T61.heap _
  exact ⟨ad61, fi61, rfl, N61, K61, Fa62, Fa63, Fa64, Fa65, Fa66, sz_ad61, sz_fi61, nad_61⟩
theorem pn_com_example_traceweave_traceweave_pattern_NumberedPattern_Adjacency_isEmpty_17 : plainFor (⟨"com/example/traceweave/traceweave/pattern/NumberedPattern$Adjacency", "isEmpty", "(I)Z"⟩ : MethodName) = true := by first | exact plainFor_of_name (by first | (simp [plainName, overriddenIn]; done) | decide +kernel) | decide +kernel
def Q_rm17 (Z : State) (o0 : Addr) (p1 : Int32) (fi : Addr) (f : Nat → Int32) (h0 : Heap) (n0 : Nat) (v : Option Value) (h : Heap) (L : List Loc) : Prop := v = some (.int (B ((f p1.toNatClampNeg) = (f (p1 + (1 : Int32)).toNatClampNeg)))) ∧ Fr n0 L ∧ h = h0
set_option maxRecDepth 65536 in
set_option maxHeartbeats 4000000 in
theorem ef_rm17 (m : MethodId) (o0 : Addr) (p1 : Int32) : entryFrame m #[(.ref o0), (.int p1)] 2 = mkF m 0 #[.val (.ref o0), .val (.int p1)] [] := by first | (simp [entryFrame, mkF, argsToLocals, Value.category, maxLocals]; done) | rfl
theorem d17_0 : decode prog_43_method_4_code 0 = .ok (.aload_n 0, 1) := by decide +kernel
theorem d17_1 : decode prog_43_method_4_code 1 = .ok (.getfield 7, 3) := by decide +kernel
theorem d17_4 : decode prog_43_method_4_code 4 = .ok (.iload_n 1, 1) := by decide +kernel
theorem d17_5 : decode prog_43_method_4_code 5 = .ok (.iaload, 1) := by decide +kernel
theorem d17_6 : decode prog_43_method_4_code 6 = .ok (.aload_n 0, 1) := by decide +kernel
theorem d17_7 : decode prog_43_method_4_code 7 = .ok (.getfield 7, 3) := by decide +kernel
theorem d17_10 : decode prog_43_method_4_code 10 = .ok (.iload_n 1, 1) := by decide +kernel
theorem d17_11 : decode prog_43_method_4_code 11 = .ok (.iconst 1, 1) := by decide +kernel
theorem d17_12 : decode prog_43_method_4_code 12 = .ok (.iadd, 1) := by decide +kernel
theorem d17_13 : decode prog_43_method_4_code 13 = .ok (.iaload, 1) := by decide +kernel
theorem d17_14 : decode prog_43_method_4_code 14 = .ok (.if_icmp .ne 7, 3) := by decide +kernel
theorem d17_17 : decode prog_43_method_4_code 17 = .ok (.iconst 1, 1) := by decide +kernel
theorem d17_18 : decode prog_43_method_4_code 18 = .ok (.goto 4, 3) := by decide +kernel
theorem d17_21 : decode prog_43_method_4_code 21 = .ok (.iconst 0, 1) := by decide +kernel
theorem d17_22 : decode prog_43_method_4_code 22 = .ok (.ireturn, 1) := by decide +kernel
set_option maxRecDepth 65536 in
set_option maxHeartbeats 40000000 in
theorem rm17 (l : Launch) (Z : State) (a0 : Array Value) (hw : ∀ d ∈ tables_1, d.before a0 Z = true) (ws : List Jvm.Cond) (o0 : Addr) (p1 : Int32) (fi : Addr) (f : Nat → Int32) (h0 : Heap) (n0 : Nat) (Z0 : n0 ≤ h0.size) (F0 : Fld Z h0 o0 "com/example/traceweave/traceweave/pattern/NumberedPattern$Adjacency" "first" "[I" (.ref fi)) (F1 : PI Z h0 fi .int 4 f) (hp : 0 ≤ p1.toInt ∧ p1.toInt < 3) :
    MetFree l (⟨"com/example/traceweave/traceweave/pattern/NumberedPattern$Adjacency", "isEmpty", "(I)Z"⟩ : MethodName) (head1 (Jvm.Cond.code (⟨"com/example/traceweave/traceweave/pattern/NumberedPattern$Adjacency", "isEmpty", "(I)Z"⟩ : MethodName) prog_43_method_4_code 2 (some .boolean) :: ws) ({ frames := 0, cells := 0, slots := 0, locals := 0 } : Room)) (fun a U => a = #[(.ref o0), (.int p1)] ∧ Z.Warmed39 U.vm ∧ U.heap = h0) (fun _ _ _ _ _ => True) (fun _ U o U' => ∃ v L, o = .returned v ∧ Q_rm17 Z o0 p1 fi f h0 n0 v U'.heap L ∧ FrameEnd U o U' L ({ frames := 0, cells := 0, slots := 0, locals := 0 } : Room).cells ({ frames := 0, cells := 0, slots := 0, locals := 0 } : Room).slots) := by
  refine body pn_com_example_traceweave_traceweave_pattern_NumberedPattern_Adjacency_isEmpty_17 ?_
  intro p e s m below meth c s₁ hx hby hml hown hnm hret hlk hZ e0 X0
  replace hml : c.maxLocals = 2 := hml
  replace hown : s.vm.findClass "com/example/traceweave/traceweave/pattern/NumberedPattern$Adjacency" = some m.cls := hown
  replace hnm : meth.name = "isEmpty" := hnm
  replace hret : meth.sig.returnType = (some .boolean) := hret
  have N0 := Fr.nil n0
  rw [ef_rm17]
  obtain ⟨G, hG⟩ : ∃ G, G = End (Q_rm17 Z o0 p1 fi f h0 n0) s ({ frames := 0, cells := 0, slots := 0, locals := 0 } : Room).cells ({ frames := 0, cells := 0, slots := 0, locals := 0 } : Room).slots := ⟨_, rfl⟩
  rw [← hG]
  refine go (u' := s₁.setTop (mkF m 1 #[.val (.ref o0), .val (.int p1)] [(.ref o0)])) (fun _ ks_ => XS.aloadN X0.here hx rfl (hb hby d17_0) rfl rfl ks_) ?_
  obtain ⟨T1, X1, e1, st1⟩ := getF X0 hx hZ hown (host := "") (Or.inl (ww hw 45 rfl)) Via.refl e0 F0 (g := (mkF m 1 #[.val (.ref o0), .val (.int p1)] [(.ref o0)])) rfl rfl (hb hby d17_1)
  refine go (u' := T1.setTop (mkF m 4 #[.val (.ref o0), .val (.int p1)] [(.ref fi)])) st1 ?_
  refine go (u' := T1.setTop (mkF m 5 #[.val (.ref o0), .val (.int p1)] [(.int p1), (.ref fi)])) (fun _ ks_ => XS.iloadN X1.here hx rfl (hb hby d17_4) rfl  ks_) ?_
  refine go (u' := T1.setTop (mkF m 6 #[.val (.ref o0), .val (.int p1)] [(.int (f p1.toNatClampNeg))])) (own_iaload X1 hx hZ e1 F1 (j := p1) (v := (f p1.toNatClampNeg)) (own_nn hp.1) (own_lt hp.1 (by omega)) rfl (f := (mkF m 5 #[.val (.ref o0), .val (.int p1)] [(.int p1), (.ref fi)])) rfl rfl (hb hby d17_5)) ?_
  refine go (u' := T1.setTop (mkF m 7 #[.val (.ref o0), .val (.int p1)] [(.ref o0), (.int (f p1.toNatClampNeg))])) (fun _ ks_ => XS.aloadN X1.here hx rfl (hb hby d17_6) rfl rfl ks_) ?_
  obtain ⟨T2, X2, e2, st2⟩ := getF X1 hx hZ hown (host := "") (Or.inl (ww hw 45 rfl)) Via.refl e1 F0 (g := (mkF m 7 #[.val (.ref o0), .val (.int p1)] [(.ref o0), (.int (f p1.toNatClampNeg))])) rfl rfl (hb hby d17_7)
  refine go (u' := T2.setTop (mkF m 10 #[.val (.ref o0), .val (.int p1)] [(.ref fi), (.int (f p1.toNatClampNeg))])) st2 ?_
  refine go (u' := T2.setTop (mkF m 11 #[.val (.ref o0), .val (.int p1)] [(.int p1), (.ref fi), (.int (f p1.toNatClampNeg))])) (fun _ ks_ => XS.iloadN X2.here hx rfl (hb hby d17_10) rfl  ks_) ?_
  refine go (u' := T2.setTop (mkF m 12 #[.val (.ref o0), .val (.int p1)] [(.int (1 : Int32)), (.int p1), (.ref fi), (.int (f p1.toNatClampNeg))])) (fun _ ks_ => XS.iconst X2.here hx rfl (hb hby d17_11) ks_) ?_
  refine go (u' := T2.setTop (mkF m 13 #[.val (.ref o0), .val (.int p1)] [(.int (p1 + (1 : Int32))), (.ref fi), (.int (f p1.toNatClampNeg))])) (fun _ ks_ => XS.iadd X2.here hx rfl (hb hby d17_12) rfl ks_) ?_
  refine go (u' := T2.setTop (mkF m 14 #[.val (.ref o0), .val (.int p1)] [(.int (f (p1 + (1 : Int32)).toNatClampNeg)), (.int (f p1.toNatClampNeg))])) (own_iaload X2 hx hZ e2 F1 (j := (p1 + (1 : Int32))) (v := (f (p1 + (1 : Int32)).toNatClampNeg)) (own_nn (own_c4 hp).1) (own_lt (own_c4 hp).1 (own_c4 hp).2) rfl (f := (mkF m 13 #[.val (.ref o0), .val (.int p1)] [(.int (p1 + (1 : Int32))), (.ref fi), (.int (f p1.toNatClampNeg))])) rfl rfl (hb hby d17_13)) ?_
  by_cases c14_1 : (f p1.toNatClampNeg) = (f (p1 + (1 : Int32)).toNatClampNeg)
  ·
    refine go (u' := T2.setTop (mkF m 17 #[.val (.ref o0), .val (.int p1)] [])) (fun _ ks_ => XS.icmpNo X2.here hx rfl (hb hby d17_14) rfl (teq c14_1).2 ks_) ?_
    refine go (u' := T2.setTop (mkF m 18 #[.val (.ref o0), .val (.int p1)] [(.int (1 : Int32))])) (fun _ ks_ => XS.iconst X2.here hx rfl (hb hby d17_17) ks_) ?_
    refine go (u' := T2.setTop (mkF m 22 #[.val (.ref o0), .val (.int p1)] [(.int (1 : Int32))])) (fun _ ks_ => XS.goto X2.here hx rfl (pc0 := 18) (pc' := 22) rfl (hb hby d17_18) (by decide) (by decide) ks_) ?_
    rw [hG]
    refine gN X2 hx hlk (t := .boolean) hret (by simp) rfl (hb hby d17_22) ?_ (Nat.le_of_ble_eq_true rfl) (Nat.le_of_ble_eq_true rfl)
    show Q_rm17 Z o0 p1 fi f h0 n0 (some (.int (1 : Int32))) T2.heap _
    rw [e2]
    exact ⟨congrArg (fun z => some (Value.int z)) (B1 c14_1), N0, rfl⟩
  ·
    refine go (u' := T2.setTop (mkF m 21 #[.val (.ref o0), .val (.int p1)] [])) (fun _ ks_ => XS.icmpYes X2.here hx rfl (pc0 := 14) (pc' := 21) rfl (hb hby d17_14) rfl (feq c14_1).2 (by decide) (by decide) ks_) ?_
    refine go (u' := T2.setTop (mkF m 22 #[.val (.ref o0), .val (.int p1)] [(.int (0 : Int32))])) (fun _ ks_ => XS.iconst X2.here hx rfl (hb hby d17_21) ks_) ?_
    rw [hG]
    refine gN X2 hx hlk (t := .boolean) hret (by simp) rfl (hb hby d17_22) ?_ (Nat.le_of_ble_eq_true rfl) (Nat.le_of_ble_eq_true rfl)
    show Q_rm17 Z o0 p1 fi f h0 n0 (some (.int (0 : Int32))) T2.heap _
    rw [e2]
    exact ⟨congrArg (fun z => some (Value.int z)) (B0 c14_1), N0, rfl⟩
theorem own_pos {p : Int32} (h : ¬ p < (0 : Int32)) (h2 : p.toInt < 3) : 0 ≤ p.toInt ∧ p.toInt < 3 := by rw [Int32.lt_iff_toInt_lt] at h; have : (0 : Int32).toInt = 0 := rfl; omega
theorem pd__40_I_41_Z : parseMethodDescriptor "(I)Z" = some ⟨[.int], some .boolean⟩ := by decide +kernel
theorem pn_com_example_traceweave_traceweave_pattern_NumberedPattern_isEntered_15 : plainFor (⟨"com/example/traceweave/traceweave/pattern/NumberedPattern", "isEntered", "(I)Z"⟩ : MethodName) = true := by first | exact plainFor_of_name (by first | (simp [plainName, overriddenIn]; done) | decide +kernel) | decide +kernel
def Q_rm15 (Z : State) (o0 : Addr) (p1 : Int32) (ad : Addr) (fi : Addr) (f : Nat → Int32) (h0 : Heap) (n0 : Nat) (v : Option Value) (h : Heap) (L : List Loc) : Prop := v = some (.int (B ((¬ (p1 < (0 : Int32))) ∧ (¬ (((f p1.toNatClampNeg) = (f (p1 + (1 : Int32)).toNatClampNeg))))))) ∧ Fr n0 L ∧ h = h0
set_option maxRecDepth 65536 in
set_option maxHeartbeats 4000000 in
theorem ef_rm15 (m : MethodId) (o0 : Addr) (p1 : Int32) : entryFrame m #[(.ref o0), (.int p1)] 2 = mkF m 0 #[.val (.ref o0), .val (.int p1)] [] := by first | (simp [entryFrame, mkF, argsToLocals, Value.category, maxLocals]; done) | rfl
theorem d15_0 : decode prog_42_method_8_code 0 = .ok (.iload_n 1, 1) := by decide +kernel
theorem d15_1 : decode prog_42_method_8_code 1 = .ok (.ifCond .lt 18, 3) := by decide +kernel
theorem d15_4 : decode prog_42_method_8_code 4 = .ok (.aload_n 0, 1) := by decide +kernel
theorem d15_5 : decode prog_42_method_8_code 5 = .ok (.getfield 28, 3) := by decide +kernel
theorem d15_8 : decode prog_42_method_8_code 8 = .ok (.iload_n 1, 1) := by decide +kernel
theorem d15_9 : decode prog_42_method_8_code 9 = .ok (.invokevirtual 149, 3) := by decide +kernel
theorem d15_12 : decode prog_42_method_8_code 12 = .ok (.ifCond .ne 7, 3) := by decide +kernel
theorem d15_15 : decode prog_42_method_8_code 15 = .ok (.iconst 1, 1) := by decide +kernel
theorem d15_16 : decode prog_42_method_8_code 16 = .ok (.goto 4, 3) := by decide +kernel
theorem d15_19 : decode prog_42_method_8_code 19 = .ok (.iconst 0, 1) := by decide +kernel
theorem d15_20 : decode prog_42_method_8_code 20 = .ok (.ireturn, 1) := by decide +kernel
set_option maxRecDepth 65536 in
set_option maxHeartbeats 40000000 in
theorem rm15 (l : Launch) (Z : State) (a0 : Array Value) (hw : ∀ d ∈ tables_1, d.before a0 Z = true) (ws : List Jvm.Cond) (o0 : Addr) (p1 : Int32) (ad : Addr) (fi : Addr) (f : Nat → Int32) (h0 : Heap) (n0 : Nat) (Z0 : n0 ≤ h0.size) (F0 : Fld Z h0 o0 "com/example/traceweave/traceweave/pattern/NumberedPattern" "entering" "Lcom/example/traceweave/traceweave/pattern/NumberedPattern$Adjacency;" (.ref ad)) (F1 : Exa Z h0 ad "com/example/traceweave/traceweave/pattern/NumberedPattern$Adjacency") (F2 : Fld Z h0 ad "com/example/traceweave/traceweave/pattern/NumberedPattern$Adjacency" "first" "[I" (.ref fi)) (F3 : PI Z h0 fi .int 4 f) (hp : p1.toInt < 3) :
    MetFree l (⟨"com/example/traceweave/traceweave/pattern/NumberedPattern", "isEntered", "(I)Z"⟩ : MethodName) (head1 (Jvm.Cond.code (⟨"com/example/traceweave/traceweave/pattern/NumberedPattern", "isEntered", "(I)Z"⟩ : MethodName) prog_42_method_8_code 2 (some .boolean) :: ws) ({ frames := 1, cells := 0, slots := 0, locals := 13 } : Room)) (fun a U => a = #[(.ref o0), (.int p1)] ∧ Z.Warmed39 U.vm ∧ U.heap = h0) (fun _ _ _ _ _ => True) (fun _ U o U' => ∃ v L, o = .returned v ∧ Q_rm15 Z o0 p1 ad fi f h0 n0 v U'.heap L ∧ FrameEnd U o U' L ({ frames := 1, cells := 0, slots := 0, locals := 13 } : Room).cells ({ frames := 1, cells := 0, slots := 0, locals := 13 } : Room).slots) := by
  refine body pn_com_example_traceweave_traceweave_pattern_NumberedPattern_isEntered_15 ?_
  intro p e s m below meth c s₁ hx hby hml hown hnm hret hlk hZ e0 X0
  replace hml : c.maxLocals = 2 := hml
  replace hown : s.vm.findClass "com/example/traceweave/traceweave/pattern/NumberedPattern" = some m.cls := hown
  replace hnm : meth.name = "isEntered" := hnm
  replace hret : meth.sig.returnType = (some .boolean) := hret
  have N0 := Fr.nil n0
  rw [ef_rm15]
  obtain ⟨G, hG⟩ : ∃ G, G = End (Q_rm15 Z o0 p1 ad fi f h0 n0) s ({ frames := 1, cells := 0, slots := 0, locals := 13 } : Room).cells ({ frames := 1, cells := 0, slots := 0, locals := 13 } : Room).slots := ⟨_, rfl⟩
  rw [← hG]
  refine go (u' := s₁.setTop (mkF m 1 #[.val (.ref o0), .val (.int p1)] [(.int p1)])) (fun _ ks_ => XS.iloadN X0.here hx rfl (hb hby d15_0) rfl  ks_) ?_
  by_cases c1_1 : p1 < (0 : Int32)
  ·
    refine go (u' := s₁.setTop (mkF m 19 #[.val (.ref o0), .val (.int p1)] [])) (fun _ ks_ => XS.ifYes X0.here hx rfl (pc0 := 1) (pc' := 19) rfl (hb hby d15_1) rfl ((if0 _ _).trans (tlt c1_1).1) (by decide) (by decide) ks_) ?_
    refine go (u' := s₁.setTop (mkF m 20 #[.val (.ref o0), .val (.int p1)] [(.int (0 : Int32))])) (fun _ ks_ => XS.iconst X0.here hx rfl (hb hby d15_19) ks_) ?_
    rw [hG]
    refine gN X0 hx hlk (t := .boolean) hret (by simp) rfl (hb hby d15_20) ?_ (Nat.le_of_ble_eq_true rfl) (Nat.le_of_ble_eq_true rfl)
    show Q_rm15 Z o0 p1 ad fi f h0 n0 (some (.int (0 : Int32))) s₁.heap _
    rw [e0]
    exact ⟨congrArg (fun z => some (Value.int z)) (B0 (fun q => (fun q => q c1_1) q.1)), N0, rfl⟩
  ·
    refine go (u' := s₁.setTop (mkF m 4 #[.val (.ref o0), .val (.int p1)] [])) (fun _ ks_ => XS.ifNo X0.here hx rfl (hb hby d15_1) rfl ((if0 _ _).trans (flt c1_1).1) ks_) ?_
    refine go (u' := s₁.setTop (mkF m 5 #[.val (.ref o0), .val (.int p1)] [(.ref o0)])) (fun _ ks_ => XS.aloadN X0.here hx rfl (hb hby d15_4) rfl rfl ks_) ?_
    obtain ⟨T1, X1, e1, st1⟩ := getF X0 hx hZ hown (host := "") (Or.inl (ww hw 79 rfl)) Via.refl e0 F0 (g := (mkF m 5 #[.val (.ref o0), .val (.int p1)] [(.ref o0)])) rfl rfl (hb hby d15_5)
    refine go (u' := T1.setTop (mkF m 8 #[.val (.ref o0), .val (.int p1)] [(.ref ad)])) st1 ?_
    refine go (u' := T1.setTop (mkF m 9 #[.val (.ref o0), .val (.int p1)] [(.int p1), (.ref ad)])) (fun _ ks_ => XS.iloadN X1.here hx rfl (hb hby d15_8) rfl  ks_) ?_
    obtain ⟨cq2, kq2, q2a, q2b, q2c⟩ := isOf hZ e1 F1
    obtain ⟨_, _, ⟨T2, L2, k2, n2⟩, -, X2, ⟨Lc2, hQ2, l2, y2, z2⟩, st2⟩ := X1.virtualBack hx (y := (⟨"com/example/traceweave/traceweave/pattern/NumberedPattern$Adjacency", "isEmpty", "(I)Z"⟩ : MethodName)) (z := (⟨"com/example/traceweave/traceweave/pattern/NumberedPattern$Adjacency", "isEmpty", "(I)Z"⟩ : MethodName)) hown (mvT hZ (ww hw 94 rfl)) (mvT hZ (ww hw 95 rfl)) (notFace_of_selects (args := #[]) (mvT hZ (ww hw 97 rfl))) (mvT hZ (ww hw 97 rfl)) (mvT hZ (ww hw 96 rfl)) (by decide) (backOf (W := 0) (rm17 l Z a0 hw [] ad p1 fi f h0 n0 Z0 F2 F3 (own_pos c1_1 hp)) hZ (ww hw 98 rfl) (ww hw 40 rfl) (by decide) (by decide)) q2a q2c (g := (mkF m 9 #[.val (.ref o0), .val (.int p1)] [(.int p1), (.ref ad)])) rfl (by rw [hml]; rfl) (Steps.refl _) (argsL := [(.int p1)]) (rest := []) (lenOf pd__40_I_41_Z rfl) rfl (by show 2 * 0 + _ ≤ _; exact Nat.le_of_eq rfl) (hb hby d15_9) (fun _ _ => ⟨rfl, e1, (by decide : 0 + 0 ≤ _), (by decide : 0 + 0 ≤ _)⟩)
    dsimp only [Pt.U, Pt.locs, Pt.cells, Pt.slots] at X2 l2 y2 z2 st2 hQ2
    subst l2 y2 z2
    obtain ⟨rfl, N2q, eq2⟩ := hQ2
    have N2 := Fr.app N0 N2q
    refine goT (u' := T2.setTop (mkF m 12 #[.val (.ref o0), .val (.int p1)] [(.int (B ((f p1.toNatClampNeg) = (f (p1 + (1 : Int32)).toNatClampNeg))))])) st2 ?_
    by_cases c12_2 : ((f p1.toNatClampNeg) = (f (p1 + (1 : Int32)).toNatClampNeg))
    ·
      refine go (u' := T2.setTop (mkF m 19 #[.val (.ref o0), .val (.int p1)] [])) (fun _ ks_ => XS.ifYes X2.here hx rfl (pc0 := 12) (pc' := 19) rfl (hb hby d15_12) rfl (bT c12_2).1 (by decide) (by decide) ks_) ?_
      refine go (u' := T2.setTop (mkF m 20 #[.val (.ref o0), .val (.int p1)] [(.int (0 : Int32))])) (fun _ ks_ => XS.iconst X2.here hx rfl (hb hby d15_19) ks_) ?_
      rw [hG]
      refine gN X2 hx hlk (t := .boolean) hret (by simp) rfl (hb hby d15_20) ?_ (Nat.le_of_ble_eq_true rfl) (Nat.le_of_ble_eq_true rfl)
      show Q_rm15 Z o0 p1 ad fi f h0 n0 (some (.int (0 : Int32))) T2.heap _
      rw [eq2]
      exact ⟨congrArg (fun z => some (Value.int z)) (B0 (fun q => (fun q => q c12_2) q.2)), N2, rfl⟩
    ·
      refine go (u' := T2.setTop (mkF m 15 #[.val (.ref o0), .val (.int p1)] [])) (fun _ ks_ => XS.ifNo X2.here hx rfl (hb hby d15_12) rfl (bF c12_2).1 ks_) ?_
      refine go (u' := T2.setTop (mkF m 16 #[.val (.ref o0), .val (.int p1)] [(.int (1 : Int32))])) (fun _ ks_ => XS.iconst X2.here hx rfl (hb hby d15_15) ks_) ?_
      refine go (u' := T2.setTop (mkF m 20 #[.val (.ref o0), .val (.int p1)] [(.int (1 : Int32))])) (fun _ ks_ => XS.goto X2.here hx rfl (pc0 := 16) (pc' := 20) rfl (hb hby d15_16) (by decide) (by decide) ks_) ?_
      rw [hG]
      refine gN X2 hx hlk (t := .boolean) hret (by simp) rfl (hb hby d15_20) ?_ (Nat.le_of_ble_eq_true rfl) (Nat.le_of_ble_eq_true rfl)
      show Q_rm15 Z o0 p1 ad fi f h0 n0 (some (.int (1 : Int32))) T2.heap _
      rw [eq2]
      exact ⟨congrArg (fun z => some (Value.int z)) (B1 ⟨c1_1, c12_2⟩), N2, rfl⟩
theorem pn_com_example_traceweave_traceweave_pattern_NumberedPatternIsEnteredPinLaw_same_16 : plainFor (⟨"com/example/traceweave/traceweave/pattern/NumberedPatternIsEnteredPinLaw", "same", "(IIII)Z"⟩ : MethodName) = true := by first | exact plainFor_of_name (by first | (simp [plainName, overriddenIn]; done) | decide +kernel) | decide +kernel
def Q_rm16 (Z : State) (p0 : Int32) (p1 : Int32) (p2 : Int32) (p3 : Int32) (h0 : Heap) (n0 : Nat) (v : Option Value) (h : Heap) (L : List Loc) : Prop := v = some (.int (B ((p0 = p2) ∧ (p1 = p3)))) ∧ Fr n0 L ∧ h = h0
set_option maxRecDepth 65536 in
set_option maxHeartbeats 4000000 in
theorem ef_rm16 (m : MethodId) (p0 : Int32) (p1 : Int32) (p2 : Int32) (p3 : Int32) : entryFrame m #[(.int p0), (.int p1), (.int p2), (.int p3)] 4 = mkF m 0 #[.val (.int p0), .val (.int p1), .val (.int p2), .val (.int p3)] [] := by first | (simp [entryFrame, mkF, argsToLocals, Value.category, maxLocals]; done) | rfl
theorem d16_0 : decode method_2_code 0 = .ok (.iload_n 0, 1) := by decide +kernel
theorem d16_1 : decode method_2_code 1 = .ok (.iload_n 2, 1) := by decide +kernel
theorem d16_2 : decode method_2_code 2 = .ok (.if_icmp .ne 12, 3) := by decide +kernel
theorem d16_5 : decode method_2_code 5 = .ok (.iload_n 1, 1) := by decide +kernel
theorem d16_6 : decode method_2_code 6 = .ok (.iload_n 3, 1) := by decide +kernel
theorem d16_7 : decode method_2_code 7 = .ok (.if_icmp .ne 7, 3) := by decide +kernel
theorem d16_10 : decode method_2_code 10 = .ok (.iconst 1, 1) := by decide +kernel
theorem d16_11 : decode method_2_code 11 = .ok (.goto 4, 3) := by decide +kernel
theorem d16_14 : decode method_2_code 14 = .ok (.iconst 0, 1) := by decide +kernel
theorem d16_15 : decode method_2_code 15 = .ok (.ireturn, 1) := by decide +kernel
set_option maxRecDepth 65536 in
set_option maxHeartbeats 40000000 in
theorem rm16 (l : Launch) (Z : State) (a0 : Array Value) (hw : ∀ d ∈ tables_1, d.before a0 Z = true) (ws : List Jvm.Cond) (p0 : Int32) (p1 : Int32) (p2 : Int32) (p3 : Int32) (h0 : Heap) (n0 : Nat) (Z0 : n0 ≤ h0.size)  :
    MetFree l (⟨"com/example/traceweave/traceweave/pattern/NumberedPatternIsEnteredPinLaw", "same", "(IIII)Z"⟩ : MethodName) (head1 (Jvm.Cond.code (⟨"com/example/traceweave/traceweave/pattern/NumberedPatternIsEnteredPinLaw", "same", "(IIII)Z"⟩ : MethodName) method_2_code 4 (some .boolean) :: ws) ({ frames := 0, cells := 0, slots := 0, locals := 0 } : Room)) (fun a U => a = #[(.int p0), (.int p1), (.int p2), (.int p3)] ∧ Z.Warmed39 U.vm ∧ U.heap = h0) (fun _ _ _ _ _ => True) (fun _ U o U' => ∃ v L, o = .returned v ∧ Q_rm16 Z p0 p1 p2 p3 h0 n0 v U'.heap L ∧ FrameEnd U o U' L ({ frames := 0, cells := 0, slots := 0, locals := 0 } : Room).cells ({ frames := 0, cells := 0, slots := 0, locals := 0 } : Room).slots) := by
  refine body pn_com_example_traceweave_traceweave_pattern_NumberedPatternIsEnteredPinLaw_same_16 ?_
  intro p e s m below meth c s₁ hx hby hml hown hnm hret hlk hZ e0 X0
  replace hml : c.maxLocals = 4 := hml
  replace hown : s.vm.findClass "com/example/traceweave/traceweave/pattern/NumberedPatternIsEnteredPinLaw" = some m.cls := hown
  replace hnm : meth.name = "same" := hnm
  replace hret : meth.sig.returnType = (some .boolean) := hret
  have N0 := Fr.nil n0
  rw [ef_rm16]
  obtain ⟨G, hG⟩ : ∃ G, G = End (Q_rm16 Z p0 p1 p2 p3 h0 n0) s ({ frames := 0, cells := 0, slots := 0, locals := 0 } : Room).cells ({ frames := 0, cells := 0, slots := 0, locals := 0 } : Room).slots := ⟨_, rfl⟩
  rw [← hG]
  refine go (u' := s₁.setTop (mkF m 1 #[.val (.int p0), .val (.int p1), .val (.int p2), .val (.int p3)] [(.int p0)])) (fun _ ks_ => XS.iloadN X0.here hx rfl (hb hby d16_0) rfl  ks_) ?_
  refine go (u' := s₁.setTop (mkF m 2 #[.val (.int p0), .val (.int p1), .val (.int p2), .val (.int p3)] [(.int p2), (.int p0)])) (fun _ ks_ => XS.iloadN X0.here hx rfl (hb hby d16_1) rfl  ks_) ?_
  by_cases c2_1 : p0 = p2
  ·
    refine go (u' := s₁.setTop (mkF m 5 #[.val (.int p0), .val (.int p1), .val (.int p2), .val (.int p3)] [])) (fun _ ks_ => XS.icmpNo X0.here hx rfl (hb hby d16_2) rfl (teq c2_1).2 ks_) ?_
    refine go (u' := s₁.setTop (mkF m 6 #[.val (.int p0), .val (.int p1), .val (.int p2), .val (.int p3)] [(.int p1)])) (fun _ ks_ => XS.iloadN X0.here hx rfl (hb hby d16_5) rfl  ks_) ?_
    refine go (u' := s₁.setTop (mkF m 7 #[.val (.int p0), .val (.int p1), .val (.int p2), .val (.int p3)] [(.int p3), (.int p1)])) (fun _ ks_ => XS.iloadN X0.here hx rfl (hb hby d16_6) rfl  ks_) ?_
    by_cases c7_2 : p1 = p3
    ·
      refine go (u' := s₁.setTop (mkF m 10 #[.val (.int p0), .val (.int p1), .val (.int p2), .val (.int p3)] [])) (fun _ ks_ => XS.icmpNo X0.here hx rfl (hb hby d16_7) rfl (teq c7_2).2 ks_) ?_
      refine go (u' := s₁.setTop (mkF m 11 #[.val (.int p0), .val (.int p1), .val (.int p2), .val (.int p3)] [(.int (1 : Int32))])) (fun _ ks_ => XS.iconst X0.here hx rfl (hb hby d16_10) ks_) ?_
      refine go (u' := s₁.setTop (mkF m 15 #[.val (.int p0), .val (.int p1), .val (.int p2), .val (.int p3)] [(.int (1 : Int32))])) (fun _ ks_ => XS.goto X0.here hx rfl (pc0 := 11) (pc' := 15) rfl (hb hby d16_11) (by decide) (by decide) ks_) ?_
      rw [hG]
      refine gN X0 hx hlk (t := .boolean) hret (by simp) rfl (hb hby d16_15) ?_ (Nat.le_of_ble_eq_true rfl) (Nat.le_of_ble_eq_true rfl)
      show Q_rm16 Z p0 p1 p2 p3 h0 n0 (some (.int (1 : Int32))) s₁.heap _
      rw [e0]
      exact ⟨congrArg (fun z => some (Value.int z)) (B1 ⟨c2_1, c7_2⟩), N0, rfl⟩
    ·
      refine go (u' := s₁.setTop (mkF m 14 #[.val (.int p0), .val (.int p1), .val (.int p2), .val (.int p3)] [])) (fun _ ks_ => XS.icmpYes X0.here hx rfl (pc0 := 7) (pc' := 14) rfl (hb hby d16_7) rfl (feq c7_2).2 (by decide) (by decide) ks_) ?_
      refine go (u' := s₁.setTop (mkF m 15 #[.val (.int p0), .val (.int p1), .val (.int p2), .val (.int p3)] [(.int (0 : Int32))])) (fun _ ks_ => XS.iconst X0.here hx rfl (hb hby d16_14) ks_) ?_
      rw [hG]
      refine gN X0 hx hlk (t := .boolean) hret (by simp) rfl (hb hby d16_15) ?_ (Nat.le_of_ble_eq_true rfl) (Nat.le_of_ble_eq_true rfl)
      show Q_rm16 Z p0 p1 p2 p3 h0 n0 (some (.int (0 : Int32))) s₁.heap _
      rw [e0]
      exact ⟨congrArg (fun z => some (Value.int z)) (B0 (fun q => c7_2 q.2)), N0, rfl⟩
  ·
    refine go (u' := s₁.setTop (mkF m 14 #[.val (.int p0), .val (.int p1), .val (.int p2), .val (.int p3)] [])) (fun _ ks_ => XS.icmpYes X0.here hx rfl (pc0 := 2) (pc' := 14) rfl (hb hby d16_2) rfl (feq c2_1).2 (by decide) (by decide) ks_) ?_
    refine go (u' := s₁.setTop (mkF m 15 #[.val (.int p0), .val (.int p1), .val (.int p2), .val (.int p3)] [(.int (0 : Int32))])) (fun _ ks_ => XS.iconst X0.here hx rfl (hb hby d16_14) ks_) ?_
    rw [hG]
    refine gN X0 hx hlk (t := .boolean) hret (by simp) rfl (hb hby d16_15) ?_ (Nat.le_of_ble_eq_true rfl) (Nat.le_of_ble_eq_true rfl)
    show Q_rm16 Z p0 p1 p2 p3 h0 n0 (some (.int (0 : Int32))) s₁.heap _
    rw [e0]
    exact ⟨congrArg (fun z => some (Value.int z)) (B0 (fun q => c2_1 q.1)), N0, rfl⟩
theorem own_m3 (x f : Int32) (h : f = ((x &&& (255 : Int32)) % (3 : Int32))) : 0 ≤ f.toInt ∧ f.toInt < 3 := by
  have b1 := c_mask x 255 8 (by decide) (by decide)
  have b2 := (c_irem (x &&& (255 : Int32)) 3 3 rfl).1 (by omega)
  rw [h, b2]; omega
theorem own_ac (x a : Int32) (h : a = (((x &&& (2147483647 : Int32)) % (5 : Int32)) - (2 : Int32))) : -2 ≤ a.toInt ∧ a.toInt < 3 := by
  have b1 := c_mask x 2147483647 31 (by decide) (by decide)
  have b2 := (c_irem (x &&& (2147483647 : Int32)) 5 5 rfl).1 (by omega)
  have b3 := c_isub ((x &&& (2147483647 : Int32)) % (5 : Int32)) 2
  have b4 := rng32 (((x &&& (2147483647 : Int32)) % (5 : Int32)) - 2)
  have b5 : (2 : Int32).toInt = 2 := rfl
  rw [b5] at b3
  rw [h]; omega
theorem own_hl0 (k : Int) : ∀ i, i < 0 → 0 ≤ ((own_l []) i).toInt ∧ ((own_l []) i).toInt < k := fun i h => absurd h (by omega)
theorem own_hl1 {a : Int32} (ha : 0 ≤ a.toInt ∧ a.toInt < 3) : ∀ i, i < 1 → 0 ≤ ((own_l [a]) i).toInt ∧ ((own_l [a]) i).toInt < 3
  | 0, _ => ha
  | n + 1, h => absurd h (by omega)
theorem own_hl2 {a b : Int32} (ha : 0 ≤ a.toInt ∧ a.toInt < 3) (hb : 0 ≤ b.toInt ∧ b.toInt < 3) : ∀ i, i < 2 → 0 ≤ ((own_l [a, b]) i).toInt ∧ ((own_l [a, b]) i).toInt < 3
  | 0, _ => ha
  | 1, _ => hb
  | n + 2, h => absurd h (by omega)
theorem own_hl3 {a b c : Int32} (ha : 0 ≤ a.toInt ∧ a.toInt < 3) (hb : 0 ≤ b.toInt ∧ b.toInt < 3) (hc : 0 ≤ c.toInt ∧ c.toInt < 3) : ∀ i, i < 3 → 0 ≤ ((own_l [a, b, c]) i).toInt ∧ ((own_l [a, b, c]) i).toInt < 3
  | 0, _ => ha
  | 1, _ => hb
  | 2, _ => hc
  | n + 3, h => absurd h (by omega)
theorem own_cc3 (p c : Int32) (h : c = (p &&& (3 : Int32))) (q0 : ¬ c = (0 : Int32)) (q1 : ¬ c = (1 : Int32)) (q2 : ¬ c = (2 : Int32)) : c = 3 := by
  have b1 := c_mask p 3 2 (by decide) (by decide)
  have r0 : c.toInt ≠ 0 := fun e => q0 (Int32.toInt_inj.mp e)
  have r1 : c.toInt ≠ 1 := fun e => q1 (Int32.toInt_inj.mp e)
  have r2 : c.toInt ≠ 2 := fun e => q2 (Int32.toInt_inj.mp e)
  apply Int32.toInt_inj.mp
  show c.toInt = 3
  rw [← h] at b1
  omega
theorem own_z5 (ac : Int32) (h : -2 ≤ ac.toInt ∧ ac.toInt < 3) : ∃ z : Fin 5, ac = Int32.ofInt ((z.val : Int) - 2) := by
  refine ⟨⟨(ac.toInt + 2).toNat, by omega⟩, ?_⟩
  apply Int32.toInt_inj.mp
  rw [Int32.toInt_ofInt_of_le (by show _ ≤ (((ac.toInt + 2).toNat : Nat) : Int) - 2; omega) (by show (((ac.toInt + 2).toNat : Nat) : Int) - 2 < _; omega)]
  show ac.toInt = (((ac.toInt + 2).toNat : Nat) : Int) - 2
  omega
set_option maxRecDepth 100000 in
theorem own_df0 : ∀ z : Fin 5, (((¬ ((Int32.ofInt ((z.val : Int) - 2)) < (0 : Int32))) ∧ (¬ ((((ps2 (cn1 (own_l []) 0) 3) (Int32.ofInt ((z.val : Int) - 2)).toNatClampNeg) = ((ps2 (cn1 (own_l []) 0) 3) ((Int32.ofInt ((z.val : Int) - 2)) + (1 : Int32)).toNatClampNeg))))) ↔ ((¬ ((Int32.ofInt ((z.val : Int) - 2)) < (0 : Int32))) ∧ ((((0 : Int32) < (1 : Int32)) ∧ ((((0 : Int32) < (2 : Int32)) ∧ ((¬ ((0 : Int32) < (3 : Int32))) ∧ ((0 : Int32) = (Int32.ofInt ((z.val : Int) - 2))))) ∨ ((¬ ((0 : Int32) < (2 : Int32))) ∧ (((0 : Int32) = (Int32.ofInt ((z.val : Int) - 2))) ∨ ((¬ ((0 : Int32) < (3 : Int32))) ∧ ((0 : Int32) = (Int32.ofInt ((z.val : Int) - 2)))))))) ∨ ((¬ ((0 : Int32) < (1 : Int32))) ∧ (((0 : Int32) = (Int32.ofInt ((z.val : Int) - 2))) ∨ ((((0 : Int32) < (2 : Int32)) ∧ ((¬ ((0 : Int32) < (3 : Int32))) ∧ ((0 : Int32) = (Int32.ofInt ((z.val : Int) - 2))))) ∨ ((¬ ((0 : Int32) < (2 : Int32))) ∧ (((0 : Int32) = (Int32.ofInt ((z.val : Int) - 2))) ∨ ((¬ ((0 : Int32) < (3 : Int32))) ∧ ((0 : Int32) = (Int32.ofInt ((z.val : Int) - 2)))))))))))) := by decide +kernel
theorem own_tt0 (ac t0 t1 t2 : Int32) : (((¬ (ac < (0 : Int32))) ∧ ((((0 : Int32) < (1 : Int32)) ∧ ((((0 : Int32) < (2 : Int32)) ∧ ((¬ ((0 : Int32) < (3 : Int32))) ∧ (t2 = ac))) ∨ ((¬ ((0 : Int32) < (2 : Int32))) ∧ ((t1 = ac) ∨ ((¬ ((0 : Int32) < (3 : Int32))) ∧ (t2 = ac)))))) ∨ ((¬ ((0 : Int32) < (1 : Int32))) ∧ ((t0 = ac) ∨ ((((0 : Int32) < (2 : Int32)) ∧ ((¬ ((0 : Int32) < (3 : Int32))) ∧ (t2 = ac))) ∨ ((¬ ((0 : Int32) < (2 : Int32))) ∧ ((t1 = ac) ∨ ((¬ ((0 : Int32) < (3 : Int32))) ∧ (t2 = ac)))))))))) ↔ (((¬ (ac < (0 : Int32))) ∧ ((((0 : Int32) < (1 : Int32)) ∧ ((((0 : Int32) < (2 : Int32)) ∧ ((¬ ((0 : Int32) < (3 : Int32))) ∧ ((0 : Int32) = ac))) ∨ ((¬ ((0 : Int32) < (2 : Int32))) ∧ (((0 : Int32) = ac) ∨ ((¬ ((0 : Int32) < (3 : Int32))) ∧ ((0 : Int32) = ac)))))) ∨ ((¬ ((0 : Int32) < (1 : Int32))) ∧ (((0 : Int32) = ac) ∨ ((((0 : Int32) < (2 : Int32)) ∧ ((¬ ((0 : Int32) < (3 : Int32))) ∧ ((0 : Int32) = ac))) ∨ ((¬ ((0 : Int32) < (2 : Int32))) ∧ (((0 : Int32) = ac) ∨ ((¬ ((0 : Int32) < (3 : Int32))) ∧ ((0 : Int32) = ac)))))))))) := by
  simp
theorem own_fin0 (cc ac f0 t0 f1 t1 f2 t2 : Int32) (hc : cc = (0 : Int32)) (ha : -2 ≤ ac.toInt ∧ ac.toInt < 3) : ((¬ (ac < (0 : Int32))) ∧ (¬ ((((ps2 (cn1 (own_l []) 0) 3) ac.toNatClampNeg) = ((ps2 (cn1 (own_l []) 0) 3) (ac + (1 : Int32)).toNatClampNeg))))) ↔ ((¬ (ac < (0 : Int32))) ∧ (((cc < (1 : Int32)) ∧ (((cc < (2 : Int32)) ∧ ((¬ (cc < (3 : Int32))) ∧ (t2 = ac))) ∨ ((¬ (cc < (2 : Int32))) ∧ ((t1 = ac) ∨ ((¬ (cc < (3 : Int32))) ∧ (t2 = ac)))))) ∨ ((¬ (cc < (1 : Int32))) ∧ ((t0 = ac) ∨ (((cc < (2 : Int32)) ∧ ((¬ (cc < (3 : Int32))) ∧ (t2 = ac))) ∨ ((¬ (cc < (2 : Int32))) ∧ ((t1 = ac) ∨ ((¬ (cc < (3 : Int32))) ∧ (t2 = ac))))))))) := by
  subst hc
  obtain ⟨z, rfl⟩ : ∃ z : Fin 5, ac = Int32.ofInt ((z.val : Int) - 2) := own_z5 ac ha
  rw [own_tt0]
  exact own_df0 z 
set_option maxRecDepth 100000 in
theorem own_df1 : ∀ z : Fin 5, ∀ a : Fin 3, (((¬ ((Int32.ofInt ((z.val : Int) - 2)) < (0 : Int32))) ∧ (¬ ((((ps2 (cn1 (own_l [(Int32.ofNat a.val)]) 1) 3) (Int32.ofInt ((z.val : Int) - 2)).toNatClampNeg) = ((ps2 (cn1 (own_l [(Int32.ofNat a.val)]) 1) 3) ((Int32.ofInt ((z.val : Int) - 2)) + (1 : Int32)).toNatClampNeg))))) ↔ ((¬ ((Int32.ofInt ((z.val : Int) - 2)) < (0 : Int32))) ∧ ((((1 : Int32) < (1 : Int32)) ∧ ((((1 : Int32) < (2 : Int32)) ∧ ((¬ ((1 : Int32) < (3 : Int32))) ∧ ((0 : Int32) = (Int32.ofInt ((z.val : Int) - 2))))) ∨ ((¬ ((1 : Int32) < (2 : Int32))) ∧ (((0 : Int32) = (Int32.ofInt ((z.val : Int) - 2))) ∨ ((¬ ((1 : Int32) < (3 : Int32))) ∧ ((0 : Int32) = (Int32.ofInt ((z.val : Int) - 2)))))))) ∨ ((¬ ((1 : Int32) < (1 : Int32))) ∧ (((Int32.ofNat a.val) = (Int32.ofInt ((z.val : Int) - 2))) ∨ ((((1 : Int32) < (2 : Int32)) ∧ ((¬ ((1 : Int32) < (3 : Int32))) ∧ ((0 : Int32) = (Int32.ofInt ((z.val : Int) - 2))))) ∨ ((¬ ((1 : Int32) < (2 : Int32))) ∧ (((0 : Int32) = (Int32.ofInt ((z.val : Int) - 2))) ∨ ((¬ ((1 : Int32) < (3 : Int32))) ∧ ((0 : Int32) = (Int32.ofInt ((z.val : Int) - 2)))))))))))) := by decide +kernel
theorem own_tt1 (ac t0 t1 t2 : Int32) : (((¬ (ac < (0 : Int32))) ∧ ((((1 : Int32) < (1 : Int32)) ∧ ((((1 : Int32) < (2 : Int32)) ∧ ((¬ ((1 : Int32) < (3 : Int32))) ∧ (t2 = ac))) ∨ ((¬ ((1 : Int32) < (2 : Int32))) ∧ ((t1 = ac) ∨ ((¬ ((1 : Int32) < (3 : Int32))) ∧ (t2 = ac)))))) ∨ ((¬ ((1 : Int32) < (1 : Int32))) ∧ ((t0 = ac) ∨ ((((1 : Int32) < (2 : Int32)) ∧ ((¬ ((1 : Int32) < (3 : Int32))) ∧ (t2 = ac))) ∨ ((¬ ((1 : Int32) < (2 : Int32))) ∧ ((t1 = ac) ∨ ((¬ ((1 : Int32) < (3 : Int32))) ∧ (t2 = ac)))))))))) ↔ (((¬ (ac < (0 : Int32))) ∧ ((((1 : Int32) < (1 : Int32)) ∧ ((((1 : Int32) < (2 : Int32)) ∧ ((¬ ((1 : Int32) < (3 : Int32))) ∧ ((0 : Int32) = ac))) ∨ ((¬ ((1 : Int32) < (2 : Int32))) ∧ (((0 : Int32) = ac) ∨ ((¬ ((1 : Int32) < (3 : Int32))) ∧ ((0 : Int32) = ac)))))) ∨ ((¬ ((1 : Int32) < (1 : Int32))) ∧ ((t0 = ac) ∨ ((((1 : Int32) < (2 : Int32)) ∧ ((¬ ((1 : Int32) < (3 : Int32))) ∧ ((0 : Int32) = ac))) ∨ ((¬ ((1 : Int32) < (2 : Int32))) ∧ (((0 : Int32) = ac) ∨ ((¬ ((1 : Int32) < (3 : Int32))) ∧ ((0 : Int32) = ac)))))))))) := by
  simp
theorem own_fin1 (cc ac f0 t0 f1 t1 f2 t2 : Int32) (hc : cc = (1 : Int32)) (ha : -2 ≤ ac.toInt ∧ ac.toInt < 3) (ht0 : 0 ≤ t0.toInt ∧ t0.toInt < 3) : ((¬ (ac < (0 : Int32))) ∧ (¬ ((((ps2 (cn1 (own_l [t0]) 1) 3) ac.toNatClampNeg) = ((ps2 (cn1 (own_l [t0]) 1) 3) (ac + (1 : Int32)).toNatClampNeg))))) ↔ ((¬ (ac < (0 : Int32))) ∧ (((cc < (1 : Int32)) ∧ (((cc < (2 : Int32)) ∧ ((¬ (cc < (3 : Int32))) ∧ (t2 = ac))) ∨ ((¬ (cc < (2 : Int32))) ∧ ((t1 = ac) ∨ ((¬ (cc < (3 : Int32))) ∧ (t2 = ac)))))) ∨ ((¬ (cc < (1 : Int32))) ∧ ((t0 = ac) ∨ (((cc < (2 : Int32)) ∧ ((¬ (cc < (3 : Int32))) ∧ (t2 = ac))) ∨ ((¬ (cc < (2 : Int32))) ∧ ((t1 = ac) ∨ ((¬ (cc < (3 : Int32))) ∧ (t2 = ac))))))))) := by
  subst hc
  obtain ⟨z, rfl⟩ : ∃ z : Fin 5, ac = Int32.ofInt ((z.val : Int) - 2) := own_z5 ac ha
  obtain ⟨a, rfl⟩ := own_of (n := 3) (k := t0) ht0 (by decide)
  rw [own_tt1]
  exact own_df1 z a
set_option maxRecDepth 100000 in
theorem own_df2 : ∀ z : Fin 5, ∀ a : Fin 3, ∀ b : Fin 3, (((¬ ((Int32.ofInt ((z.val : Int) - 2)) < (0 : Int32))) ∧ (¬ ((((ps2 (cn1 (own_l [(Int32.ofNat a.val), (Int32.ofNat b.val)]) 2) 3) (Int32.ofInt ((z.val : Int) - 2)).toNatClampNeg) = ((ps2 (cn1 (own_l [(Int32.ofNat a.val), (Int32.ofNat b.val)]) 2) 3) ((Int32.ofInt ((z.val : Int) - 2)) + (1 : Int32)).toNatClampNeg))))) ↔ ((¬ ((Int32.ofInt ((z.val : Int) - 2)) < (0 : Int32))) ∧ ((((2 : Int32) < (1 : Int32)) ∧ ((((2 : Int32) < (2 : Int32)) ∧ ((¬ ((2 : Int32) < (3 : Int32))) ∧ ((0 : Int32) = (Int32.ofInt ((z.val : Int) - 2))))) ∨ ((¬ ((2 : Int32) < (2 : Int32))) ∧ (((Int32.ofNat b.val) = (Int32.ofInt ((z.val : Int) - 2))) ∨ ((¬ ((2 : Int32) < (3 : Int32))) ∧ ((0 : Int32) = (Int32.ofInt ((z.val : Int) - 2)))))))) ∨ ((¬ ((2 : Int32) < (1 : Int32))) ∧ (((Int32.ofNat a.val) = (Int32.ofInt ((z.val : Int) - 2))) ∨ ((((2 : Int32) < (2 : Int32)) ∧ ((¬ ((2 : Int32) < (3 : Int32))) ∧ ((0 : Int32) = (Int32.ofInt ((z.val : Int) - 2))))) ∨ ((¬ ((2 : Int32) < (2 : Int32))) ∧ (((Int32.ofNat b.val) = (Int32.ofInt ((z.val : Int) - 2))) ∨ ((¬ ((2 : Int32) < (3 : Int32))) ∧ ((0 : Int32) = (Int32.ofInt ((z.val : Int) - 2)))))))))))) := by decide +kernel
theorem own_tt2 (ac t0 t1 t2 : Int32) : (((¬ (ac < (0 : Int32))) ∧ ((((2 : Int32) < (1 : Int32)) ∧ ((((2 : Int32) < (2 : Int32)) ∧ ((¬ ((2 : Int32) < (3 : Int32))) ∧ (t2 = ac))) ∨ ((¬ ((2 : Int32) < (2 : Int32))) ∧ ((t1 = ac) ∨ ((¬ ((2 : Int32) < (3 : Int32))) ∧ (t2 = ac)))))) ∨ ((¬ ((2 : Int32) < (1 : Int32))) ∧ ((t0 = ac) ∨ ((((2 : Int32) < (2 : Int32)) ∧ ((¬ ((2 : Int32) < (3 : Int32))) ∧ (t2 = ac))) ∨ ((¬ ((2 : Int32) < (2 : Int32))) ∧ ((t1 = ac) ∨ ((¬ ((2 : Int32) < (3 : Int32))) ∧ (t2 = ac)))))))))) ↔ (((¬ (ac < (0 : Int32))) ∧ ((((2 : Int32) < (1 : Int32)) ∧ ((((2 : Int32) < (2 : Int32)) ∧ ((¬ ((2 : Int32) < (3 : Int32))) ∧ ((0 : Int32) = ac))) ∨ ((¬ ((2 : Int32) < (2 : Int32))) ∧ ((t1 = ac) ∨ ((¬ ((2 : Int32) < (3 : Int32))) ∧ ((0 : Int32) = ac)))))) ∨ ((¬ ((2 : Int32) < (1 : Int32))) ∧ ((t0 = ac) ∨ ((((2 : Int32) < (2 : Int32)) ∧ ((¬ ((2 : Int32) < (3 : Int32))) ∧ ((0 : Int32) = ac))) ∨ ((¬ ((2 : Int32) < (2 : Int32))) ∧ ((t1 = ac) ∨ ((¬ ((2 : Int32) < (3 : Int32))) ∧ ((0 : Int32) = ac)))))))))) := by
  simp
theorem own_fin2 (cc ac f0 t0 f1 t1 f2 t2 : Int32) (hc : cc = (2 : Int32)) (ha : -2 ≤ ac.toInt ∧ ac.toInt < 3) (ht0 : 0 ≤ t0.toInt ∧ t0.toInt < 3) (ht1 : 0 ≤ t1.toInt ∧ t1.toInt < 3) : ((¬ (ac < (0 : Int32))) ∧ (¬ ((((ps2 (cn1 (own_l [t0, t1]) 2) 3) ac.toNatClampNeg) = ((ps2 (cn1 (own_l [t0, t1]) 2) 3) (ac + (1 : Int32)).toNatClampNeg))))) ↔ ((¬ (ac < (0 : Int32))) ∧ (((cc < (1 : Int32)) ∧ (((cc < (2 : Int32)) ∧ ((¬ (cc < (3 : Int32))) ∧ (t2 = ac))) ∨ ((¬ (cc < (2 : Int32))) ∧ ((t1 = ac) ∨ ((¬ (cc < (3 : Int32))) ∧ (t2 = ac)))))) ∨ ((¬ (cc < (1 : Int32))) ∧ ((t0 = ac) ∨ (((cc < (2 : Int32)) ∧ ((¬ (cc < (3 : Int32))) ∧ (t2 = ac))) ∨ ((¬ (cc < (2 : Int32))) ∧ ((t1 = ac) ∨ ((¬ (cc < (3 : Int32))) ∧ (t2 = ac))))))))) := by
  subst hc
  obtain ⟨z, rfl⟩ : ∃ z : Fin 5, ac = Int32.ofInt ((z.val : Int) - 2) := own_z5 ac ha
  obtain ⟨a, rfl⟩ := own_of (n := 3) (k := t0) ht0 (by decide)
  obtain ⟨b, rfl⟩ := own_of (n := 3) (k := t1) ht1 (by decide)
  rw [own_tt2]
  exact own_df2 z a b
set_option maxRecDepth 100000 in
theorem own_df3 : ∀ z : Fin 5, ∀ a : Fin 3, ∀ b : Fin 3, ∀ c : Fin 3, (((¬ ((Int32.ofInt ((z.val : Int) - 2)) < (0 : Int32))) ∧ (¬ ((((ps2 (cn1 (own_l [(Int32.ofNat a.val), (Int32.ofNat b.val), (Int32.ofNat c.val)]) 3) 3) (Int32.ofInt ((z.val : Int) - 2)).toNatClampNeg) = ((ps2 (cn1 (own_l [(Int32.ofNat a.val), (Int32.ofNat b.val), (Int32.ofNat c.val)]) 3) 3) ((Int32.ofInt ((z.val : Int) - 2)) + (1 : Int32)).toNatClampNeg))))) ↔ ((¬ ((Int32.ofInt ((z.val : Int) - 2)) < (0 : Int32))) ∧ ((((3 : Int32) < (1 : Int32)) ∧ ((((3 : Int32) < (2 : Int32)) ∧ ((¬ ((3 : Int32) < (3 : Int32))) ∧ ((Int32.ofNat c.val) = (Int32.ofInt ((z.val : Int) - 2))))) ∨ ((¬ ((3 : Int32) < (2 : Int32))) ∧ (((Int32.ofNat b.val) = (Int32.ofInt ((z.val : Int) - 2))) ∨ ((¬ ((3 : Int32) < (3 : Int32))) ∧ ((Int32.ofNat c.val) = (Int32.ofInt ((z.val : Int) - 2)))))))) ∨ ((¬ ((3 : Int32) < (1 : Int32))) ∧ (((Int32.ofNat a.val) = (Int32.ofInt ((z.val : Int) - 2))) ∨ ((((3 : Int32) < (2 : Int32)) ∧ ((¬ ((3 : Int32) < (3 : Int32))) ∧ ((Int32.ofNat c.val) = (Int32.ofInt ((z.val : Int) - 2))))) ∨ ((¬ ((3 : Int32) < (2 : Int32))) ∧ (((Int32.ofNat b.val) = (Int32.ofInt ((z.val : Int) - 2))) ∨ ((¬ ((3 : Int32) < (3 : Int32))) ∧ ((Int32.ofNat c.val) = (Int32.ofInt ((z.val : Int) - 2)))))))))))) := by decide +kernel
theorem own_tt3 (ac t0 t1 t2 : Int32) : (((¬ (ac < (0 : Int32))) ∧ ((((3 : Int32) < (1 : Int32)) ∧ ((((3 : Int32) < (2 : Int32)) ∧ ((¬ ((3 : Int32) < (3 : Int32))) ∧ (t2 = ac))) ∨ ((¬ ((3 : Int32) < (2 : Int32))) ∧ ((t1 = ac) ∨ ((¬ ((3 : Int32) < (3 : Int32))) ∧ (t2 = ac)))))) ∨ ((¬ ((3 : Int32) < (1 : Int32))) ∧ ((t0 = ac) ∨ ((((3 : Int32) < (2 : Int32)) ∧ ((¬ ((3 : Int32) < (3 : Int32))) ∧ (t2 = ac))) ∨ ((¬ ((3 : Int32) < (2 : Int32))) ∧ ((t1 = ac) ∨ ((¬ ((3 : Int32) < (3 : Int32))) ∧ (t2 = ac)))))))))) ↔ (((¬ (ac < (0 : Int32))) ∧ ((((3 : Int32) < (1 : Int32)) ∧ ((((3 : Int32) < (2 : Int32)) ∧ ((¬ ((3 : Int32) < (3 : Int32))) ∧ (t2 = ac))) ∨ ((¬ ((3 : Int32) < (2 : Int32))) ∧ ((t1 = ac) ∨ ((¬ ((3 : Int32) < (3 : Int32))) ∧ (t2 = ac)))))) ∨ ((¬ ((3 : Int32) < (1 : Int32))) ∧ ((t0 = ac) ∨ ((((3 : Int32) < (2 : Int32)) ∧ ((¬ ((3 : Int32) < (3 : Int32))) ∧ (t2 = ac))) ∨ ((¬ ((3 : Int32) < (2 : Int32))) ∧ ((t1 = ac) ∨ ((¬ ((3 : Int32) < (3 : Int32))) ∧ (t2 = ac)))))))))) := by
  simp
theorem own_fin3 (cc ac f0 t0 f1 t1 f2 t2 : Int32) (hc : cc = (3 : Int32)) (ha : -2 ≤ ac.toInt ∧ ac.toInt < 3) (ht0 : 0 ≤ t0.toInt ∧ t0.toInt < 3) (ht1 : 0 ≤ t1.toInt ∧ t1.toInt < 3) (ht2 : 0 ≤ t2.toInt ∧ t2.toInt < 3) : ((¬ (ac < (0 : Int32))) ∧ (¬ ((((ps2 (cn1 (own_l [t0, t1, t2]) 3) 3) ac.toNatClampNeg) = ((ps2 (cn1 (own_l [t0, t1, t2]) 3) 3) (ac + (1 : Int32)).toNatClampNeg))))) ↔ ((¬ (ac < (0 : Int32))) ∧ (((cc < (1 : Int32)) ∧ (((cc < (2 : Int32)) ∧ ((¬ (cc < (3 : Int32))) ∧ (t2 = ac))) ∨ ((¬ (cc < (2 : Int32))) ∧ ((t1 = ac) ∨ ((¬ (cc < (3 : Int32))) ∧ (t2 = ac)))))) ∨ ((¬ (cc < (1 : Int32))) ∧ ((t0 = ac) ∨ (((cc < (2 : Int32)) ∧ ((¬ (cc < (3 : Int32))) ∧ (t2 = ac))) ∨ ((¬ (cc < (2 : Int32))) ∧ ((t1 = ac) ∨ ((¬ (cc < (3 : Int32))) ∧ (t2 = ac))))))))) := by
  subst hc
  obtain ⟨z, rfl⟩ : ∃ z : Fin 5, ac = Int32.ofInt ((z.val : Int) - 2) := own_z5 ac ha
  obtain ⟨a, rfl⟩ := own_of (n := 3) (k := t0) ht0 (by decide)
  obtain ⟨b, rfl⟩ := own_of (n := 3) (k := t1) ht1 (by decide)
  obtain ⟨c, rfl⟩ := own_of (n := 3) (k := t2) ht2 (by decide)
  rw [own_tt3]
  exact own_df3 z a b c
theorem pd__40_IIII_41_Z : parseMethodDescriptor "(IIII)Z" = some ⟨[.int, .int, .int, .int], some .boolean⟩ := by decide +kernel
theorem pn_com_example_traceweave_traceweave_pattern_NumberedPatternIsEnteredPinLaw_law_0 : plainFor x = true := by first | exact plainFor_of_name (by first | (simp [plainName, overriddenIn]; done) | decide +kernel) | decide +kernel
def Q_rm0 (Z : State) (p0 : Int32) (p1 : Int32) (p2 : Int32) (p3 : Int32) (p4 : Int32) (h0 : Heap) (n0 : Nat) (v : Option Value) (h : Heap) (L : List Loc) : Prop := v = some (.int (1 : Int32)) ∧ Fr n0 L
set_option maxRecDepth 65536 in
set_option maxHeartbeats 4000000 in
theorem ef_rm0 (m : MethodId) (p0 : Int32) (p1 : Int32) (p2 : Int32) (p3 : Int32) (p4 : Int32) : entryFrame m #[(.int p0), (.int p1), (.int p2), (.int p3), (.int p4)] maxLocals = mkF m 0 #[.val (.int p0), .val (.int p1), .val (.int p2), .val (.int p3), .val (.int p4), .unset, .unset, .unset, .unset, .unset, .unset, .unset, .unset, .unset, .unset, .unset, .unset] [] := by first | (simp [entryFrame, mkF, argsToLocals, Value.category, maxLocals]; done) | rfl
set_option maxRecDepth 65536 in
set_option maxHeartbeats 40000000 in
theorem rm0 (l : Launch) (Z : State) (a0 : Array Value) (hw : ∀ d ∈ tables_1, d.before a0 Z = true) (ws : List Jvm.Cond) (p0 : Int32) (p1 : Int32) (p2 : Int32) (p3 : Int32) (p4 : Int32) (h0 : Heap) (n0 : Nat) (Z0 : n0 ≤ h0.size)  :
    MetFree l x (head1 (Jvm.Cond.code x code maxLocals ret :: ws) room_1) (fun a U => a = #[(.int p0), (.int p1), (.int p2), (.int p3), (.int p4)] ∧ Z.Warmed39 U.vm ∧ U.heap = h0) (fun _ _ _ _ _ => True) (fun _ U o U' => ∃ v L, o = .returned v ∧ Q_rm0 Z p0 p1 p2 p3 p4 h0 n0 v U'.heap L ∧ FrameEnd U o U' L room_1.cells room_1.slots) := by
  refine body pn_com_example_traceweave_traceweave_pattern_NumberedPatternIsEnteredPinLaw_law_0 ?_
  intro p e s m below meth c s₁ hx hby hml hown hnm hret hlk hZ e0 X0
  replace hml : c.maxLocals = 17 := hml
  replace hown : s.vm.findClass "com/example/traceweave/traceweave/pattern/NumberedPatternIsEnteredPinLaw" = some m.cls := hown
  replace hnm : meth.name = "law" := hnm
  replace hret : meth.sig.returnType = (some .boolean) := hret
  have N0 := Fr.nil n0
  rw [ef_rm0]
  obtain ⟨G, hG⟩ : ∃ G, G = End (Q_rm0 Z p0 p1 p2 p3 p4 h0 n0) s room_1.cells room_1.slots := ⟨_, rfl⟩
  rw [← hG]
  refine go (u' := s₁.setTop (mkF m 1 #[.val (.int p0), .val (.int p1), .val (.int p2), .val (.int p3), .val (.int p4), .unset, .unset, .unset, .unset, .unset, .unset, .unset, .unset, .unset, .unset, .unset, .unset] [(.int p0)])) (fun _ ks_ => XS.iloadN X0.here hx rfl (hb hby at_0) rfl  ks_) ?_
  refine go (u' := s₁.setTop (mkF m 4 #[.val (.int p0), .val (.int p1), .val (.int p2), .val (.int p3), .val (.int p4), .unset, .unset, .unset, .unset, .unset, .unset, .unset, .unset, .unset, .unset, .unset, .unset] [(.int (255 : Int32)), (.int p0)])) (fun _ ks_ => XS.sipush X0.here hx rfl (hb hby at_1) ks_) ?_
  refine go (u' := s₁.setTop (mkF m 5 #[.val (.int p0), .val (.int p1), .val (.int p2), .val (.int p3), .val (.int p4), .unset, .unset, .unset, .unset, .unset, .unset, .unset, .unset, .unset, .unset, .unset, .unset] [(.int (p0 &&& (255 : Int32)))])) (fun _ ks_ => XS.iand X0.here hx rfl (hb hby at_4) rfl ks_) ?_
  refine go (u' := s₁.setTop (mkF m 6 #[.val (.int p0), .val (.int p1), .val (.int p2), .val (.int p3), .val (.int p4), .unset, .unset, .unset, .unset, .unset, .unset, .unset, .unset, .unset, .unset, .unset, .unset] [(.int (3 : Int32)), (.int (p0 &&& (255 : Int32)))])) (fun _ ks_ => XS.iconst X0.here hx rfl (hb hby at_5) ks_) ?_
  refine go (u' := s₁.setTop (mkF m 7 #[.val (.int p0), .val (.int p1), .val (.int p2), .val (.int p3), .val (.int p4), .unset, .unset, .unset, .unset, .unset, .unset, .unset, .unset, .unset, .unset, .unset, .unset] [(.int ((p0 &&& (255 : Int32)) % (3 : Int32)))])) (fun _ ks_ => iremM (g := (mkF m 6 #[.val (.int p0), .val (.int p1), .val (.int p2), .val (.int p3), .val (.int p4), .unset, .unset, .unset, .unset, .unset, .unset, .unset, .unset, .unset, .unset, .unset, .unset] [(.int (3 : Int32)), (.int (p0 &&& (255 : Int32)))])) X0 hx rfl (hb hby at_6) rfl (by decide) ks_) ?_
  refine go (u' := s₁.setTop (mkF m 9 #[.val (.int p0), .val (.int p1), .val (.int p2), .val (.int p3), .val (.int p4), .val (.int ((p0 &&& (255 : Int32)) % (3 : Int32))), .unset, .unset, .unset, .unset, .unset, .unset, .unset, .unset, .unset, .unset, .unset] [])) (fun _ ks_ => XS.istore X0.here hx rfl (hb hby at_7) rfl  (l' := #[.val (.int p0), .val (.int p1), .val (.int p2), .val (.int p3), .val (.int p4), .val (.int ((p0 &&& (255 : Int32)) % (3 : Int32))), .unset, .unset, .unset, .unset, .unset, .unset, .unset, .unset, .unset, .unset, .unset]) rfl ks_) ?_
  obtain ⟨f0, hf0⟩ : ∃ z, z = ((p0 &&& (255 : Int32)) % (3 : Int32)) := ⟨_, rfl⟩
  rw [← hf0]
  refine go (u' := s₁.setTop (mkF m 10 #[.val (.int p0), .val (.int p1), .val (.int p2), .val (.int p3), .val (.int p4), .val (.int f0), .unset, .unset, .unset, .unset, .unset, .unset, .unset, .unset, .unset, .unset, .unset] [(.int p0)])) (fun _ ks_ => XS.iloadN X0.here hx rfl (hb hby at_9) rfl  ks_) ?_
  refine go (u' := s₁.setTop (mkF m 12 #[.val (.int p0), .val (.int p1), .val (.int p2), .val (.int p3), .val (.int p4), .val (.int f0), .unset, .unset, .unset, .unset, .unset, .unset, .unset, .unset, .unset, .unset, .unset] [(.int (8 : Int32)), (.int p0)])) (fun _ ks_ => XS.bipush X0.here hx rfl (hb hby at_10) ks_) ?_
  refine go (u' := s₁.setTop (mkF m 13 #[.val (.int p0), .val (.int p1), .val (.int p2), .val (.int p3), .val (.int p4), .val (.int f0), .unset, .unset, .unset, .unset, .unset, .unset, .unset, .unset, .unset, .unset, .unset] [(.int ((p0.toUInt32 >>> ((8 : Int32) &&& 31).toUInt32).toInt32))])) (fun _ ks_ => XS.iushr X0.here hx rfl (hb hby at_12) rfl ks_) ?_
  refine go (u' := s₁.setTop (mkF m 16 #[.val (.int p0), .val (.int p1), .val (.int p2), .val (.int p3), .val (.int p4), .val (.int f0), .unset, .unset, .unset, .unset, .unset, .unset, .unset, .unset, .unset, .unset, .unset] [(.int (255 : Int32)), (.int ((p0.toUInt32 >>> ((8 : Int32) &&& 31).toUInt32).toInt32))])) (fun _ ks_ => XS.sipush X0.here hx rfl (hb hby at_13) ks_) ?_
  refine go (u' := s₁.setTop (mkF m 17 #[.val (.int p0), .val (.int p1), .val (.int p2), .val (.int p3), .val (.int p4), .val (.int f0), .unset, .unset, .unset, .unset, .unset, .unset, .unset, .unset, .unset, .unset, .unset] [(.int (((p0.toUInt32 >>> ((8 : Int32) &&& 31).toUInt32).toInt32) &&& (255 : Int32)))])) (fun _ ks_ => XS.iand X0.here hx rfl (hb hby at_16) rfl ks_) ?_
  refine go (u' := s₁.setTop (mkF m 18 #[.val (.int p0), .val (.int p1), .val (.int p2), .val (.int p3), .val (.int p4), .val (.int f0), .unset, .unset, .unset, .unset, .unset, .unset, .unset, .unset, .unset, .unset, .unset] [(.int (3 : Int32)), (.int (((p0.toUInt32 >>> ((8 : Int32) &&& 31).toUInt32).toInt32) &&& (255 : Int32)))])) (fun _ ks_ => XS.iconst X0.here hx rfl (hb hby at_17) ks_) ?_
  refine go (u' := s₁.setTop (mkF m 19 #[.val (.int p0), .val (.int p1), .val (.int p2), .val (.int p3), .val (.int p4), .val (.int f0), .unset, .unset, .unset, .unset, .unset, .unset, .unset, .unset, .unset, .unset, .unset] [(.int ((((p0.toUInt32 >>> ((8 : Int32) &&& 31).toUInt32).toInt32) &&& (255 : Int32)) % (3 : Int32)))])) (fun _ ks_ => iremM (g := (mkF m 18 #[.val (.int p0), .val (.int p1), .val (.int p2), .val (.int p3), .val (.int p4), .val (.int f0), .unset, .unset, .unset, .unset, .unset, .unset, .unset, .unset, .unset, .unset, .unset] [(.int (3 : Int32)), (.int (((p0.toUInt32 >>> ((8 : Int32) &&& 31).toUInt32).toInt32) &&& (255 : Int32)))])) X0 hx rfl (hb hby at_18) rfl (by decide) ks_) ?_
  refine go (u' := s₁.setTop (mkF m 21 #[.val (.int p0), .val (.int p1), .val (.int p2), .val (.int p3), .val (.int p4), .val (.int f0), .val (.int ((((p0.toUInt32 >>> ((8 : Int32) &&& 31).toUInt32).toInt32) &&& (255 : Int32)) % (3 : Int32))), .unset, .unset, .unset, .unset, .unset, .unset, .unset, .unset, .unset, .unset] [])) (fun _ ks_ => XS.istore X0.here hx rfl (hb hby at_19) rfl  (l' := #[.val (.int p0), .val (.int p1), .val (.int p2), .val (.int p3), .val (.int p4), .val (.int f0), .val (.int ((((p0.toUInt32 >>> ((8 : Int32) &&& 31).toUInt32).toInt32) &&& (255 : Int32)) % (3 : Int32))), .unset, .unset, .unset, .unset, .unset, .unset, .unset, .unset, .unset, .unset]) rfl ks_) ?_
  obtain ⟨t0, ht0⟩ : ∃ z, z = ((((p0.toUInt32 >>> ((8 : Int32) &&& 31).toUInt32).toInt32) &&& (255 : Int32)) % (3 : Int32)) := ⟨_, rfl⟩
  rw [← ht0]
  refine go (u' := s₁.setTop (mkF m 22 #[.val (.int p0), .val (.int p1), .val (.int p2), .val (.int p3), .val (.int p4), .val (.int f0), .val (.int t0), .unset, .unset, .unset, .unset, .unset, .unset, .unset, .unset, .unset, .unset] [(.int p1)])) (fun _ ks_ => XS.iloadN X0.here hx rfl (hb hby at_21) rfl  ks_) ?_
  refine go (u' := s₁.setTop (mkF m 25 #[.val (.int p0), .val (.int p1), .val (.int p2), .val (.int p3), .val (.int p4), .val (.int f0), .val (.int t0), .unset, .unset, .unset, .unset, .unset, .unset, .unset, .unset, .unset, .unset] [(.int (255 : Int32)), (.int p1)])) (fun _ ks_ => XS.sipush X0.here hx rfl (hb hby at_22) ks_) ?_
  refine go (u' := s₁.setTop (mkF m 26 #[.val (.int p0), .val (.int p1), .val (.int p2), .val (.int p3), .val (.int p4), .val (.int f0), .val (.int t0), .unset, .unset, .unset, .unset, .unset, .unset, .unset, .unset, .unset, .unset] [(.int (p1 &&& (255 : Int32)))])) (fun _ ks_ => XS.iand X0.here hx rfl (hb hby at_25) rfl ks_) ?_
  refine go (u' := s₁.setTop (mkF m 27 #[.val (.int p0), .val (.int p1), .val (.int p2), .val (.int p3), .val (.int p4), .val (.int f0), .val (.int t0), .unset, .unset, .unset, .unset, .unset, .unset, .unset, .unset, .unset, .unset] [(.int (3 : Int32)), (.int (p1 &&& (255 : Int32)))])) (fun _ ks_ => XS.iconst X0.here hx rfl (hb hby at_26) ks_) ?_
  refine go (u' := s₁.setTop (mkF m 28 #[.val (.int p0), .val (.int p1), .val (.int p2), .val (.int p3), .val (.int p4), .val (.int f0), .val (.int t0), .unset, .unset, .unset, .unset, .unset, .unset, .unset, .unset, .unset, .unset] [(.int ((p1 &&& (255 : Int32)) % (3 : Int32)))])) (fun _ ks_ => iremM (g := (mkF m 27 #[.val (.int p0), .val (.int p1), .val (.int p2), .val (.int p3), .val (.int p4), .val (.int f0), .val (.int t0), .unset, .unset, .unset, .unset, .unset, .unset, .unset, .unset, .unset, .unset] [(.int (3 : Int32)), (.int (p1 &&& (255 : Int32)))])) X0 hx rfl (hb hby at_27) rfl (by decide) ks_) ?_
  refine go (u' := s₁.setTop (mkF m 30 #[.val (.int p0), .val (.int p1), .val (.int p2), .val (.int p3), .val (.int p4), .val (.int f0), .val (.int t0), .val (.int ((p1 &&& (255 : Int32)) % (3 : Int32))), .unset, .unset, .unset, .unset, .unset, .unset, .unset, .unset, .unset] [])) (fun _ ks_ => XS.istore X0.here hx rfl (hb hby at_28) rfl  (l' := #[.val (.int p0), .val (.int p1), .val (.int p2), .val (.int p3), .val (.int p4), .val (.int f0), .val (.int t0), .val (.int ((p1 &&& (255 : Int32)) % (3 : Int32))), .unset, .unset, .unset, .unset, .unset, .unset, .unset, .unset, .unset]) rfl ks_) ?_
  obtain ⟨f1, hf1⟩ : ∃ z, z = ((p1 &&& (255 : Int32)) % (3 : Int32)) := ⟨_, rfl⟩
  rw [← hf1]
  refine go (u' := s₁.setTop (mkF m 31 #[.val (.int p0), .val (.int p1), .val (.int p2), .val (.int p3), .val (.int p4), .val (.int f0), .val (.int t0), .val (.int f1), .unset, .unset, .unset, .unset, .unset, .unset, .unset, .unset, .unset] [(.int p1)])) (fun _ ks_ => XS.iloadN X0.here hx rfl (hb hby at_30) rfl  ks_) ?_
  refine go (u' := s₁.setTop (mkF m 33 #[.val (.int p0), .val (.int p1), .val (.int p2), .val (.int p3), .val (.int p4), .val (.int f0), .val (.int t0), .val (.int f1), .unset, .unset, .unset, .unset, .unset, .unset, .unset, .unset, .unset] [(.int (8 : Int32)), (.int p1)])) (fun _ ks_ => XS.bipush X0.here hx rfl (hb hby at_31) ks_) ?_
  refine go (u' := s₁.setTop (mkF m 34 #[.val (.int p0), .val (.int p1), .val (.int p2), .val (.int p3), .val (.int p4), .val (.int f0), .val (.int t0), .val (.int f1), .unset, .unset, .unset, .unset, .unset, .unset, .unset, .unset, .unset] [(.int ((p1.toUInt32 >>> ((8 : Int32) &&& 31).toUInt32).toInt32))])) (fun _ ks_ => XS.iushr X0.here hx rfl (hb hby at_33) rfl ks_) ?_
  refine go (u' := s₁.setTop (mkF m 37 #[.val (.int p0), .val (.int p1), .val (.int p2), .val (.int p3), .val (.int p4), .val (.int f0), .val (.int t0), .val (.int f1), .unset, .unset, .unset, .unset, .unset, .unset, .unset, .unset, .unset] [(.int (255 : Int32)), (.int ((p1.toUInt32 >>> ((8 : Int32) &&& 31).toUInt32).toInt32))])) (fun _ ks_ => XS.sipush X0.here hx rfl (hb hby at_34) ks_) ?_
  refine go (u' := s₁.setTop (mkF m 38 #[.val (.int p0), .val (.int p1), .val (.int p2), .val (.int p3), .val (.int p4), .val (.int f0), .val (.int t0), .val (.int f1), .unset, .unset, .unset, .unset, .unset, .unset, .unset, .unset, .unset] [(.int (((p1.toUInt32 >>> ((8 : Int32) &&& 31).toUInt32).toInt32) &&& (255 : Int32)))])) (fun _ ks_ => XS.iand X0.here hx rfl (hb hby at_37) rfl ks_) ?_
  refine go (u' := s₁.setTop (mkF m 39 #[.val (.int p0), .val (.int p1), .val (.int p2), .val (.int p3), .val (.int p4), .val (.int f0), .val (.int t0), .val (.int f1), .unset, .unset, .unset, .unset, .unset, .unset, .unset, .unset, .unset] [(.int (3 : Int32)), (.int (((p1.toUInt32 >>> ((8 : Int32) &&& 31).toUInt32).toInt32) &&& (255 : Int32)))])) (fun _ ks_ => XS.iconst X0.here hx rfl (hb hby at_38) ks_) ?_
  refine go (u' := s₁.setTop (mkF m 40 #[.val (.int p0), .val (.int p1), .val (.int p2), .val (.int p3), .val (.int p4), .val (.int f0), .val (.int t0), .val (.int f1), .unset, .unset, .unset, .unset, .unset, .unset, .unset, .unset, .unset] [(.int ((((p1.toUInt32 >>> ((8 : Int32) &&& 31).toUInt32).toInt32) &&& (255 : Int32)) % (3 : Int32)))])) (fun _ ks_ => iremM (g := (mkF m 39 #[.val (.int p0), .val (.int p1), .val (.int p2), .val (.int p3), .val (.int p4), .val (.int f0), .val (.int t0), .val (.int f1), .unset, .unset, .unset, .unset, .unset, .unset, .unset, .unset, .unset] [(.int (3 : Int32)), (.int (((p1.toUInt32 >>> ((8 : Int32) &&& 31).toUInt32).toInt32) &&& (255 : Int32)))])) X0 hx rfl (hb hby at_39) rfl (by decide) ks_) ?_
  refine go (u' := s₁.setTop (mkF m 42 #[.val (.int p0), .val (.int p1), .val (.int p2), .val (.int p3), .val (.int p4), .val (.int f0), .val (.int t0), .val (.int f1), .val (.int ((((p1.toUInt32 >>> ((8 : Int32) &&& 31).toUInt32).toInt32) &&& (255 : Int32)) % (3 : Int32))), .unset, .unset, .unset, .unset, .unset, .unset, .unset, .unset] [])) (fun _ ks_ => XS.istore X0.here hx rfl (hb hby at_40) rfl  (l' := #[.val (.int p0), .val (.int p1), .val (.int p2), .val (.int p3), .val (.int p4), .val (.int f0), .val (.int t0), .val (.int f1), .val (.int ((((p1.toUInt32 >>> ((8 : Int32) &&& 31).toUInt32).toInt32) &&& (255 : Int32)) % (3 : Int32))), .unset, .unset, .unset, .unset, .unset, .unset, .unset, .unset]) rfl ks_) ?_
  obtain ⟨t1, ht1⟩ : ∃ z, z = ((((p1.toUInt32 >>> ((8 : Int32) &&& 31).toUInt32).toInt32) &&& (255 : Int32)) % (3 : Int32)) := ⟨_, rfl⟩
  rw [← ht1]
  refine go (u' := s₁.setTop (mkF m 43 #[.val (.int p0), .val (.int p1), .val (.int p2), .val (.int p3), .val (.int p4), .val (.int f0), .val (.int t0), .val (.int f1), .val (.int t1), .unset, .unset, .unset, .unset, .unset, .unset, .unset, .unset] [(.int p2)])) (fun _ ks_ => XS.iloadN X0.here hx rfl (hb hby at_42) rfl  ks_) ?_
  refine go (u' := s₁.setTop (mkF m 46 #[.val (.int p0), .val (.int p1), .val (.int p2), .val (.int p3), .val (.int p4), .val (.int f0), .val (.int t0), .val (.int f1), .val (.int t1), .unset, .unset, .unset, .unset, .unset, .unset, .unset, .unset] [(.int (255 : Int32)), (.int p2)])) (fun _ ks_ => XS.sipush X0.here hx rfl (hb hby at_43) ks_) ?_
  refine go (u' := s₁.setTop (mkF m 47 #[.val (.int p0), .val (.int p1), .val (.int p2), .val (.int p3), .val (.int p4), .val (.int f0), .val (.int t0), .val (.int f1), .val (.int t1), .unset, .unset, .unset, .unset, .unset, .unset, .unset, .unset] [(.int (p2 &&& (255 : Int32)))])) (fun _ ks_ => XS.iand X0.here hx rfl (hb hby at_46) rfl ks_) ?_
  refine go (u' := s₁.setTop (mkF m 48 #[.val (.int p0), .val (.int p1), .val (.int p2), .val (.int p3), .val (.int p4), .val (.int f0), .val (.int t0), .val (.int f1), .val (.int t1), .unset, .unset, .unset, .unset, .unset, .unset, .unset, .unset] [(.int (3 : Int32)), (.int (p2 &&& (255 : Int32)))])) (fun _ ks_ => XS.iconst X0.here hx rfl (hb hby at_47) ks_) ?_
  refine go (u' := s₁.setTop (mkF m 49 #[.val (.int p0), .val (.int p1), .val (.int p2), .val (.int p3), .val (.int p4), .val (.int f0), .val (.int t0), .val (.int f1), .val (.int t1), .unset, .unset, .unset, .unset, .unset, .unset, .unset, .unset] [(.int ((p2 &&& (255 : Int32)) % (3 : Int32)))])) (fun _ ks_ => iremM (g := (mkF m 48 #[.val (.int p0), .val (.int p1), .val (.int p2), .val (.int p3), .val (.int p4), .val (.int f0), .val (.int t0), .val (.int f1), .val (.int t1), .unset, .unset, .unset, .unset, .unset, .unset, .unset, .unset] [(.int (3 : Int32)), (.int (p2 &&& (255 : Int32)))])) X0 hx rfl (hb hby at_48) rfl (by decide) ks_) ?_
  refine go (u' := s₁.setTop (mkF m 51 #[.val (.int p0), .val (.int p1), .val (.int p2), .val (.int p3), .val (.int p4), .val (.int f0), .val (.int t0), .val (.int f1), .val (.int t1), .val (.int ((p2 &&& (255 : Int32)) % (3 : Int32))), .unset, .unset, .unset, .unset, .unset, .unset, .unset] [])) (fun _ ks_ => XS.istore X0.here hx rfl (hb hby at_49) rfl  (l' := #[.val (.int p0), .val (.int p1), .val (.int p2), .val (.int p3), .val (.int p4), .val (.int f0), .val (.int t0), .val (.int f1), .val (.int t1), .val (.int ((p2 &&& (255 : Int32)) % (3 : Int32))), .unset, .unset, .unset, .unset, .unset, .unset, .unset]) rfl ks_) ?_
  obtain ⟨f2, hf2⟩ : ∃ z, z = ((p2 &&& (255 : Int32)) % (3 : Int32)) := ⟨_, rfl⟩
  rw [← hf2]
  refine go (u' := s₁.setTop (mkF m 52 #[.val (.int p0), .val (.int p1), .val (.int p2), .val (.int p3), .val (.int p4), .val (.int f0), .val (.int t0), .val (.int f1), .val (.int t1), .val (.int f2), .unset, .unset, .unset, .unset, .unset, .unset, .unset] [(.int p2)])) (fun _ ks_ => XS.iloadN X0.here hx rfl (hb hby at_51) rfl  ks_) ?_
  refine go (u' := s₁.setTop (mkF m 54 #[.val (.int p0), .val (.int p1), .val (.int p2), .val (.int p3), .val (.int p4), .val (.int f0), .val (.int t0), .val (.int f1), .val (.int t1), .val (.int f2), .unset, .unset, .unset, .unset, .unset, .unset, .unset] [(.int (8 : Int32)), (.int p2)])) (fun _ ks_ => XS.bipush X0.here hx rfl (hb hby at_52) ks_) ?_
  refine go (u' := s₁.setTop (mkF m 55 #[.val (.int p0), .val (.int p1), .val (.int p2), .val (.int p3), .val (.int p4), .val (.int f0), .val (.int t0), .val (.int f1), .val (.int t1), .val (.int f2), .unset, .unset, .unset, .unset, .unset, .unset, .unset] [(.int ((p2.toUInt32 >>> ((8 : Int32) &&& 31).toUInt32).toInt32))])) (fun _ ks_ => XS.iushr X0.here hx rfl (hb hby at_54) rfl ks_) ?_
  refine go (u' := s₁.setTop (mkF m 58 #[.val (.int p0), .val (.int p1), .val (.int p2), .val (.int p3), .val (.int p4), .val (.int f0), .val (.int t0), .val (.int f1), .val (.int t1), .val (.int f2), .unset, .unset, .unset, .unset, .unset, .unset, .unset] [(.int (255 : Int32)), (.int ((p2.toUInt32 >>> ((8 : Int32) &&& 31).toUInt32).toInt32))])) (fun _ ks_ => XS.sipush X0.here hx rfl (hb hby at_55) ks_) ?_
  refine go (u' := s₁.setTop (mkF m 59 #[.val (.int p0), .val (.int p1), .val (.int p2), .val (.int p3), .val (.int p4), .val (.int f0), .val (.int t0), .val (.int f1), .val (.int t1), .val (.int f2), .unset, .unset, .unset, .unset, .unset, .unset, .unset] [(.int (((p2.toUInt32 >>> ((8 : Int32) &&& 31).toUInt32).toInt32) &&& (255 : Int32)))])) (fun _ ks_ => XS.iand X0.here hx rfl (hb hby at_58) rfl ks_) ?_
  refine go (u' := s₁.setTop (mkF m 60 #[.val (.int p0), .val (.int p1), .val (.int p2), .val (.int p3), .val (.int p4), .val (.int f0), .val (.int t0), .val (.int f1), .val (.int t1), .val (.int f2), .unset, .unset, .unset, .unset, .unset, .unset, .unset] [(.int (3 : Int32)), (.int (((p2.toUInt32 >>> ((8 : Int32) &&& 31).toUInt32).toInt32) &&& (255 : Int32)))])) (fun _ ks_ => XS.iconst X0.here hx rfl (hb hby at_59) ks_) ?_
  refine go (u' := s₁.setTop (mkF m 61 #[.val (.int p0), .val (.int p1), .val (.int p2), .val (.int p3), .val (.int p4), .val (.int f0), .val (.int t0), .val (.int f1), .val (.int t1), .val (.int f2), .unset, .unset, .unset, .unset, .unset, .unset, .unset] [(.int ((((p2.toUInt32 >>> ((8 : Int32) &&& 31).toUInt32).toInt32) &&& (255 : Int32)) % (3 : Int32)))])) (fun _ ks_ => iremM (g := (mkF m 60 #[.val (.int p0), .val (.int p1), .val (.int p2), .val (.int p3), .val (.int p4), .val (.int f0), .val (.int t0), .val (.int f1), .val (.int t1), .val (.int f2), .unset, .unset, .unset, .unset, .unset, .unset, .unset] [(.int (3 : Int32)), (.int (((p2.toUInt32 >>> ((8 : Int32) &&& 31).toUInt32).toInt32) &&& (255 : Int32)))])) X0 hx rfl (hb hby at_60) rfl (by decide) ks_) ?_
  refine go (u' := s₁.setTop (mkF m 63 #[.val (.int p0), .val (.int p1), .val (.int p2), .val (.int p3), .val (.int p4), .val (.int f0), .val (.int t0), .val (.int f1), .val (.int t1), .val (.int f2), .val (.int ((((p2.toUInt32 >>> ((8 : Int32) &&& 31).toUInt32).toInt32) &&& (255 : Int32)) % (3 : Int32))), .unset, .unset, .unset, .unset, .unset, .unset] [])) (fun _ ks_ => XS.istore X0.here hx rfl (hb hby at_61) rfl  (l' := #[.val (.int p0), .val (.int p1), .val (.int p2), .val (.int p3), .val (.int p4), .val (.int f0), .val (.int t0), .val (.int f1), .val (.int t1), .val (.int f2), .val (.int ((((p2.toUInt32 >>> ((8 : Int32) &&& 31).toUInt32).toInt32) &&& (255 : Int32)) % (3 : Int32))), .unset, .unset, .unset, .unset, .unset, .unset]) rfl ks_) ?_
  obtain ⟨t2, ht2⟩ : ∃ z, z = ((((p2.toUInt32 >>> ((8 : Int32) &&& 31).toUInt32).toInt32) &&& (255 : Int32)) % (3 : Int32)) := ⟨_, rfl⟩
  rw [← ht2]
  refine go (u' := s₁.setTop (mkF m 64 #[.val (.int p0), .val (.int p1), .val (.int p2), .val (.int p3), .val (.int p4), .val (.int f0), .val (.int t0), .val (.int f1), .val (.int t1), .val (.int f2), .val (.int t2), .unset, .unset, .unset, .unset, .unset, .unset] [(.int p3)])) (fun _ ks_ => XS.iloadN X0.here hx rfl (hb hby at_63) rfl  ks_) ?_
  refine go (u' := s₁.setTop (mkF m 65 #[.val (.int p0), .val (.int p1), .val (.int p2), .val (.int p3), .val (.int p4), .val (.int f0), .val (.int t0), .val (.int f1), .val (.int t1), .val (.int f2), .val (.int t2), .unset, .unset, .unset, .unset, .unset, .unset] [(.int (3 : Int32)), (.int p3)])) (fun _ ks_ => XS.iconst X0.here hx rfl (hb hby at_64) ks_) ?_
  refine go (u' := s₁.setTop (mkF m 66 #[.val (.int p0), .val (.int p1), .val (.int p2), .val (.int p3), .val (.int p4), .val (.int f0), .val (.int t0), .val (.int f1), .val (.int t1), .val (.int f2), .val (.int t2), .unset, .unset, .unset, .unset, .unset, .unset] [(.int (p3 &&& (3 : Int32)))])) (fun _ ks_ => XS.iand X0.here hx rfl (hb hby at_65) rfl ks_) ?_
  refine go (u' := s₁.setTop (mkF m 68 #[.val (.int p0), .val (.int p1), .val (.int p2), .val (.int p3), .val (.int p4), .val (.int f0), .val (.int t0), .val (.int f1), .val (.int t1), .val (.int f2), .val (.int t2), .val (.int (p3 &&& (3 : Int32))), .unset, .unset, .unset, .unset, .unset] [])) (fun _ ks_ => XS.istore X0.here hx rfl (hb hby at_66) rfl  (l' := #[.val (.int p0), .val (.int p1), .val (.int p2), .val (.int p3), .val (.int p4), .val (.int f0), .val (.int t0), .val (.int f1), .val (.int t1), .val (.int f2), .val (.int t2), .val (.int (p3 &&& (3 : Int32))), .unset, .unset, .unset, .unset, .unset]) rfl ks_) ?_
  obtain ⟨cc, hcc⟩ : ∃ z, z = (p3 &&& (3 : Int32)) := ⟨_, rfl⟩
  rw [← hcc]
  have hf0 := own_m3 _ f0 hf0
  have ht0 := own_m3 _ t0 ht0
  have hf1 := own_m3 _ f1 hf1
  have ht1 := own_m3 _ t1 ht1
  have hf2 := own_m3 _ f2 hf2
  have ht2 := own_m3 _ t2 ht2
  have C126_1 : ∀ (T1 : State) (h1 : Heap) (Ls1 : List Loc), (Stand p l e room_1 s m #[(.int p0), (.int p1), (.int p2), (.int p3), (.int p4)] below meth c T1 Ls1 0 0) → (T1.heap = h1) → (Fr n0 Ls1) → (n0 ≤ h1.size) → (Keep h0 h1 []) → Go p.tables e below G (T1.setTop (mkF m 126 #[.val (.int p0), .val (.int p1), .val (.int p2), .val (.int p3), .val (.int p4), .val (.int f0), .val (.int t0), .val (.int f1), .val (.int t1), .val (.int f2), .val (.int t2), .val (.int cc), .unset, .unset, .unset, .unset, .unset] [])) := by
    intro T1 h1 Ls1 X1 e1 N1 Z1 K1
    refine go (u' := T1.setTop (mkF m 128 #[.val (.int p0), .val (.int p1), .val (.int p2), .val (.int p3), .val (.int p4), .val (.int f0), .val (.int t0), .val (.int f1), .val (.int t1), .val (.int f2), .val (.int t2), .val (.int cc), .unset, .unset, .unset, .unset, .unset] [(.int cc)])) (fun _ ks_ => XS.iload X1.here hx rfl (hb hby at_126) rfl  ks_) ?_
    by_cases c128_1 : cc = (0 : Int32)
    ·
      refine go (u' := T1.setTop (mkF m 131 #[.val (.int p0), .val (.int p1), .val (.int p2), .val (.int p3), .val (.int p4), .val (.int f0), .val (.int t0), .val (.int f1), .val (.int t1), .val (.int f2), .val (.int t2), .val (.int cc), .unset, .unset, .unset, .unset, .unset] [])) (fun _ ks_ => XS.ifNo X1.here hx rfl (hb hby at_128) rfl ((if0 _ _).trans (teq c128_1).2) ks_) ?_
      refine go (u' := T1.setTop (mkF m 132 #[.val (.int p0), .val (.int p1), .val (.int p2), .val (.int p3), .val (.int p4), .val (.int f0), .val (.int t0), .val (.int f1), .val (.int t1), .val (.int f2), .val (.int t2), .val (.int cc), .unset, .unset, .unset, .unset, .unset] [(.int (0 : Int32))])) (fun _ ks_ => XS.iconst X1.here hx rfl (hb hby at_131) ks_) ?_
      obtain ⟨T2, h2, k2, X2, e2, E2, A2, st2⟩ := newP X1 hx hZ (ww hw 0 rfl) e1 (g := (mkF m 132 #[.val (.int p0), .val (.int p1), .val (.int p2), .val (.int p3), .val (.int p4), .val (.int f0), .val (.int t0), .val (.int f1), .val (.int t1), .val (.int f2), .val (.int t2), .val (.int cc), .unset, .unset, .unset, .unset, .unset] [(.int (0 : Int32))])) rfl (hb hby at_132) rfl (by decide) (cap := 0) (by decide) (by decide) (by decide) (by decide)
      obtain ⟨b2, g2⟩ : ∃ z, z = h1.size := ⟨_, rfl⟩
      rw [← g2] at A2 st2
      have g_b2 : n0 ≤ b2 := Nat.le_trans Z1 (Nat.le_of_eq g2.symm)
      have sz_b2 : h0.size ≤ b2 := Nat.le_trans K1.1 (Nat.le_of_eq g2.symm)
      have K2 : Keep h0 h2 [] := K1.ext E2
      have Z2 : n0 ≤ h2.size := Nat.le_trans Z1 E2.1
      have Fa3 : PI Z h2 b2 .int 0 (own_l []) := PI.newL A2 (by decide) rfl rfl
      refine go (u' := T2.setTop (mkF m 134 #[.val (.int p0), .val (.int p1), .val (.int p2), .val (.int p3), .val (.int p4), .val (.int f0), .val (.int t0), .val (.int f1), .val (.int t1), .val (.int f2), .val (.int t2), .val (.int cc), .unset, .unset, .unset, .unset, .unset] [(.ref b2)])) st2 ?_
      refine go (u' := T2.setTop (mkF m 136 #[.val (.int p0), .val (.int p1), .val (.int p2), .val (.int p3), .val (.int p4), .val (.int f0), .val (.int t0), .val (.int f1), .val (.int t1), .val (.int f2), .val (.int t2), .val (.int cc), .val (.ref b2), .unset, .unset, .unset, .unset] [])) (fun _ ks_ => XS.astore X2.here hx rfl (hb hby at_134) rfl rfl (l' := #[.val (.int p0), .val (.int p1), .val (.int p2), .val (.int p3), .val (.int p4), .val (.int f0), .val (.int t0), .val (.int f1), .val (.int t1), .val (.int f2), .val (.int t2), .val (.int cc), .val (.ref b2), .unset, .unset, .unset, .unset]) rfl ks_) ?_
      refine go (u' := T2.setTop (mkF m 137 #[.val (.int p0), .val (.int p1), .val (.int p2), .val (.int p3), .val (.int p4), .val (.int f0), .val (.int t0), .val (.int f1), .val (.int t1), .val (.int f2), .val (.int t2), .val (.int cc), .val (.ref b2), .unset, .unset, .unset, .unset] [(.int (0 : Int32))])) (fun _ ks_ => XS.iconst X2.here hx rfl (hb hby at_136) ks_) ?_
      obtain ⟨T4, h4, k4, X4, e4, E4, A4, st4⟩ := newP X2 hx hZ (ww hw 0 rfl) e2 (g := (mkF m 137 #[.val (.int p0), .val (.int p1), .val (.int p2), .val (.int p3), .val (.int p4), .val (.int f0), .val (.int t0), .val (.int f1), .val (.int t1), .val (.int f2), .val (.int t2), .val (.int cc), .val (.ref b2), .unset, .unset, .unset, .unset] [(.int (0 : Int32))])) rfl (hb hby at_137) rfl (by decide) (cap := 0) (by decide) (by decide) (by decide) (by decide)
      obtain ⟨b4, g4⟩ : ∃ z, z = h2.size := ⟨_, rfl⟩
      rw [← g4] at A4 st4
      have ne_b2_b4 : b2 ≠ b4 := Nat.ne_of_lt (Nat.lt_of_lt_of_le Fa3.lt (Nat.le_of_eq g4.symm))
      have g_b4 : n0 ≤ b4 := Nat.le_trans Z2 (Nat.le_of_eq g4.symm)
      have sz_b4 : h0.size ≤ b4 := Nat.le_trans K2.1 (Nat.le_of_eq g4.symm)
      have K4 : Keep h0 h4 [] := K2.ext E4
      have Fa5 : PI Z h4 b2 .int 0 (own_l []) := Fa3.ext E4
      have Z4 : n0 ≤ h4.size := Nat.le_trans Z2 E4.1
      have Fa6 : PI Z h4 b4 .int 0 (own_l []) := PI.newL A4 (by decide) rfl rfl
      refine go (u' := T4.setTop (mkF m 139 #[.val (.int p0), .val (.int p1), .val (.int p2), .val (.int p3), .val (.int p4), .val (.int f0), .val (.int t0), .val (.int f1), .val (.int t1), .val (.int f2), .val (.int t2), .val (.int cc), .val (.ref b2), .unset, .unset, .unset, .unset] [(.ref b4)])) st4 ?_
      refine go (u' := T4.setTop (mkF m 141 #[.val (.int p0), .val (.int p1), .val (.int p2), .val (.int p3), .val (.int p4), .val (.int f0), .val (.int t0), .val (.int f1), .val (.int t1), .val (.int f2), .val (.int t2), .val (.int cc), .val (.ref b2), .val (.ref b4), .unset, .unset, .unset] [])) (fun _ ks_ => XS.astore X4.here hx rfl (hb hby at_139) rfl rfl (l' := #[.val (.int p0), .val (.int p1), .val (.int p2), .val (.int p3), .val (.int p4), .val (.int f0), .val (.int t0), .val (.int f1), .val (.int t1), .val (.int f2), .val (.int t2), .val (.int cc), .val (.ref b2), .val (.ref b4), .unset, .unset, .unset]) rfl ks_) ?_
      refine go (u' := T4.setTop (mkF m 252 #[.val (.int p0), .val (.int p1), .val (.int p2), .val (.int p3), .val (.int p4), .val (.int f0), .val (.int t0), .val (.int f1), .val (.int t1), .val (.int f2), .val (.int t2), .val (.int cc), .val (.ref b2), .val (.ref b4), .unset, .unset, .unset] [])) (fun _ ks_ => XS.goto X4.here hx rfl (pc0 := 141) (pc' := 252) rfl (hb hby at_141) (by decide) (by decide) ks_) ?_
      refine go (u' := T4.setTop (mkF m 254 #[.val (.int p0), .val (.int p1), .val (.int p2), .val (.int p3), .val (.int p4), .val (.int f0), .val (.int t0), .val (.int f1), .val (.int t1), .val (.int f2), .val (.int t2), .val (.int cc), .val (.ref b2), .val (.ref b4), .unset, .unset, .unset] [(.int p4)])) (fun _ ks_ => XS.iload X4.here hx rfl (hb hby at_252) rfl  ks_) ?_
      refine go (u' := T4.setTop (mkF m 256 #[.val (.int p0), .val (.int p1), .val (.int p2), .val (.int p3), .val (.int p4), .val (.int f0), .val (.int t0), .val (.int f1), .val (.int t1), .val (.int f2), .val (.int t2), .val (.int cc), .val (.ref b2), .val (.ref b4), .unset, .unset, .unset] [(.int (2147483647 : Int32)), (.int p4)])) (X4.ldcInt hx hown (mvT hZ (ww hw 1 rfl)) (g := (mkF m 254 #[.val (.int p0), .val (.int p1), .val (.int p2), .val (.int p3), .val (.int p4), .val (.int f0), .val (.int t0), .val (.int f1), .val (.int t1), .val (.int f2), .val (.int t2), .val (.int cc), .val (.ref b2), .val (.ref b4), .unset, .unset, .unset] [(.int p4)])) rfl (hb hby at_254)) ?_
      refine go (u' := T4.setTop (mkF m 257 #[.val (.int p0), .val (.int p1), .val (.int p2), .val (.int p3), .val (.int p4), .val (.int f0), .val (.int t0), .val (.int f1), .val (.int t1), .val (.int f2), .val (.int t2), .val (.int cc), .val (.ref b2), .val (.ref b4), .unset, .unset, .unset] [(.int (p4 &&& (2147483647 : Int32)))])) (fun _ ks_ => XS.iand X4.here hx rfl (hb hby at_256) rfl ks_) ?_
      refine go (u' := T4.setTop (mkF m 258 #[.val (.int p0), .val (.int p1), .val (.int p2), .val (.int p3), .val (.int p4), .val (.int f0), .val (.int t0), .val (.int f1), .val (.int t1), .val (.int f2), .val (.int t2), .val (.int cc), .val (.ref b2), .val (.ref b4), .unset, .unset, .unset] [(.int (5 : Int32)), (.int (p4 &&& (2147483647 : Int32)))])) (fun _ ks_ => XS.iconst X4.here hx rfl (hb hby at_257) ks_) ?_
      refine go (u' := T4.setTop (mkF m 259 #[.val (.int p0), .val (.int p1), .val (.int p2), .val (.int p3), .val (.int p4), .val (.int f0), .val (.int t0), .val (.int f1), .val (.int t1), .val (.int f2), .val (.int t2), .val (.int cc), .val (.ref b2), .val (.ref b4), .unset, .unset, .unset] [(.int ((p4 &&& (2147483647 : Int32)) % (5 : Int32)))])) (fun _ ks_ => iremM (g := (mkF m 258 #[.val (.int p0), .val (.int p1), .val (.int p2), .val (.int p3), .val (.int p4), .val (.int f0), .val (.int t0), .val (.int f1), .val (.int t1), .val (.int f2), .val (.int t2), .val (.int cc), .val (.ref b2), .val (.ref b4), .unset, .unset, .unset] [(.int (5 : Int32)), (.int (p4 &&& (2147483647 : Int32)))])) X4 hx rfl (hb hby at_258) rfl (by decide) ks_) ?_
      refine go (u' := T4.setTop (mkF m 260 #[.val (.int p0), .val (.int p1), .val (.int p2), .val (.int p3), .val (.int p4), .val (.int f0), .val (.int t0), .val (.int f1), .val (.int t1), .val (.int f2), .val (.int t2), .val (.int cc), .val (.ref b2), .val (.ref b4), .unset, .unset, .unset] [(.int (2 : Int32)), (.int ((p4 &&& (2147483647 : Int32)) % (5 : Int32)))])) (fun _ ks_ => XS.iconst X4.here hx rfl (hb hby at_259) ks_) ?_
      refine go (u' := T4.setTop (mkF m 261 #[.val (.int p0), .val (.int p1), .val (.int p2), .val (.int p3), .val (.int p4), .val (.int f0), .val (.int t0), .val (.int f1), .val (.int t1), .val (.int f2), .val (.int t2), .val (.int cc), .val (.ref b2), .val (.ref b4), .unset, .unset, .unset] [(.int (((p4 &&& (2147483647 : Int32)) % (5 : Int32)) - (2 : Int32)))])) (fun _ ks_ => XS.isub X4.here hx rfl (hb hby at_260) rfl ks_) ?_
      refine go (u' := T4.setTop (mkF m 263 #[.val (.int p0), .val (.int p1), .val (.int p2), .val (.int p3), .val (.int p4), .val (.int f0), .val (.int t0), .val (.int f1), .val (.int t1), .val (.int f2), .val (.int t2), .val (.int cc), .val (.ref b2), .val (.ref b4), .val (.int (((p4 &&& (2147483647 : Int32)) % (5 : Int32)) - (2 : Int32))), .unset, .unset] [])) (fun _ ks_ => XS.istore X4.here hx rfl (hb hby at_261) rfl  (l' := #[.val (.int p0), .val (.int p1), .val (.int p2), .val (.int p3), .val (.int p4), .val (.int f0), .val (.int t0), .val (.int f1), .val (.int t1), .val (.int f2), .val (.int t2), .val (.int cc), .val (.ref b2), .val (.ref b4), .val (.int (((p4 &&& (2147483647 : Int32)) % (5 : Int32)) - (2 : Int32))), .unset, .unset]) rfl ks_) ?_
      obtain ⟨ac, hac⟩ : ∃ z, z = (((p4 &&& (2147483647 : Int32)) % (5 : Int32)) - (2 : Int32)) := ⟨_, rfl⟩
      rw [← hac]
      have hac' := own_ac _ ac hac
      obtain ⟨T7, h7, X7, e7, E7, A7, D7, -, st7⟩ := newO X4 hx hZ hown (ww hw 2 rfl) (ww hw 3 rfl) (ww hw 4 rfl) e4 (g := (mkF m 263 #[.val (.int p0), .val (.int p1), .val (.int p2), .val (.int p3), .val (.int p4), .val (.int f0), .val (.int t0), .val (.int f1), .val (.int t1), .val (.int f2), .val (.int t2), .val (.int cc), .val (.ref b2), .val (.ref b4), .val (.int ac), .unset, .unset] [])) rfl (hb hby at_263) (by decide) (by decide)
      obtain ⟨b7, g7⟩ : ∃ z, z = h4.size := ⟨_, rfl⟩
      rw [← g7] at A7 D7 st7
      have ne_b2_b7 : b2 ≠ b7 := Nat.ne_of_lt (Nat.lt_of_lt_of_le Fa5.lt (Nat.le_of_eq g7.symm))
      have ne_b4_b7 : b4 ≠ b7 := Nat.ne_of_lt (Nat.lt_of_lt_of_le Fa6.lt (Nat.le_of_eq g7.symm))
      have g_b7 : n0 ≤ b7 := Nat.le_trans Z4 (Nat.le_of_eq g7.symm)
      have sz_b7 : h0.size ≤ b7 := Nat.le_trans K4.1 (Nat.le_of_eq g7.symm)
      have K7 : Keep h0 h7 [] := K4.ext E7
      have Fa8 : PI Z h7 b2 .int 0 (own_l []) := Fa5.ext E7
      have Fa9 : PI Z h7 b4 .int 0 (own_l []) := Fa6.ext E7
      have Z7 : n0 ≤ h7.size := Nat.le_trans Z4 E7.1
      have Fa10 : Fld Z h7 b7 "com/example/traceweave/traceweave/pattern/NumberedPattern" "activities" "I" (.int (0 : Int32)) := D7 (Or.inr (ww hw 37 rfl)) (ty := .int) (by decide)
      have Fa11 : Fld Z h7 b7 "com/example/traceweave/traceweave/pattern/NumberedPattern" "leaving" "Lcom/example/traceweave/traceweave/pattern/NumberedPattern$Adjacency;" .null := D7 (Or.inr (ww hw 78 rfl)) (ty := (.object "com/example/traceweave/traceweave/pattern/NumberedPattern$Adjacency")) (by decide)
      have Fa12 : Fld Z h7 b7 "com/example/traceweave/traceweave/pattern/NumberedPattern" "entering" "Lcom/example/traceweave/traceweave/pattern/NumberedPattern$Adjacency;" .null := D7 (Or.inr (ww hw 80 rfl)) (ty := (.object "com/example/traceweave/traceweave/pattern/NumberedPattern$Adjacency")) (by decide)
      have Fa13 : Fld Z h7 b7 "com/example/traceweave/traceweave/pattern/NumberedPattern" "openInputs" "Ljava/util/BitSet;" .null := D7 (Or.inr (ww hw 82 rfl)) (ty := (.object "java/util/BitSet")) (by decide)
      have Fa14 : Fld Z h7 b7 "com/example/traceweave/traceweave/pattern/NumberedPattern" "openOutputs" "Ljava/util/BitSet;" .null := D7 (Or.inr (ww hw 84 rfl)) (ty := (.object "java/util/BitSet")) (by decide)
      refine go (u' := T7.setTop (mkF m 266 #[.val (.int p0), .val (.int p1), .val (.int p2), .val (.int p3), .val (.int p4), .val (.int f0), .val (.int t0), .val (.int f1), .val (.int t1), .val (.int f2), .val (.int t2), .val (.int cc), .val (.ref b2), .val (.ref b4), .val (.int ac), .unset, .unset] [(.ref b7)])) st7 ?_
      refine go (u' := T7.setTop (mkF m 267 #[.val (.int p0), .val (.int p1), .val (.int p2), .val (.int p3), .val (.int p4), .val (.int f0), .val (.int t0), .val (.int f1), .val (.int t1), .val (.int f2), .val (.int t2), .val (.int cc), .val (.ref b2), .val (.ref b4), .val (.int ac), .unset, .unset] [(.ref b7), (.ref b7)])) (fun _ ks_ => XS.dup X7.here hx rfl (hb hby at_266) rfl rfl ks_) ?_
      refine go (u' := T7.setTop (mkF m 268 #[.val (.int p0), .val (.int p1), .val (.int p2), .val (.int p3), .val (.int p4), .val (.int f0), .val (.int t0), .val (.int f1), .val (.int t1), .val (.int f2), .val (.int t2), .val (.int cc), .val (.ref b2), .val (.ref b4), .val (.int ac), .unset, .unset] [(.int (3 : Int32)), (.ref b7), (.ref b7)])) (fun _ ks_ => XS.iconst X7.here hx rfl (hb hby at_267) ks_) ?_
      refine go (u' := T7.setTop (mkF m 270 #[.val (.int p0), .val (.int p1), .val (.int p2), .val (.int p3), .val (.int p4), .val (.int f0), .val (.int t0), .val (.int f1), .val (.int t1), .val (.int f2), .val (.int t2), .val (.int cc), .val (.ref b2), .val (.ref b4), .val (.int ac), .unset, .unset] [(.ref b2), (.int (3 : Int32)), (.ref b7), (.ref b7)])) (fun _ ks_ => XS.aload X7.here hx rfl (hb hby at_268) rfl rfl ks_) ?_
      refine go (u' := T7.setTop (mkF m 272 #[.val (.int p0), .val (.int p1), .val (.int p2), .val (.int p3), .val (.int p4), .val (.int f0), .val (.int t0), .val (.int f1), .val (.int t1), .val (.int f2), .val (.int t2), .val (.int cc), .val (.ref b2), .val (.ref b4), .val (.int ac), .unset, .unset] [(.ref b4), (.ref b2), (.int (3 : Int32)), (.ref b7), (.ref b7)])) (fun _ ks_ => XS.aload X7.here hx rfl (hb hby at_270) rfl rfl ks_) ?_
      obtain ⟨_, _, ⟨T15, L15, k15, n15⟩, -, X15, ⟨Lc15, hQ15, l15, y15, z15⟩, st15⟩ := X7.specialBack hx (y := (⟨"com/example/traceweave/traceweave/pattern/NumberedPattern", "<init>", "(I[I[I)V"⟩ : MethodName)) rfl hown (mvT hZ (ww hw 5 rfl)) (mvT hZ (ww hw 6 rfl)) (mvT hZ (ww hw 7 rfl)) (by decide) (backOf (W := 1) (rm1 l Z a0 hw [] b7 b2 b4 0 (own_l []) (own_l []) h7 n0 Z7 g_b7 ne_b2_b7 ne_b4_b7 A7 Fa10 Fa11 Fa12 Fa13 Fa14 Fa8 Fa9 (by decide) (own_hl0 3) (own_hl0 3)) hZ (ww hw 7 rfl) (ww hw 4 rfl) (by decide) (by decide)) (g := (mkF m 272 #[.val (.int p0), .val (.int p1), .val (.int p2), .val (.int p3), .val (.int p4), .val (.int f0), .val (.int t0), .val (.int f1), .val (.int t1), .val (.int f2), .val (.int t2), .val (.int cc), .val (.ref b2), .val (.ref b4), .val (.int ac), .unset, .unset] [(.ref b4), (.ref b2), (.int (3 : Int32)), (.ref b7), (.ref b7)])) rfl (by rw [hml]; rfl) (Steps.refl _) (a := b7) (argsL := [(.int (3 : Int32)), (.ref b2), (.ref b4)]) (rest := [(.ref b7)]) (lenOf pd__40_I_91_I_91_I_41_V rfl) rfl (by show 2 * 0 + _ ≤ _; exact Nat.le_of_eq rfl) (hb hby at_272) (fun _ _ => ⟨rfl, e7, (by decide : 3 + 12 ≤ _), (by decide : 5 + 32 ≤ _)⟩)
      dsimp only [Pt.U, Pt.locs, Pt.cells, Pt.slots] at X15 l15 y15 z15 st15 hQ15
      subst l15 y15 z15
      obtain ⟨ad15, fi15, rfl, N15q, Kq15, Fa16, Fa17, Fa18, Fa19, Fa20, gad_15, gfi_15, nad_15⟩ := hQ15
      have N15 := Fr.app N1 N15q
      have K15 : Keep h0 T15.heap [] := K7.trans Kq15 (allS (P := fun x => x ∈ [] ∨ h0.size ≤ x) (Or.inr sz_b7) all0)
      have Z15 : n0 ≤ T15.heap.size := Nat.le_trans Z7 Kq15.1
      have Fa21 : PI Z T15.heap b2 .int 0 (own_l []) := Fa8.keep Kq15 (ninS ne_b2_b7 nin0)
      have Fa22 : PI Z T15.heap b4 .int 0 (own_l []) := Fa9.keep Kq15 (ninS ne_b4_b7 nin0)
      have Fa23 : Exa Z T15.heap b7 "com/example/traceweave/traceweave/pattern/NumberedPattern" := A7.keep Kq15
      have ne_b2_ad15 : b2 ≠ ad15 := Nat.ne_of_lt (Nat.lt_of_lt_of_le Fa8.lt gad_15)
      have ne_b4_ad15 : b4 ≠ ad15 := Nat.ne_of_lt (Nat.lt_of_lt_of_le Fa9.lt gad_15)
      have ne_b7_ad15 : b7 ≠ ad15 := Nat.ne_of_lt (Nat.lt_of_lt_of_le A7.lt gad_15)
      have g_ad15 : n0 ≤ ad15 := Nat.le_trans Z7 gad_15
      have sz_ad15 : h0.size ≤ ad15 := Nat.le_trans K7.1 gad_15
      have ne_b2_fi15 : b2 ≠ fi15 := Nat.ne_of_lt (Nat.lt_of_lt_of_le Fa8.lt gfi_15)
      have ne_b4_fi15 : b4 ≠ fi15 := Nat.ne_of_lt (Nat.lt_of_lt_of_le Fa9.lt gfi_15)
      have ne_b7_fi15 : b7 ≠ fi15 := Nat.ne_of_lt (Nat.lt_of_lt_of_le A7.lt gfi_15)
      have g_fi15 : n0 ≤ fi15 := Nat.le_trans Z7 gfi_15
      have sz_fi15 : h0.size ≤ fi15 := Nat.le_trans K7.1 gfi_15
      refine goT (u' := T15.setTop (mkF m 275 #[.val (.int p0), .val (.int p1), .val (.int p2), .val (.int p3), .val (.int p4), .val (.int f0), .val (.int t0), .val (.int f1), .val (.int t1), .val (.int f2), .val (.int t2), .val (.int cc), .val (.ref b2), .val (.ref b4), .val (.int ac), .unset, .unset] [(.ref b7)])) st15 ?_
      refine go (u' := T15.setTop (mkF m 277 #[.val (.int p0), .val (.int p1), .val (.int p2), .val (.int p3), .val (.int p4), .val (.int f0), .val (.int t0), .val (.int f1), .val (.int t1), .val (.int f2), .val (.int t2), .val (.int cc), .val (.ref b2), .val (.ref b4), .val (.int ac), .val (.ref b7), .unset] [])) (fun _ ks_ => XS.astore X15.here hx rfl (hb hby at_275) rfl rfl (l' := #[.val (.int p0), .val (.int p1), .val (.int p2), .val (.int p3), .val (.int p4), .val (.int f0), .val (.int t0), .val (.int f1), .val (.int t1), .val (.int f2), .val (.int t2), .val (.int cc), .val (.ref b2), .val (.ref b4), .val (.int ac), .val (.ref b7), .unset]) rfl ks_) ?_
      refine go (u' := T15.setTop (mkF m 279 #[.val (.int p0), .val (.int p1), .val (.int p2), .val (.int p3), .val (.int p4), .val (.int f0), .val (.int t0), .val (.int f1), .val (.int t1), .val (.int f2), .val (.int t2), .val (.int cc), .val (.ref b2), .val (.ref b4), .val (.int ac), .val (.ref b7), .unset] [(.int ac)])) (fun _ ks_ => XS.iload X15.here hx rfl (hb hby at_277) rfl  ks_) ?_
      have J326_2 : ∀ v326_2 : Int32, v326_2 = (B ((¬ (ac < (0 : Int32))) ∧ (((cc < (1 : Int32)) ∧ (((cc < (2 : Int32)) ∧ ((¬ (cc < (3 : Int32))) ∧ (t2 = ac))) ∨ ((¬ (cc < (2 : Int32))) ∧ ((t1 = ac) ∨ ((¬ (cc < (3 : Int32))) ∧ (t2 = ac)))))) ∨ ((¬ (cc < (1 : Int32))) ∧ ((t0 = ac) ∨ (((cc < (2 : Int32)) ∧ ((¬ (cc < (3 : Int32))) ∧ (t2 = ac))) ∨ ((¬ (cc < (2 : Int32))) ∧ ((t1 = ac) ∨ ((¬ (cc < (3 : Int32))) ∧ (t2 = ac)))))))))) → Go p.tables e below G (T15.setTop (mkF m 326 #[.val (.int p0), .val (.int p1), .val (.int p2), .val (.int p3), .val (.int p4), .val (.int f0), .val (.int t0), .val (.int f1), .val (.int t1), .val (.int f2), .val (.int t2), .val (.int cc), .val (.ref b2), .val (.ref b4), .val (.int ac), .val (.ref b7), .unset] [(.int v326_2)])) := by
        intro v326_2 hv326_2
        subst hv326_2
        refine go (u' := T15.setTop (mkF m 328 #[.val (.int p0), .val (.int p1), .val (.int p2), .val (.int p3), .val (.int p4), .val (.int f0), .val (.int t0), .val (.int f1), .val (.int t1), .val (.int f2), .val (.int t2), .val (.int cc), .val (.ref b2), .val (.ref b4), .val (.int ac), .val (.ref b7), .val (.int (B ((¬ (ac < (0 : Int32))) ∧ (((cc < (1 : Int32)) ∧ (((cc < (2 : Int32)) ∧ ((¬ (cc < (3 : Int32))) ∧ (t2 = ac))) ∨ ((¬ (cc < (2 : Int32))) ∧ ((t1 = ac) ∨ ((¬ (cc < (3 : Int32))) ∧ (t2 = ac)))))) ∨ ((¬ (cc < (1 : Int32))) ∧ ((t0 = ac) ∨ (((cc < (2 : Int32)) ∧ ((¬ (cc < (3 : Int32))) ∧ (t2 = ac))) ∨ ((¬ (cc < (2 : Int32))) ∧ ((t1 = ac) ∨ ((¬ (cc < (3 : Int32))) ∧ (t2 = ac)))))))))))] [])) (fun _ ks_ => XS.istore X15.here hx rfl (hb hby at_326) rfl  (l' := #[.val (.int p0), .val (.int p1), .val (.int p2), .val (.int p3), .val (.int p4), .val (.int f0), .val (.int t0), .val (.int f1), .val (.int t1), .val (.int f2), .val (.int t2), .val (.int cc), .val (.ref b2), .val (.ref b4), .val (.int ac), .val (.ref b7), .val (.int (B ((¬ (ac < (0 : Int32))) ∧ (((cc < (1 : Int32)) ∧ (((cc < (2 : Int32)) ∧ ((¬ (cc < (3 : Int32))) ∧ (t2 = ac))) ∨ ((¬ (cc < (2 : Int32))) ∧ ((t1 = ac) ∨ ((¬ (cc < (3 : Int32))) ∧ (t2 = ac)))))) ∨ ((¬ (cc < (1 : Int32))) ∧ ((t0 = ac) ∨ (((cc < (2 : Int32)) ∧ ((¬ (cc < (3 : Int32))) ∧ (t2 = ac))) ∨ ((¬ (cc < (2 : Int32))) ∧ ((t1 = ac) ∨ ((¬ (cc < (3 : Int32))) ∧ (t2 = ac)))))))))))]) rfl ks_) ?_
        refine go (u' := T15.setTop (mkF m 330 #[.val (.int p0), .val (.int p1), .val (.int p2), .val (.int p3), .val (.int p4), .val (.int f0), .val (.int t0), .val (.int f1), .val (.int t1), .val (.int f2), .val (.int t2), .val (.int cc), .val (.ref b2), .val (.ref b4), .val (.int ac), .val (.ref b7), .val (.int (B ((¬ (ac < (0 : Int32))) ∧ (((cc < (1 : Int32)) ∧ (((cc < (2 : Int32)) ∧ ((¬ (cc < (3 : Int32))) ∧ (t2 = ac))) ∨ ((¬ (cc < (2 : Int32))) ∧ ((t1 = ac) ∨ ((¬ (cc < (3 : Int32))) ∧ (t2 = ac)))))) ∨ ((¬ (cc < (1 : Int32))) ∧ ((t0 = ac) ∨ (((cc < (2 : Int32)) ∧ ((¬ (cc < (3 : Int32))) ∧ (t2 = ac))) ∨ ((¬ (cc < (2 : Int32))) ∧ ((t1 = ac) ∨ ((¬ (cc < (3 : Int32))) ∧ (t2 = ac)))))))))))] [(.ref b7)])) (fun _ ks_ => XS.aload X15.here hx rfl (hb hby at_328) rfl rfl ks_) ?_
        refine go (u' := T15.setTop (mkF m 332 #[.val (.int p0), .val (.int p1), .val (.int p2), .val (.int p3), .val (.int p4), .val (.int f0), .val (.int t0), .val (.int f1), .val (.int t1), .val (.int f2), .val (.int t2), .val (.int cc), .val (.ref b2), .val (.ref b4), .val (.int ac), .val (.ref b7), .val (.int (B ((¬ (ac < (0 : Int32))) ∧ (((cc < (1 : Int32)) ∧ (((cc < (2 : Int32)) ∧ ((¬ (cc < (3 : Int32))) ∧ (t2 = ac))) ∨ ((¬ (cc < (2 : Int32))) ∧ ((t1 = ac) ∨ ((¬ (cc < (3 : Int32))) ∧ (t2 = ac)))))) ∨ ((¬ (cc < (1 : Int32))) ∧ ((t0 = ac) ∨ (((cc < (2 : Int32)) ∧ ((¬ (cc < (3 : Int32))) ∧ (t2 = ac))) ∨ ((¬ (cc < (2 : Int32))) ∧ ((t1 = ac) ∨ ((¬ (cc < (3 : Int32))) ∧ (t2 = ac)))))))))))] [(.int ac), (.ref b7)])) (fun _ ks_ => XS.iload X15.here hx rfl (hb hby at_330) rfl  ks_) ?_
        obtain ⟨cq24, kq24, q24a, q24b, q24c⟩ := isOf hZ (rfl : T15.heap = _) Fa16
        obtain ⟨_, _, ⟨T24, L24, k24, n24⟩, -, X24, ⟨Lc24, hQ24, l24, y24, z24⟩, st24⟩ := X15.virtualBack hx (y := (⟨"com/example/traceweave/traceweave/pattern/NumberedPattern", "isEntered", "(I)Z"⟩ : MethodName)) (z := (⟨"com/example/traceweave/traceweave/pattern/NumberedPattern", "isEntered", "(I)Z"⟩ : MethodName)) hown (mvT hZ (ww hw 85 rfl)) (mvT hZ (ww hw 86 rfl)) (notFace_of_selects (args := #[]) (mvT hZ (ww hw 88 rfl))) (mvT hZ (ww hw 88 rfl)) (mvT hZ (ww hw 87 rfl)) (by decide) (backOf (W := 0) (rm15 l Z a0 hw [] b7 ac ad15 fi15 (ps2 (cn1 (own_l []) 0) 3) T15.heap n0 Z15 Fa17 Fa18 Fa19 Fa20 hac'.2) hZ (ww hw 89 rfl) (ww hw 4 rfl) (by decide) (by decide)) q24a q24c (g := (mkF m 332 #[.val (.int p0), .val (.int p1), .val (.int p2), .val (.int p3), .val (.int p4), .val (.int f0), .val (.int t0), .val (.int f1), .val (.int t1), .val (.int f2), .val (.int t2), .val (.int cc), .val (.ref b2), .val (.ref b4), .val (.int ac), .val (.ref b7), .val (.int (B ((¬ (ac < (0 : Int32))) ∧ (((cc < (1 : Int32)) ∧ (((cc < (2 : Int32)) ∧ ((¬ (cc < (3 : Int32))) ∧ (t2 = ac))) ∨ ((¬ (cc < (2 : Int32))) ∧ ((t1 = ac) ∨ ((¬ (cc < (3 : Int32))) ∧ (t2 = ac)))))) ∨ ((¬ (cc < (1 : Int32))) ∧ ((t0 = ac) ∨ (((cc < (2 : Int32)) ∧ ((¬ (cc < (3 : Int32))) ∧ (t2 = ac))) ∨ ((¬ (cc < (2 : Int32))) ∧ ((t1 = ac) ∨ ((¬ (cc < (3 : Int32))) ∧ (t2 = ac)))))))))))] [(.int ac), (.ref b7)])) rfl (by rw [hml]; rfl) (Steps.refl _) (argsL := [(.int ac)]) (rest := []) (lenOf pd__40_I_41_Z rfl) rfl (by show 2 * 0 + _ ≤ _; exact Nat.le_of_eq rfl) (hb hby at_332) (fun _ _ => ⟨rfl, (rfl : T15.heap = _), (by decide : 15 + 0 ≤ _), (by decide : 37 + 0 ≤ _)⟩)
        dsimp only [Pt.U, Pt.locs, Pt.cells, Pt.slots] at X24 l24 y24 z24 st24 hQ24
        subst l24 y24 z24
        obtain ⟨rfl, N24q, eq24⟩ := hQ24
        have N24 := Fr.app N15 N24q
        refine goT (u' := T24.setTop (mkF m 335 #[.val (.int p0), .val (.int p1), .val (.int p2), .val (.int p3), .val (.int p4), .val (.int f0), .val (.int t0), .val (.int f1), .val (.int t1), .val (.int f2), .val (.int t2), .val (.int cc), .val (.ref b2), .val (.ref b4), .val (.int ac), .val (.ref b7), .val (.int (B ((¬ (ac < (0 : Int32))) ∧ (((cc < (1 : Int32)) ∧ (((cc < (2 : Int32)) ∧ ((¬ (cc < (3 : Int32))) ∧ (t2 = ac))) ∨ ((¬ (cc < (2 : Int32))) ∧ ((t1 = ac) ∨ ((¬ (cc < (3 : Int32))) ∧ (t2 = ac)))))) ∨ ((¬ (cc < (1 : Int32))) ∧ ((t0 = ac) ∨ (((cc < (2 : Int32)) ∧ ((¬ (cc < (3 : Int32))) ∧ (t2 = ac))) ∨ ((¬ (cc < (2 : Int32))) ∧ ((t1 = ac) ∨ ((¬ (cc < (3 : Int32))) ∧ (t2 = ac)))))))))))] [(.int (B ((¬ (ac < (0 : Int32))) ∧ (¬ ((((ps2 (cn1 (own_l []) 0) 3) ac.toNatClampNeg) = ((ps2 (cn1 (own_l []) 0) 3) (ac + (1 : Int32)).toNatClampNeg)))))))])) st24 ?_
        refine go (u' := T24.setTop (mkF m 337 #[.val (.int p0), .val (.int p1), .val (.int p2), .val (.int p3), .val (.int p4), .val (.int f0), .val (.int t0), .val (.int f1), .val (.int t1), .val (.int f2), .val (.int t2), .val (.int cc), .val (.ref b2), .val (.ref b4), .val (.int ac), .val (.ref b7), .val (.int (B ((¬ (ac < (0 : Int32))) ∧ (((cc < (1 : Int32)) ∧ (((cc < (2 : Int32)) ∧ ((¬ (cc < (3 : Int32))) ∧ (t2 = ac))) ∨ ((¬ (cc < (2 : Int32))) ∧ ((t1 = ac) ∨ ((¬ (cc < (3 : Int32))) ∧ (t2 = ac)))))) ∨ ((¬ (cc < (1 : Int32))) ∧ ((t0 = ac) ∨ (((cc < (2 : Int32)) ∧ ((¬ (cc < (3 : Int32))) ∧ (t2 = ac))) ∨ ((¬ (cc < (2 : Int32))) ∧ ((t1 = ac) ∨ ((¬ (cc < (3 : Int32))) ∧ (t2 = ac)))))))))))] [(.int (B ((¬ (ac < (0 : Int32))) ∧ (((cc < (1 : Int32)) ∧ (((cc < (2 : Int32)) ∧ ((¬ (cc < (3 : Int32))) ∧ (t2 = ac))) ∨ ((¬ (cc < (2 : Int32))) ∧ ((t1 = ac) ∨ ((¬ (cc < (3 : Int32))) ∧ (t2 = ac)))))) ∨ ((¬ (cc < (1 : Int32))) ∧ ((t0 = ac) ∨ (((cc < (2 : Int32)) ∧ ((¬ (cc < (3 : Int32))) ∧ (t2 = ac))) ∨ ((¬ (cc < (2 : Int32))) ∧ ((t1 = ac) ∨ ((¬ (cc < (3 : Int32))) ∧ (t2 = ac))))))))))), (.int (B ((¬ (ac < (0 : Int32))) ∧ (¬ ((((ps2 (cn1 (own_l []) 0) 3) ac.toNatClampNeg) = ((ps2 (cn1 (own_l []) 0) 3) (ac + (1 : Int32)).toNatClampNeg)))))))])) (fun _ ks_ => XS.iload X24.here hx rfl (hb hby at_335) rfl  ks_) ?_
        refine go (u' := T24.setTop (mkF m 340 #[.val (.int p0), .val (.int p1), .val (.int p2), .val (.int p3), .val (.int p4), .val (.int f0), .val (.int t0), .val (.int f1), .val (.int t1), .val (.int f2), .val (.int t2), .val (.int cc), .val (.ref b2), .val (.ref b4), .val (.int ac), .val (.ref b7), .val (.int (B ((¬ (ac < (0 : Int32))) ∧ (((cc < (1 : Int32)) ∧ (((cc < (2 : Int32)) ∧ ((¬ (cc < (3 : Int32))) ∧ (t2 = ac))) ∨ ((¬ (cc < (2 : Int32))) ∧ ((t1 = ac) ∨ ((¬ (cc < (3 : Int32))) ∧ (t2 = ac)))))) ∨ ((¬ (cc < (1 : Int32))) ∧ ((t0 = ac) ∨ (((cc < (2 : Int32)) ∧ ((¬ (cc < (3 : Int32))) ∧ (t2 = ac))) ∨ ((¬ (cc < (2 : Int32))) ∧ ((t1 = ac) ∨ ((¬ (cc < (3 : Int32))) ∧ (t2 = ac)))))))))))] [])) (fun _ ks_ => XS.icmpNo X24.here hx rfl (hb hby at_337) rfl (teq (show (B ((¬ (ac < (0 : Int32))) ∧ (¬ ((((ps2 (cn1 (own_l []) 0) 3) ac.toNatClampNeg) = ((ps2 (cn1 (own_l []) 0) 3) (ac + (1 : Int32)).toNatClampNeg)))))) = (B ((¬ (ac < (0 : Int32))) ∧ (((cc < (1 : Int32)) ∧ (((cc < (2 : Int32)) ∧ ((¬ (cc < (3 : Int32))) ∧ (t2 = ac))) ∨ ((¬ (cc < (2 : Int32))) ∧ ((t1 = ac) ∨ ((¬ (cc < (3 : Int32))) ∧ (t2 = ac)))))) ∨ ((¬ (cc < (1 : Int32))) ∧ ((t0 = ac) ∨ (((cc < (2 : Int32)) ∧ ((¬ (cc < (3 : Int32))) ∧ (t2 = ac))) ∨ ((¬ (cc < (2 : Int32))) ∧ ((t1 = ac) ∨ ((¬ (cc < (3 : Int32))) ∧ (t2 = ac)))))))))) from (B_iff (own_fin0 cc ac f0 t0 f1 t1 f2 t2 c128_1 hac')))).2 ks_) ?_
        refine go (u' := T24.setTop (mkF m 341 #[.val (.int p0), .val (.int p1), .val (.int p2), .val (.int p3), .val (.int p4), .val (.int f0), .val (.int t0), .val (.int f1), .val (.int t1), .val (.int f2), .val (.int t2), .val (.int cc), .val (.ref b2), .val (.ref b4), .val (.int ac), .val (.ref b7), .val (.int (B ((¬ (ac < (0 : Int32))) ∧ (((cc < (1 : Int32)) ∧ (((cc < (2 : Int32)) ∧ ((¬ (cc < (3 : Int32))) ∧ (t2 = ac))) ∨ ((¬ (cc < (2 : Int32))) ∧ ((t1 = ac) ∨ ((¬ (cc < (3 : Int32))) ∧ (t2 = ac)))))) ∨ ((¬ (cc < (1 : Int32))) ∧ ((t0 = ac) ∨ (((cc < (2 : Int32)) ∧ ((¬ (cc < (3 : Int32))) ∧ (t2 = ac))) ∨ ((¬ (cc < (2 : Int32))) ∧ ((t1 = ac) ∨ ((¬ (cc < (3 : Int32))) ∧ (t2 = ac)))))))))))] [(.int (1 : Int32))])) (fun _ ks_ => XS.iconst X24.here hx rfl (hb hby at_340) ks_) ?_
        refine go (u' := T24.setTop (mkF m 345 #[.val (.int p0), .val (.int p1), .val (.int p2), .val (.int p3), .val (.int p4), .val (.int f0), .val (.int t0), .val (.int f1), .val (.int t1), .val (.int f2), .val (.int t2), .val (.int cc), .val (.ref b2), .val (.ref b4), .val (.int ac), .val (.ref b7), .val (.int (B ((¬ (ac < (0 : Int32))) ∧ (((cc < (1 : Int32)) ∧ (((cc < (2 : Int32)) ∧ ((¬ (cc < (3 : Int32))) ∧ (t2 = ac))) ∨ ((¬ (cc < (2 : Int32))) ∧ ((t1 = ac) ∨ ((¬ (cc < (3 : Int32))) ∧ (t2 = ac)))))) ∨ ((¬ (cc < (1 : Int32))) ∧ ((t0 = ac) ∨ (((cc < (2 : Int32)) ∧ ((¬ (cc < (3 : Int32))) ∧ (t2 = ac))) ∨ ((¬ (cc < (2 : Int32))) ∧ ((t1 = ac) ∨ ((¬ (cc < (3 : Int32))) ∧ (t2 = ac)))))))))))] [(.int (1 : Int32))])) (fun _ ks_ => XS.goto X24.here hx rfl (pc0 := 341) (pc' := 345) rfl (hb hby at_341) (by decide) (by decide) ks_) ?_
        rw [hG]
        refine gN X24 hx hlk (t := .boolean) hret (by simp) rfl (hb hby at_345) ?_ (Nat.le_of_ble_eq_true rfl) (Nat.le_of_ble_eq_true rfl)
        show Q_rm0 Z p0 p1 p2 p3 p4 h0 n0 (some (.int (1 : Int32))) T24.heap _
        rw [eq24]
        exact ⟨rfl, N24⟩
      by_cases c279_2 : ac < (0 : Int32)
      ·
        refine go (u' := T15.setTop (mkF m 325 #[.val (.int p0), .val (.int p1), .val (.int p2), .val (.int p3), .val (.int p4), .val (.int f0), .val (.int t0), .val (.int f1), .val (.int t1), .val (.int f2), .val (.int t2), .val (.int cc), .val (.ref b2), .val (.ref b4), .val (.int ac), .val (.ref b7), .unset] [])) (fun _ ks_ => XS.ifYes X15.here hx rfl (pc0 := 279) (pc' := 325) rfl (hb hby at_279) rfl ((if0 _ _).trans (tlt c279_2).1) (by decide) (by decide) ks_) ?_
        refine go (u' := T15.setTop (mkF m 326 #[.val (.int p0), .val (.int p1), .val (.int p2), .val (.int p3), .val (.int p4), .val (.int f0), .val (.int t0), .val (.int f1), .val (.int t1), .val (.int f2), .val (.int t2), .val (.int cc), .val (.ref b2), .val (.ref b4), .val (.int ac), .val (.ref b7), .unset] [(.int (0 : Int32))])) (fun _ ks_ => XS.iconst X15.here hx rfl (hb hby at_325) ks_) ?_
        exact J326_2 _ (B0 (fun q => (fun q => q c279_2) q.1))
      ·
        refine go (u' := T15.setTop (mkF m 282 #[.val (.int p0), .val (.int p1), .val (.int p2), .val (.int p3), .val (.int p4), .val (.int f0), .val (.int t0), .val (.int f1), .val (.int t1), .val (.int f2), .val (.int t2), .val (.int cc), .val (.ref b2), .val (.ref b4), .val (.int ac), .val (.ref b7), .unset] [])) (fun _ ks_ => XS.ifNo X15.here hx rfl (hb hby at_279) rfl ((if0 _ _).trans (flt c279_2).1) ks_) ?_
        refine go (u' := T15.setTop (mkF m 284 #[.val (.int p0), .val (.int p1), .val (.int p2), .val (.int p3), .val (.int p4), .val (.int f0), .val (.int t0), .val (.int f1), .val (.int t1), .val (.int f2), .val (.int t2), .val (.int cc), .val (.ref b2), .val (.ref b4), .val (.int ac), .val (.ref b7), .unset] [(.int cc)])) (fun _ ks_ => XS.iload X15.here hx rfl (hb hby at_282) rfl  ks_) ?_
        refine go (u' := T15.setTop (mkF m 285 #[.val (.int p0), .val (.int p1), .val (.int p2), .val (.int p3), .val (.int p4), .val (.int f0), .val (.int t0), .val (.int f1), .val (.int t1), .val (.int f2), .val (.int t2), .val (.int cc), .val (.ref b2), .val (.ref b4), .val (.int ac), .val (.ref b7), .unset] [(.int (1 : Int32)), (.int cc)])) (fun _ ks_ => XS.iconst X15.here hx rfl (hb hby at_284) ks_) ?_
        by_cases c285_3 : cc < (1 : Int32)
        ·
          refine go (u' := T15.setTop (mkF m 295 #[.val (.int p0), .val (.int p1), .val (.int p2), .val (.int p3), .val (.int p4), .val (.int f0), .val (.int t0), .val (.int f1), .val (.int t1), .val (.int f2), .val (.int t2), .val (.int cc), .val (.ref b2), .val (.ref b4), .val (.int ac), .val (.ref b7), .unset] [])) (fun _ ks_ => XS.icmpYes X15.here hx rfl (pc0 := 285) (pc' := 295) rfl (hb hby at_285) rfl (tlt c285_3).1 (by decide) (by decide) ks_) ?_
          refine go (u' := T15.setTop (mkF m 297 #[.val (.int p0), .val (.int p1), .val (.int p2), .val (.int p3), .val (.int p4), .val (.int f0), .val (.int t0), .val (.int f1), .val (.int t1), .val (.int f2), .val (.int t2), .val (.int cc), .val (.ref b2), .val (.ref b4), .val (.int ac), .val (.ref b7), .unset] [(.int cc)])) (fun _ ks_ => XS.iload X15.here hx rfl (hb hby at_295) rfl  ks_) ?_
          refine go (u' := T15.setTop (mkF m 298 #[.val (.int p0), .val (.int p1), .val (.int p2), .val (.int p3), .val (.int p4), .val (.int f0), .val (.int t0), .val (.int f1), .val (.int t1), .val (.int f2), .val (.int t2), .val (.int cc), .val (.ref b2), .val (.ref b4), .val (.int ac), .val (.ref b7), .unset] [(.int (2 : Int32)), (.int cc)])) (fun _ ks_ => XS.iconst X15.here hx rfl (hb hby at_297) ks_) ?_
          by_cases c298_4 : cc < (2 : Int32)
          ·
            refine go (u' := T15.setTop (mkF m 308 #[.val (.int p0), .val (.int p1), .val (.int p2), .val (.int p3), .val (.int p4), .val (.int f0), .val (.int t0), .val (.int f1), .val (.int t1), .val (.int f2), .val (.int t2), .val (.int cc), .val (.ref b2), .val (.ref b4), .val (.int ac), .val (.ref b7), .unset] [])) (fun _ ks_ => XS.icmpYes X15.here hx rfl (pc0 := 298) (pc' := 308) rfl (hb hby at_298) rfl (tlt c298_4).1 (by decide) (by decide) ks_) ?_
            refine go (u' := T15.setTop (mkF m 310 #[.val (.int p0), .val (.int p1), .val (.int p2), .val (.int p3), .val (.int p4), .val (.int f0), .val (.int t0), .val (.int f1), .val (.int t1), .val (.int f2), .val (.int t2), .val (.int cc), .val (.ref b2), .val (.ref b4), .val (.int ac), .val (.ref b7), .unset] [(.int cc)])) (fun _ ks_ => XS.iload X15.here hx rfl (hb hby at_308) rfl  ks_) ?_
            refine go (u' := T15.setTop (mkF m 311 #[.val (.int p0), .val (.int p1), .val (.int p2), .val (.int p3), .val (.int p4), .val (.int f0), .val (.int t0), .val (.int f1), .val (.int t1), .val (.int f2), .val (.int t2), .val (.int cc), .val (.ref b2), .val (.ref b4), .val (.int ac), .val (.ref b7), .unset] [(.int (3 : Int32)), (.int cc)])) (fun _ ks_ => XS.iconst X15.here hx rfl (hb hby at_310) ks_) ?_
            by_cases c311_5 : cc < (3 : Int32)
            ·
              refine go (u' := T15.setTop (mkF m 325 #[.val (.int p0), .val (.int p1), .val (.int p2), .val (.int p3), .val (.int p4), .val (.int f0), .val (.int t0), .val (.int f1), .val (.int t1), .val (.int f2), .val (.int t2), .val (.int cc), .val (.ref b2), .val (.ref b4), .val (.int ac), .val (.ref b7), .unset] [])) (fun _ ks_ => XS.icmpYes X15.here hx rfl (pc0 := 311) (pc' := 325) rfl (hb hby at_311) rfl (tlt c311_5).1 (by decide) (by decide) ks_) ?_
              refine go (u' := T15.setTop (mkF m 326 #[.val (.int p0), .val (.int p1), .val (.int p2), .val (.int p3), .val (.int p4), .val (.int f0), .val (.int t0), .val (.int f1), .val (.int t1), .val (.int f2), .val (.int t2), .val (.int cc), .val (.ref b2), .val (.ref b4), .val (.int ac), .val (.ref b7), .unset] [(.int (0 : Int32))])) (fun _ ks_ => XS.iconst X15.here hx rfl (hb hby at_325) ks_) ?_
              exact J326_2 _ (B0 (fun q => (fun q => q.elim (fun q => (fun q => q.elim (fun q => (fun q => (fun q => q c311_5) q.1) q.2) (fun q => (fun q => q c298_4) q.1)) q.2) (fun q => (fun q => q c285_3) q.1)) q.2))
            ·
              refine go (u' := T15.setTop (mkF m 314 #[.val (.int p0), .val (.int p1), .val (.int p2), .val (.int p3), .val (.int p4), .val (.int f0), .val (.int t0), .val (.int f1), .val (.int t1), .val (.int f2), .val (.int t2), .val (.int cc), .val (.ref b2), .val (.ref b4), .val (.int ac), .val (.ref b7), .unset] [])) (fun _ ks_ => XS.icmpNo X15.here hx rfl (hb hby at_311) rfl (flt c311_5).1 ks_) ?_
              refine go (u' := T15.setTop (mkF m 316 #[.val (.int p0), .val (.int p1), .val (.int p2), .val (.int p3), .val (.int p4), .val (.int f0), .val (.int t0), .val (.int f1), .val (.int t1), .val (.int f2), .val (.int t2), .val (.int cc), .val (.ref b2), .val (.ref b4), .val (.int ac), .val (.ref b7), .unset] [(.int t2)])) (fun _ ks_ => XS.iload X15.here hx rfl (hb hby at_314) rfl  ks_) ?_
              refine go (u' := T15.setTop (mkF m 318 #[.val (.int p0), .val (.int p1), .val (.int p2), .val (.int p3), .val (.int p4), .val (.int f0), .val (.int t0), .val (.int f1), .val (.int t1), .val (.int f2), .val (.int t2), .val (.int cc), .val (.ref b2), .val (.ref b4), .val (.int ac), .val (.ref b7), .unset] [(.int ac), (.int t2)])) (fun _ ks_ => XS.iload X15.here hx rfl (hb hby at_316) rfl  ks_) ?_
              by_cases c318_6 : t2 = ac
              ·
                refine go (u' := T15.setTop (mkF m 321 #[.val (.int p0), .val (.int p1), .val (.int p2), .val (.int p3), .val (.int p4), .val (.int f0), .val (.int t0), .val (.int f1), .val (.int t1), .val (.int f2), .val (.int t2), .val (.int cc), .val (.ref b2), .val (.ref b4), .val (.int ac), .val (.ref b7), .unset] [])) (fun _ ks_ => XS.icmpNo X15.here hx rfl (hb hby at_318) rfl (teq c318_6).2 ks_) ?_
                refine go (u' := T15.setTop (mkF m 322 #[.val (.int p0), .val (.int p1), .val (.int p2), .val (.int p3), .val (.int p4), .val (.int f0), .val (.int t0), .val (.int f1), .val (.int t1), .val (.int f2), .val (.int t2), .val (.int cc), .val (.ref b2), .val (.ref b4), .val (.int ac), .val (.ref b7), .unset] [(.int (1 : Int32))])) (fun _ ks_ => XS.iconst X15.here hx rfl (hb hby at_321) ks_) ?_
                refine go (u' := T15.setTop (mkF m 326 #[.val (.int p0), .val (.int p1), .val (.int p2), .val (.int p3), .val (.int p4), .val (.int f0), .val (.int t0), .val (.int f1), .val (.int t1), .val (.int f2), .val (.int t2), .val (.int cc), .val (.ref b2), .val (.ref b4), .val (.int ac), .val (.ref b7), .unset] [(.int (1 : Int32))])) (fun _ ks_ => XS.goto X15.here hx rfl (pc0 := 322) (pc' := 326) rfl (hb hby at_322) (by decide) (by decide) ks_) ?_
                exact J326_2 _ (B1 ⟨c279_2, (Or.inl ⟨c285_3, (Or.inl ⟨c298_4, ⟨c311_5, c318_6⟩⟩)⟩)⟩)
              ·
                refine go (u' := T15.setTop (mkF m 325 #[.val (.int p0), .val (.int p1), .val (.int p2), .val (.int p3), .val (.int p4), .val (.int f0), .val (.int t0), .val (.int f1), .val (.int t1), .val (.int f2), .val (.int t2), .val (.int cc), .val (.ref b2), .val (.ref b4), .val (.int ac), .val (.ref b7), .unset] [])) (fun _ ks_ => XS.icmpYes X15.here hx rfl (pc0 := 318) (pc' := 325) rfl (hb hby at_318) rfl (feq c318_6).2 (by decide) (by decide) ks_) ?_
                refine go (u' := T15.setTop (mkF m 326 #[.val (.int p0), .val (.int p1), .val (.int p2), .val (.int p3), .val (.int p4), .val (.int f0), .val (.int t0), .val (.int f1), .val (.int t1), .val (.int f2), .val (.int t2), .val (.int cc), .val (.ref b2), .val (.ref b4), .val (.int ac), .val (.ref b7), .unset] [(.int (0 : Int32))])) (fun _ ks_ => XS.iconst X15.here hx rfl (hb hby at_325) ks_) ?_
                exact J326_2 _ (B0 (fun q => (fun q => q.elim (fun q => (fun q => q.elim (fun q => (fun q => c318_6 q.2) q.2) (fun q => (fun q => q c298_4) q.1)) q.2) (fun q => (fun q => q c285_3) q.1)) q.2))
          ·
            refine go (u' := T15.setTop (mkF m 301 #[.val (.int p0), .val (.int p1), .val (.int p2), .val (.int p3), .val (.int p4), .val (.int f0), .val (.int t0), .val (.int f1), .val (.int t1), .val (.int f2), .val (.int t2), .val (.int cc), .val (.ref b2), .val (.ref b4), .val (.int ac), .val (.ref b7), .unset] [])) (fun _ ks_ => XS.icmpNo X15.here hx rfl (hb hby at_298) rfl (flt c298_4).1 ks_) ?_
            refine go (u' := T15.setTop (mkF m 303 #[.val (.int p0), .val (.int p1), .val (.int p2), .val (.int p3), .val (.int p4), .val (.int f0), .val (.int t0), .val (.int f1), .val (.int t1), .val (.int f2), .val (.int t2), .val (.int cc), .val (.ref b2), .val (.ref b4), .val (.int ac), .val (.ref b7), .unset] [(.int t1)])) (fun _ ks_ => XS.iload X15.here hx rfl (hb hby at_301) rfl  ks_) ?_
            refine go (u' := T15.setTop (mkF m 305 #[.val (.int p0), .val (.int p1), .val (.int p2), .val (.int p3), .val (.int p4), .val (.int f0), .val (.int t0), .val (.int f1), .val (.int t1), .val (.int f2), .val (.int t2), .val (.int cc), .val (.ref b2), .val (.ref b4), .val (.int ac), .val (.ref b7), .unset] [(.int ac), (.int t1)])) (fun _ ks_ => XS.iload X15.here hx rfl (hb hby at_303) rfl  ks_) ?_
            by_cases c305_7 : t1 = ac
            ·
              refine go (u' := T15.setTop (mkF m 321 #[.val (.int p0), .val (.int p1), .val (.int p2), .val (.int p3), .val (.int p4), .val (.int f0), .val (.int t0), .val (.int f1), .val (.int t1), .val (.int f2), .val (.int t2), .val (.int cc), .val (.ref b2), .val (.ref b4), .val (.int ac), .val (.ref b7), .unset] [])) (fun _ ks_ => XS.icmpYes X15.here hx rfl (pc0 := 305) (pc' := 321) rfl (hb hby at_305) rfl (teq c305_7).1 (by decide) (by decide) ks_) ?_
              refine go (u' := T15.setTop (mkF m 322 #[.val (.int p0), .val (.int p1), .val (.int p2), .val (.int p3), .val (.int p4), .val (.int f0), .val (.int t0), .val (.int f1), .val (.int t1), .val (.int f2), .val (.int t2), .val (.int cc), .val (.ref b2), .val (.ref b4), .val (.int ac), .val (.ref b7), .unset] [(.int (1 : Int32))])) (fun _ ks_ => XS.iconst X15.here hx rfl (hb hby at_321) ks_) ?_
              refine go (u' := T15.setTop (mkF m 326 #[.val (.int p0), .val (.int p1), .val (.int p2), .val (.int p3), .val (.int p4), .val (.int f0), .val (.int t0), .val (.int f1), .val (.int t1), .val (.int f2), .val (.int t2), .val (.int cc), .val (.ref b2), .val (.ref b4), .val (.int ac), .val (.ref b7), .unset] [(.int (1 : Int32))])) (fun _ ks_ => XS.goto X15.here hx rfl (pc0 := 322) (pc' := 326) rfl (hb hby at_322) (by decide) (by decide) ks_) ?_
              exact J326_2 _ (B1 ⟨c279_2, (Or.inl ⟨c285_3, (Or.inr ⟨c298_4, (Or.inl c305_7)⟩)⟩)⟩)
            ·
              refine go (u' := T15.setTop (mkF m 308 #[.val (.int p0), .val (.int p1), .val (.int p2), .val (.int p3), .val (.int p4), .val (.int f0), .val (.int t0), .val (.int f1), .val (.int t1), .val (.int f2), .val (.int t2), .val (.int cc), .val (.ref b2), .val (.ref b4), .val (.int ac), .val (.ref b7), .unset] [])) (fun _ ks_ => XS.icmpNo X15.here hx rfl (hb hby at_305) rfl (feq c305_7).1 ks_) ?_
              refine go (u' := T15.setTop (mkF m 310 #[.val (.int p0), .val (.int p1), .val (.int p2), .val (.int p3), .val (.int p4), .val (.int f0), .val (.int t0), .val (.int f1), .val (.int t1), .val (.int f2), .val (.int t2), .val (.int cc), .val (.ref b2), .val (.ref b4), .val (.int ac), .val (.ref b7), .unset] [(.int cc)])) (fun _ ks_ => XS.iload X15.here hx rfl (hb hby at_308) rfl  ks_) ?_
              refine go (u' := T15.setTop (mkF m 311 #[.val (.int p0), .val (.int p1), .val (.int p2), .val (.int p3), .val (.int p4), .val (.int f0), .val (.int t0), .val (.int f1), .val (.int t1), .val (.int f2), .val (.int t2), .val (.int cc), .val (.ref b2), .val (.ref b4), .val (.int ac), .val (.ref b7), .unset] [(.int (3 : Int32)), (.int cc)])) (fun _ ks_ => XS.iconst X15.here hx rfl (hb hby at_310) ks_) ?_
              by_cases c311_8 : cc < (3 : Int32)
              ·
                refine go (u' := T15.setTop (mkF m 325 #[.val (.int p0), .val (.int p1), .val (.int p2), .val (.int p3), .val (.int p4), .val (.int f0), .val (.int t0), .val (.int f1), .val (.int t1), .val (.int f2), .val (.int t2), .val (.int cc), .val (.ref b2), .val (.ref b4), .val (.int ac), .val (.ref b7), .unset] [])) (fun _ ks_ => XS.icmpYes X15.here hx rfl (pc0 := 311) (pc' := 325) rfl (hb hby at_311) rfl (tlt c311_8).1 (by decide) (by decide) ks_) ?_
                refine go (u' := T15.setTop (mkF m 326 #[.val (.int p0), .val (.int p1), .val (.int p2), .val (.int p3), .val (.int p4), .val (.int f0), .val (.int t0), .val (.int f1), .val (.int t1), .val (.int f2), .val (.int t2), .val (.int cc), .val (.ref b2), .val (.ref b4), .val (.int ac), .val (.ref b7), .unset] [(.int (0 : Int32))])) (fun _ ks_ => XS.iconst X15.here hx rfl (hb hby at_325) ks_) ?_
                exact J326_2 _ (B0 (fun q => (fun q => q.elim (fun q => (fun q => q.elim (fun q => c298_4 q.1) (fun q => (fun q => q.elim c305_7 (fun q => (fun q => q c311_8) q.1)) q.2)) q.2) (fun q => (fun q => q c285_3) q.1)) q.2))
              ·
                refine go (u' := T15.setTop (mkF m 314 #[.val (.int p0), .val (.int p1), .val (.int p2), .val (.int p3), .val (.int p4), .val (.int f0), .val (.int t0), .val (.int f1), .val (.int t1), .val (.int f2), .val (.int t2), .val (.int cc), .val (.ref b2), .val (.ref b4), .val (.int ac), .val (.ref b7), .unset] [])) (fun _ ks_ => XS.icmpNo X15.here hx rfl (hb hby at_311) rfl (flt c311_8).1 ks_) ?_
                refine go (u' := T15.setTop (mkF m 316 #[.val (.int p0), .val (.int p1), .val (.int p2), .val (.int p3), .val (.int p4), .val (.int f0), .val (.int t0), .val (.int f1), .val (.int t1), .val (.int f2), .val (.int t2), .val (.int cc), .val (.ref b2), .val (.ref b4), .val (.int ac), .val (.ref b7), .unset] [(.int t2)])) (fun _ ks_ => XS.iload X15.here hx rfl (hb hby at_314) rfl  ks_) ?_
                refine go (u' := T15.setTop (mkF m 318 #[.val (.int p0), .val (.int p1), .val (.int p2), .val (.int p3), .val (.int p4), .val (.int f0), .val (.int t0), .val (.int f1), .val (.int t1), .val (.int f2), .val (.int t2), .val (.int cc), .val (.ref b2), .val (.ref b4), .val (.int ac), .val (.ref b7), .unset] [(.int ac), (.int t2)])) (fun _ ks_ => XS.iload X15.here hx rfl (hb hby at_316) rfl  ks_) ?_
                by_cases c318_9 : t2 = ac
                ·
                  refine go (u' := T15.setTop (mkF m 321 #[.val (.int p0), .val (.int p1), .val (.int p2), .val (.int p3), .val (.int p4), .val (.int f0), .val (.int t0), .val (.int f1), .val (.int t1), .val (.int f2), .val (.int t2), .val (.int cc), .val (.ref b2), .val (.ref b4), .val (.int ac), .val (.ref b7), .unset] [])) (fun _ ks_ => XS.icmpNo X15.here hx rfl (hb hby at_318) rfl (teq c318_9).2 ks_) ?_
                  refine go (u' := T15.setTop (mkF m 322 #[.val (.int p0), .val (.int p1), .val (.int p2), .val (.int p3), .val (.int p4), .val (.int f0), .val (.int t0), .val (.int f1), .val (.int t1), .val (.int f2), .val (.int t2), .val (.int cc), .val (.ref b2), .val (.ref b4), .val (.int ac), .val (.ref b7), .unset] [(.int (1 : Int32))])) (fun _ ks_ => XS.iconst X15.here hx rfl (hb hby at_321) ks_) ?_
                  refine go (u' := T15.setTop (mkF m 326 #[.val (.int p0), .val (.int p1), .val (.int p2), .val (.int p3), .val (.int p4), .val (.int f0), .val (.int t0), .val (.int f1), .val (.int t1), .val (.int f2), .val (.int t2), .val (.int cc), .val (.ref b2), .val (.ref b4), .val (.int ac), .val (.ref b7), .unset] [(.int (1 : Int32))])) (fun _ ks_ => XS.goto X15.here hx rfl (pc0 := 322) (pc' := 326) rfl (hb hby at_322) (by decide) (by decide) ks_) ?_
                  exact J326_2 _ (B1 ⟨c279_2, (Or.inl ⟨c285_3, (Or.inr ⟨c298_4, (Or.inr ⟨c311_8, c318_9⟩)⟩)⟩)⟩)
                ·
                  refine go (u' := T15.setTop (mkF m 325 #[.val (.int p0), .val (.int p1), .val (.int p2), .val (.int p3), .val (.int p4), .val (.int f0), .val (.int t0), .val (.int f1), .val (.int t1), .val (.int f2), .val (.int t2), .val (.int cc), .val (.ref b2), .val (.ref b4), .val (.int ac), .val (.ref b7), .unset] [])) (fun _ ks_ => XS.icmpYes X15.here hx rfl (pc0 := 318) (pc' := 325) rfl (hb hby at_318) rfl (feq c318_9).2 (by decide) (by decide) ks_) ?_
                  refine go (u' := T15.setTop (mkF m 326 #[.val (.int p0), .val (.int p1), .val (.int p2), .val (.int p3), .val (.int p4), .val (.int f0), .val (.int t0), .val (.int f1), .val (.int t1), .val (.int f2), .val (.int t2), .val (.int cc), .val (.ref b2), .val (.ref b4), .val (.int ac), .val (.ref b7), .unset] [(.int (0 : Int32))])) (fun _ ks_ => XS.iconst X15.here hx rfl (hb hby at_325) ks_) ?_
                  exact J326_2 _ (B0 (fun q => (fun q => q.elim (fun q => (fun q => q.elim (fun q => c298_4 q.1) (fun q => (fun q => q.elim c305_7 (fun q => c318_9 q.2)) q.2)) q.2) (fun q => (fun q => q c285_3) q.1)) q.2))
        ·
          refine go (u' := T15.setTop (mkF m 288 #[.val (.int p0), .val (.int p1), .val (.int p2), .val (.int p3), .val (.int p4), .val (.int f0), .val (.int t0), .val (.int f1), .val (.int t1), .val (.int f2), .val (.int t2), .val (.int cc), .val (.ref b2), .val (.ref b4), .val (.int ac), .val (.ref b7), .unset] [])) (fun _ ks_ => XS.icmpNo X15.here hx rfl (hb hby at_285) rfl (flt c285_3).1 ks_) ?_
          refine go (u' := T15.setTop (mkF m 290 #[.val (.int p0), .val (.int p1), .val (.int p2), .val (.int p3), .val (.int p4), .val (.int f0), .val (.int t0), .val (.int f1), .val (.int t1), .val (.int f2), .val (.int t2), .val (.int cc), .val (.ref b2), .val (.ref b4), .val (.int ac), .val (.ref b7), .unset] [(.int t0)])) (fun _ ks_ => XS.iload X15.here hx rfl (hb hby at_288) rfl  ks_) ?_
          refine go (u' := T15.setTop (mkF m 292 #[.val (.int p0), .val (.int p1), .val (.int p2), .val (.int p3), .val (.int p4), .val (.int f0), .val (.int t0), .val (.int f1), .val (.int t1), .val (.int f2), .val (.int t2), .val (.int cc), .val (.ref b2), .val (.ref b4), .val (.int ac), .val (.ref b7), .unset] [(.int ac), (.int t0)])) (fun _ ks_ => XS.iload X15.here hx rfl (hb hby at_290) rfl  ks_) ?_
          by_cases c292_10 : t0 = ac
          ·
            refine go (u' := T15.setTop (mkF m 321 #[.val (.int p0), .val (.int p1), .val (.int p2), .val (.int p3), .val (.int p4), .val (.int f0), .val (.int t0), .val (.int f1), .val (.int t1), .val (.int f2), .val (.int t2), .val (.int cc), .val (.ref b2), .val (.ref b4), .val (.int ac), .val (.ref b7), .unset] [])) (fun _ ks_ => XS.icmpYes X15.here hx rfl (pc0 := 292) (pc' := 321) rfl (hb hby at_292) rfl (teq c292_10).1 (by decide) (by decide) ks_) ?_
            refine go (u' := T15.setTop (mkF m 322 #[.val (.int p0), .val (.int p1), .val (.int p2), .val (.int p3), .val (.int p4), .val (.int f0), .val (.int t0), .val (.int f1), .val (.int t1), .val (.int f2), .val (.int t2), .val (.int cc), .val (.ref b2), .val (.ref b4), .val (.int ac), .val (.ref b7), .unset] [(.int (1 : Int32))])) (fun _ ks_ => XS.iconst X15.here hx rfl (hb hby at_321) ks_) ?_
            refine go (u' := T15.setTop (mkF m 326 #[.val (.int p0), .val (.int p1), .val (.int p2), .val (.int p3), .val (.int p4), .val (.int f0), .val (.int t0), .val (.int f1), .val (.int t1), .val (.int f2), .val (.int t2), .val (.int cc), .val (.ref b2), .val (.ref b4), .val (.int ac), .val (.ref b7), .unset] [(.int (1 : Int32))])) (fun _ ks_ => XS.goto X15.here hx rfl (pc0 := 322) (pc' := 326) rfl (hb hby at_322) (by decide) (by decide) ks_) ?_
            exact J326_2 _ (B1 ⟨c279_2, (Or.inr ⟨c285_3, (Or.inl c292_10)⟩)⟩)
          ·
            refine go (u' := T15.setTop (mkF m 295 #[.val (.int p0), .val (.int p1), .val (.int p2), .val (.int p3), .val (.int p4), .val (.int f0), .val (.int t0), .val (.int f1), .val (.int t1), .val (.int f2), .val (.int t2), .val (.int cc), .val (.ref b2), .val (.ref b4), .val (.int ac), .val (.ref b7), .unset] [])) (fun _ ks_ => XS.icmpNo X15.here hx rfl (hb hby at_292) rfl (feq c292_10).1 ks_) ?_
            refine go (u' := T15.setTop (mkF m 297 #[.val (.int p0), .val (.int p1), .val (.int p2), .val (.int p3), .val (.int p4), .val (.int f0), .val (.int t0), .val (.int f1), .val (.int t1), .val (.int f2), .val (.int t2), .val (.int cc), .val (.ref b2), .val (.ref b4), .val (.int ac), .val (.ref b7), .unset] [(.int cc)])) (fun _ ks_ => XS.iload X15.here hx rfl (hb hby at_295) rfl  ks_) ?_
            refine go (u' := T15.setTop (mkF m 298 #[.val (.int p0), .val (.int p1), .val (.int p2), .val (.int p3), .val (.int p4), .val (.int f0), .val (.int t0), .val (.int f1), .val (.int t1), .val (.int f2), .val (.int t2), .val (.int cc), .val (.ref b2), .val (.ref b4), .val (.int ac), .val (.ref b7), .unset] [(.int (2 : Int32)), (.int cc)])) (fun _ ks_ => XS.iconst X15.here hx rfl (hb hby at_297) ks_) ?_
            by_cases c298_11 : cc < (2 : Int32)
            ·
              refine go (u' := T15.setTop (mkF m 308 #[.val (.int p0), .val (.int p1), .val (.int p2), .val (.int p3), .val (.int p4), .val (.int f0), .val (.int t0), .val (.int f1), .val (.int t1), .val (.int f2), .val (.int t2), .val (.int cc), .val (.ref b2), .val (.ref b4), .val (.int ac), .val (.ref b7), .unset] [])) (fun _ ks_ => XS.icmpYes X15.here hx rfl (pc0 := 298) (pc' := 308) rfl (hb hby at_298) rfl (tlt c298_11).1 (by decide) (by decide) ks_) ?_
              refine go (u' := T15.setTop (mkF m 310 #[.val (.int p0), .val (.int p1), .val (.int p2), .val (.int p3), .val (.int p4), .val (.int f0), .val (.int t0), .val (.int f1), .val (.int t1), .val (.int f2), .val (.int t2), .val (.int cc), .val (.ref b2), .val (.ref b4), .val (.int ac), .val (.ref b7), .unset] [(.int cc)])) (fun _ ks_ => XS.iload X15.here hx rfl (hb hby at_308) rfl  ks_) ?_
              refine go (u' := T15.setTop (mkF m 311 #[.val (.int p0), .val (.int p1), .val (.int p2), .val (.int p3), .val (.int p4), .val (.int f0), .val (.int t0), .val (.int f1), .val (.int t1), .val (.int f2), .val (.int t2), .val (.int cc), .val (.ref b2), .val (.ref b4), .val (.int ac), .val (.ref b7), .unset] [(.int (3 : Int32)), (.int cc)])) (fun _ ks_ => XS.iconst X15.here hx rfl (hb hby at_310) ks_) ?_
              by_cases c311_12 : cc < (3 : Int32)
              ·
                refine go (u' := T15.setTop (mkF m 325 #[.val (.int p0), .val (.int p1), .val (.int p2), .val (.int p3), .val (.int p4), .val (.int f0), .val (.int t0), .val (.int f1), .val (.int t1), .val (.int f2), .val (.int t2), .val (.int cc), .val (.ref b2), .val (.ref b4), .val (.int ac), .val (.ref b7), .unset] [])) (fun _ ks_ => XS.icmpYes X15.here hx rfl (pc0 := 311) (pc' := 325) rfl (hb hby at_311) rfl (tlt c311_12).1 (by decide) (by decide) ks_) ?_
                refine go (u' := T15.setTop (mkF m 326 #[.val (.int p0), .val (.int p1), .val (.int p2), .val (.int p3), .val (.int p4), .val (.int f0), .val (.int t0), .val (.int f1), .val (.int t1), .val (.int f2), .val (.int t2), .val (.int cc), .val (.ref b2), .val (.ref b4), .val (.int ac), .val (.ref b7), .unset] [(.int (0 : Int32))])) (fun _ ks_ => XS.iconst X15.here hx rfl (hb hby at_325) ks_) ?_
                exact J326_2 _ (B0 (fun q => (fun q => q.elim (fun q => c285_3 q.1) (fun q => (fun q => q.elim c292_10 (fun q => q.elim (fun q => (fun q => (fun q => q c311_12) q.1) q.2) (fun q => (fun q => q c298_11) q.1))) q.2)) q.2))
              ·
                refine go (u' := T15.setTop (mkF m 314 #[.val (.int p0), .val (.int p1), .val (.int p2), .val (.int p3), .val (.int p4), .val (.int f0), .val (.int t0), .val (.int f1), .val (.int t1), .val (.int f2), .val (.int t2), .val (.int cc), .val (.ref b2), .val (.ref b4), .val (.int ac), .val (.ref b7), .unset] [])) (fun _ ks_ => XS.icmpNo X15.here hx rfl (hb hby at_311) rfl (flt c311_12).1 ks_) ?_
                refine go (u' := T15.setTop (mkF m 316 #[.val (.int p0), .val (.int p1), .val (.int p2), .val (.int p3), .val (.int p4), .val (.int f0), .val (.int t0), .val (.int f1), .val (.int t1), .val (.int f2), .val (.int t2), .val (.int cc), .val (.ref b2), .val (.ref b4), .val (.int ac), .val (.ref b7), .unset] [(.int t2)])) (fun _ ks_ => XS.iload X15.here hx rfl (hb hby at_314) rfl  ks_) ?_
                refine go (u' := T15.setTop (mkF m 318 #[.val (.int p0), .val (.int p1), .val (.int p2), .val (.int p3), .val (.int p4), .val (.int f0), .val (.int t0), .val (.int f1), .val (.int t1), .val (.int f2), .val (.int t2), .val (.int cc), .val (.ref b2), .val (.ref b4), .val (.int ac), .val (.ref b7), .unset] [(.int ac), (.int t2)])) (fun _ ks_ => XS.iload X15.here hx rfl (hb hby at_316) rfl  ks_) ?_
                by_cases c318_13 : t2 = ac
                ·
                  refine go (u' := T15.setTop (mkF m 321 #[.val (.int p0), .val (.int p1), .val (.int p2), .val (.int p3), .val (.int p4), .val (.int f0), .val (.int t0), .val (.int f1), .val (.int t1), .val (.int f2), .val (.int t2), .val (.int cc), .val (.ref b2), .val (.ref b4), .val (.int ac), .val (.ref b7), .unset] [])) (fun _ ks_ => XS.icmpNo X15.here hx rfl (hb hby at_318) rfl (teq c318_13).2 ks_) ?_
                  refine go (u' := T15.setTop (mkF m 322 #[.val (.int p0), .val (.int p1), .val (.int p2), .val (.int p3), .val (.int p4), .val (.int f0), .val (.int t0), .val (.int f1), .val (.int t1), .val (.int f2), .val (.int t2), .val (.int cc), .val (.ref b2), .val (.ref b4), .val (.int ac), .val (.ref b7), .unset] [(.int (1 : Int32))])) (fun _ ks_ => XS.iconst X15.here hx rfl (hb hby at_321) ks_) ?_
                  refine go (u' := T15.setTop (mkF m 326 #[.val (.int p0), .val (.int p1), .val (.int p2), .val (.int p3), .val (.int p4), .val (.int f0), .val (.int t0), .val (.int f1), .val (.int t1), .val (.int f2), .val (.int t2), .val (.int cc), .val (.ref b2), .val (.ref b4), .val (.int ac), .val (.ref b7), .unset] [(.int (1 : Int32))])) (fun _ ks_ => XS.goto X15.here hx rfl (pc0 := 322) (pc' := 326) rfl (hb hby at_322) (by decide) (by decide) ks_) ?_
                  exact J326_2 _ (B1 ⟨c279_2, (Or.inr ⟨c285_3, (Or.inr (Or.inl ⟨c298_11, ⟨c311_12, c318_13⟩⟩))⟩)⟩)
                ·
                  refine go (u' := T15.setTop (mkF m 325 #[.val (.int p0), .val (.int p1), .val (.int p2), .val (.int p3), .val (.int p4), .val (.int f0), .val (.int t0), .val (.int f1), .val (.int t1), .val (.int f2), .val (.int t2), .val (.int cc), .val (.ref b2), .val (.ref b4), .val (.int ac), .val (.ref b7), .unset] [])) (fun _ ks_ => XS.icmpYes X15.here hx rfl (pc0 := 318) (pc' := 325) rfl (hb hby at_318) rfl (feq c318_13).2 (by decide) (by decide) ks_) ?_
                  refine go (u' := T15.setTop (mkF m 326 #[.val (.int p0), .val (.int p1), .val (.int p2), .val (.int p3), .val (.int p4), .val (.int f0), .val (.int t0), .val (.int f1), .val (.int t1), .val (.int f2), .val (.int t2), .val (.int cc), .val (.ref b2), .val (.ref b4), .val (.int ac), .val (.ref b7), .unset] [(.int (0 : Int32))])) (fun _ ks_ => XS.iconst X15.here hx rfl (hb hby at_325) ks_) ?_
                  exact J326_2 _ (B0 (fun q => (fun q => q.elim (fun q => c285_3 q.1) (fun q => (fun q => q.elim c292_10 (fun q => q.elim (fun q => (fun q => c318_13 q.2) q.2) (fun q => (fun q => q c298_11) q.1))) q.2)) q.2))
            ·
              refine go (u' := T15.setTop (mkF m 301 #[.val (.int p0), .val (.int p1), .val (.int p2), .val (.int p3), .val (.int p4), .val (.int f0), .val (.int t0), .val (.int f1), .val (.int t1), .val (.int f2), .val (.int t2), .val (.int cc), .val (.ref b2), .val (.ref b4), .val (.int ac), .val (.ref b7), .unset] [])) (fun _ ks_ => XS.icmpNo X15.here hx rfl (hb hby at_298) rfl (flt c298_11).1 ks_) ?_
              refine go (u' := T15.setTop (mkF m 303 #[.val (.int p0), .val (.int p1), .val (.int p2), .val (.int p3), .val (.int p4), .val (.int f0), .val (.int t0), .val (.int f1), .val (.int t1), .val (.int f2), .val (.int t2), .val (.int cc), .val (.ref b2), .val (.ref b4), .val (.int ac), .val (.ref b7), .unset] [(.int t1)])) (fun _ ks_ => XS.iload X15.here hx rfl (hb hby at_301) rfl  ks_) ?_
              refine go (u' := T15.setTop (mkF m 305 #[.val (.int p0), .val (.int p1), .val (.int p2), .val (.int p3), .val (.int p4), .val (.int f0), .val (.int t0), .val (.int f1), .val (.int t1), .val (.int f2), .val (.int t2), .val (.int cc), .val (.ref b2), .val (.ref b4), .val (.int ac), .val (.ref b7), .unset] [(.int ac), (.int t1)])) (fun _ ks_ => XS.iload X15.here hx rfl (hb hby at_303) rfl  ks_) ?_
              by_cases c305_14 : t1 = ac
              ·
                refine go (u' := T15.setTop (mkF m 321 #[.val (.int p0), .val (.int p1), .val (.int p2), .val (.int p3), .val (.int p4), .val (.int f0), .val (.int t0), .val (.int f1), .val (.int t1), .val (.int f2), .val (.int t2), .val (.int cc), .val (.ref b2), .val (.ref b4), .val (.int ac), .val (.ref b7), .unset] [])) (fun _ ks_ => XS.icmpYes X15.here hx rfl (pc0 := 305) (pc' := 321) rfl (hb hby at_305) rfl (teq c305_14).1 (by decide) (by decide) ks_) ?_
                refine go (u' := T15.setTop (mkF m 322 #[.val (.int p0), .val (.int p1), .val (.int p2), .val (.int p3), .val (.int p4), .val (.int f0), .val (.int t0), .val (.int f1), .val (.int t1), .val (.int f2), .val (.int t2), .val (.int cc), .val (.ref b2), .val (.ref b4), .val (.int ac), .val (.ref b7), .unset] [(.int (1 : Int32))])) (fun _ ks_ => XS.iconst X15.here hx rfl (hb hby at_321) ks_) ?_
                refine go (u' := T15.setTop (mkF m 326 #[.val (.int p0), .val (.int p1), .val (.int p2), .val (.int p3), .val (.int p4), .val (.int f0), .val (.int t0), .val (.int f1), .val (.int t1), .val (.int f2), .val (.int t2), .val (.int cc), .val (.ref b2), .val (.ref b4), .val (.int ac), .val (.ref b7), .unset] [(.int (1 : Int32))])) (fun _ ks_ => XS.goto X15.here hx rfl (pc0 := 322) (pc' := 326) rfl (hb hby at_322) (by decide) (by decide) ks_) ?_
                exact J326_2 _ (B1 ⟨c279_2, (Or.inr ⟨c285_3, (Or.inr (Or.inr ⟨c298_11, (Or.inl c305_14)⟩))⟩)⟩)
              ·
                refine go (u' := T15.setTop (mkF m 308 #[.val (.int p0), .val (.int p1), .val (.int p2), .val (.int p3), .val (.int p4), .val (.int f0), .val (.int t0), .val (.int f1), .val (.int t1), .val (.int f2), .val (.int t2), .val (.int cc), .val (.ref b2), .val (.ref b4), .val (.int ac), .val (.ref b7), .unset] [])) (fun _ ks_ => XS.icmpNo X15.here hx rfl (hb hby at_305) rfl (feq c305_14).1 ks_) ?_
                refine go (u' := T15.setTop (mkF m 310 #[.val (.int p0), .val (.int p1), .val (.int p2), .val (.int p3), .val (.int p4), .val (.int f0), .val (.int t0), .val (.int f1), .val (.int t1), .val (.int f2), .val (.int t2), .val (.int cc), .val (.ref b2), .val (.ref b4), .val (.int ac), .val (.ref b7), .unset] [(.int cc)])) (fun _ ks_ => XS.iload X15.here hx rfl (hb hby at_308) rfl  ks_) ?_
                refine go (u' := T15.setTop (mkF m 311 #[.val (.int p0), .val (.int p1), .val (.int p2), .val (.int p3), .val (.int p4), .val (.int f0), .val (.int t0), .val (.int f1), .val (.int t1), .val (.int f2), .val (.int t2), .val (.int cc), .val (.ref b2), .val (.ref b4), .val (.int ac), .val (.ref b7), .unset] [(.int (3 : Int32)), (.int cc)])) (fun _ ks_ => XS.iconst X15.here hx rfl (hb hby at_310) ks_) ?_
                by_cases c311_15 : cc < (3 : Int32)
                ·
                  refine go (u' := T15.setTop (mkF m 325 #[.val (.int p0), .val (.int p1), .val (.int p2), .val (.int p3), .val (.int p4), .val (.int f0), .val (.int t0), .val (.int f1), .val (.int t1), .val (.int f2), .val (.int t2), .val (.int cc), .val (.ref b2), .val (.ref b4), .val (.int ac), .val (.ref b7), .unset] [])) (fun _ ks_ => XS.icmpYes X15.here hx rfl (pc0 := 311) (pc' := 325) rfl (hb hby at_311) rfl (tlt c311_15).1 (by decide) (by decide) ks_) ?_
                  refine go (u' := T15.setTop (mkF m 326 #[.val (.int p0), .val (.int p1), .val (.int p2), .val (.int p3), .val (.int p4), .val (.int f0), .val (.int t0), .val (.int f1), .val (.int t1), .val (.int f2), .val (.int t2), .val (.int cc), .val (.ref b2), .val (.ref b4), .val (.int ac), .val (.ref b7), .unset] [(.int (0 : Int32))])) (fun _ ks_ => XS.iconst X15.here hx rfl (hb hby at_325) ks_) ?_
                  exact J326_2 _ (B0 (fun q => (fun q => q.elim (fun q => c285_3 q.1) (fun q => (fun q => q.elim c292_10 (fun q => q.elim (fun q => c298_11 q.1) (fun q => (fun q => q.elim c305_14 (fun q => (fun q => q c311_15) q.1)) q.2))) q.2)) q.2))
                ·
                  refine go (u' := T15.setTop (mkF m 314 #[.val (.int p0), .val (.int p1), .val (.int p2), .val (.int p3), .val (.int p4), .val (.int f0), .val (.int t0), .val (.int f1), .val (.int t1), .val (.int f2), .val (.int t2), .val (.int cc), .val (.ref b2), .val (.ref b4), .val (.int ac), .val (.ref b7), .unset] [])) (fun _ ks_ => XS.icmpNo X15.here hx rfl (hb hby at_311) rfl (flt c311_15).1 ks_) ?_
                  refine go (u' := T15.setTop (mkF m 316 #[.val (.int p0), .val (.int p1), .val (.int p2), .val (.int p3), .val (.int p4), .val (.int f0), .val (.int t0), .val (.int f1), .val (.int t1), .val (.int f2), .val (.int t2), .val (.int cc), .val (.ref b2), .val (.ref b4), .val (.int ac), .val (.ref b7), .unset] [(.int t2)])) (fun _ ks_ => XS.iload X15.here hx rfl (hb hby at_314) rfl  ks_) ?_
                  refine go (u' := T15.setTop (mkF m 318 #[.val (.int p0), .val (.int p1), .val (.int p2), .val (.int p3), .val (.int p4), .val (.int f0), .val (.int t0), .val (.int f1), .val (.int t1), .val (.int f2), .val (.int t2), .val (.int cc), .val (.ref b2), .val (.ref b4), .val (.int ac), .val (.ref b7), .unset] [(.int ac), (.int t2)])) (fun _ ks_ => XS.iload X15.here hx rfl (hb hby at_316) rfl  ks_) ?_
                  by_cases c318_16 : t2 = ac
                  ·
                    refine go (u' := T15.setTop (mkF m 321 #[.val (.int p0), .val (.int p1), .val (.int p2), .val (.int p3), .val (.int p4), .val (.int f0), .val (.int t0), .val (.int f1), .val (.int t1), .val (.int f2), .val (.int t2), .val (.int cc), .val (.ref b2), .val (.ref b4), .val (.int ac), .val (.ref b7), .unset] [])) (fun _ ks_ => XS.icmpNo X15.here hx rfl (hb hby at_318) rfl (teq c318_16).2 ks_) ?_
                    refine go (u' := T15.setTop (mkF m 322 #[.val (.int p0), .val (.int p1), .val (.int p2), .val (.int p3), .val (.int p4), .val (.int f0), .val (.int t0), .val (.int f1), .val (.int t1), .val (.int f2), .val (.int t2), .val (.int cc), .val (.ref b2), .val (.ref b4), .val (.int ac), .val (.ref b7), .unset] [(.int (1 : Int32))])) (fun _ ks_ => XS.iconst X15.here hx rfl (hb hby at_321) ks_) ?_
                    refine go (u' := T15.setTop (mkF m 326 #[.val (.int p0), .val (.int p1), .val (.int p2), .val (.int p3), .val (.int p4), .val (.int f0), .val (.int t0), .val (.int f1), .val (.int t1), .val (.int f2), .val (.int t2), .val (.int cc), .val (.ref b2), .val (.ref b4), .val (.int ac), .val (.ref b7), .unset] [(.int (1 : Int32))])) (fun _ ks_ => XS.goto X15.here hx rfl (pc0 := 322) (pc' := 326) rfl (hb hby at_322) (by decide) (by decide) ks_) ?_
                    exact J326_2 _ (B1 ⟨c279_2, (Or.inr ⟨c285_3, (Or.inr (Or.inr ⟨c298_11, (Or.inr ⟨c311_15, c318_16⟩)⟩))⟩)⟩)
                  ·
                    refine go (u' := T15.setTop (mkF m 325 #[.val (.int p0), .val (.int p1), .val (.int p2), .val (.int p3), .val (.int p4), .val (.int f0), .val (.int t0), .val (.int f1), .val (.int t1), .val (.int f2), .val (.int t2), .val (.int cc), .val (.ref b2), .val (.ref b4), .val (.int ac), .val (.ref b7), .unset] [])) (fun _ ks_ => XS.icmpYes X15.here hx rfl (pc0 := 318) (pc' := 325) rfl (hb hby at_318) rfl (feq c318_16).2 (by decide) (by decide) ks_) ?_
                    refine go (u' := T15.setTop (mkF m 326 #[.val (.int p0), .val (.int p1), .val (.int p2), .val (.int p3), .val (.int p4), .val (.int f0), .val (.int t0), .val (.int f1), .val (.int t1), .val (.int f2), .val (.int t2), .val (.int cc), .val (.ref b2), .val (.ref b4), .val (.int ac), .val (.ref b7), .unset] [(.int (0 : Int32))])) (fun _ ks_ => XS.iconst X15.here hx rfl (hb hby at_325) ks_) ?_
                    exact J326_2 _ (B0 (fun q => (fun q => q.elim (fun q => c285_3 q.1) (fun q => (fun q => q.elim c292_10 (fun q => q.elim (fun q => c298_11 q.1) (fun q => (fun q => q.elim c305_14 (fun q => c318_16 q.2)) q.2))) q.2)) q.2))
    ·
      refine go (u' := T1.setTop (mkF m 144 #[.val (.int p0), .val (.int p1), .val (.int p2), .val (.int p3), .val (.int p4), .val (.int f0), .val (.int t0), .val (.int f1), .val (.int t1), .val (.int f2), .val (.int t2), .val (.int cc), .unset, .unset, .unset, .unset, .unset] [])) (fun _ ks_ => XS.ifYes X1.here hx rfl (pc0 := 128) (pc' := 144) rfl (hb hby at_128) rfl ((if0 _ _).trans (feq c128_1).2) (by decide) (by decide) ks_) ?_
      refine go (u' := T1.setTop (mkF m 146 #[.val (.int p0), .val (.int p1), .val (.int p2), .val (.int p3), .val (.int p4), .val (.int f0), .val (.int t0), .val (.int f1), .val (.int t1), .val (.int f2), .val (.int t2), .val (.int cc), .unset, .unset, .unset, .unset, .unset] [(.int cc)])) (fun _ ks_ => XS.iload X1.here hx rfl (hb hby at_144) rfl  ks_) ?_
      refine go (u' := T1.setTop (mkF m 147 #[.val (.int p0), .val (.int p1), .val (.int p2), .val (.int p3), .val (.int p4), .val (.int f0), .val (.int t0), .val (.int f1), .val (.int t1), .val (.int f2), .val (.int t2), .val (.int cc), .unset, .unset, .unset, .unset, .unset] [(.int (1 : Int32)), (.int cc)])) (fun _ ks_ => XS.iconst X1.here hx rfl (hb hby at_146) ks_) ?_
      by_cases c147_17 : cc = (1 : Int32)
      ·
        refine go (u' := T1.setTop (mkF m 150 #[.val (.int p0), .val (.int p1), .val (.int p2), .val (.int p3), .val (.int p4), .val (.int f0), .val (.int t0), .val (.int f1), .val (.int t1), .val (.int f2), .val (.int t2), .val (.int cc), .unset, .unset, .unset, .unset, .unset] [])) (fun _ ks_ => XS.icmpNo X1.here hx rfl (hb hby at_147) rfl (teq c147_17).2 ks_) ?_
        refine go (u' := T1.setTop (mkF m 151 #[.val (.int p0), .val (.int p1), .val (.int p2), .val (.int p3), .val (.int p4), .val (.int f0), .val (.int t0), .val (.int f1), .val (.int t1), .val (.int f2), .val (.int t2), .val (.int cc), .unset, .unset, .unset, .unset, .unset] [(.int (1 : Int32))])) (fun _ ks_ => XS.iconst X1.here hx rfl (hb hby at_150) ks_) ?_
        obtain ⟨T25, h25, k25, X25, e25, E25, A25, st25⟩ := newP X1 hx hZ (ww hw 0 rfl) e1 (g := (mkF m 151 #[.val (.int p0), .val (.int p1), .val (.int p2), .val (.int p3), .val (.int p4), .val (.int f0), .val (.int t0), .val (.int f1), .val (.int t1), .val (.int f2), .val (.int t2), .val (.int cc), .unset, .unset, .unset, .unset, .unset] [(.int (1 : Int32))])) rfl (hb hby at_151) rfl (by decide) (cap := 1) (by decide) (by decide) (by decide) (by decide)
        obtain ⟨b25, g25⟩ : ∃ z, z = h1.size := ⟨_, rfl⟩
        rw [← g25] at A25 st25
        have g_b25 : n0 ≤ b25 := Nat.le_trans Z1 (Nat.le_of_eq g25.symm)
        have sz_b25 : h0.size ≤ b25 := Nat.le_trans K1.1 (Nat.le_of_eq g25.symm)
        have K25 : Keep h0 h25 [] := K1.ext E25
        have Z25 : n0 ≤ h25.size := Nat.le_trans Z1 E25.1
        have Fa26 : PI Z h25 b25 .int 1 (own_l [(0 : Int32)]) := PI.newL A25 (by decide) rfl rfl
        refine go (u' := T25.setTop (mkF m 153 #[.val (.int p0), .val (.int p1), .val (.int p2), .val (.int p3), .val (.int p4), .val (.int f0), .val (.int t0), .val (.int f1), .val (.int t1), .val (.int f2), .val (.int t2), .val (.int cc), .unset, .unset, .unset, .unset, .unset] [(.ref b25)])) st25 ?_
        refine go (u' := T25.setTop (mkF m 154 #[.val (.int p0), .val (.int p1), .val (.int p2), .val (.int p3), .val (.int p4), .val (.int f0), .val (.int t0), .val (.int f1), .val (.int t1), .val (.int f2), .val (.int t2), .val (.int cc), .unset, .unset, .unset, .unset, .unset] [(.ref b25), (.ref b25)])) (fun _ ks_ => XS.dup X25.here hx rfl (hb hby at_153) rfl rfl ks_) ?_
        refine go (u' := T25.setTop (mkF m 155 #[.val (.int p0), .val (.int p1), .val (.int p2), .val (.int p3), .val (.int p4), .val (.int f0), .val (.int t0), .val (.int f1), .val (.int t1), .val (.int f2), .val (.int t2), .val (.int cc), .unset, .unset, .unset, .unset, .unset] [(.int (0 : Int32)), (.ref b25), (.ref b25)])) (fun _ ks_ => XS.iconst X25.here hx rfl (hb hby at_154) ks_) ?_
        refine go (u' := T25.setTop (mkF m 157 #[.val (.int p0), .val (.int p1), .val (.int p2), .val (.int p3), .val (.int p4), .val (.int f0), .val (.int t0), .val (.int f1), .val (.int t1), .val (.int f2), .val (.int t2), .val (.int cc), .unset, .unset, .unset, .unset, .unset] [(.int f0), (.int (0 : Int32)), (.ref b25), (.ref b25)])) (fun _ ks_ => XS.iload X25.here hx rfl (hb hby at_155) rfl  ks_) ?_
        obtain ⟨T27, h27, X27, e27, W27, st27⟩ := own_iastore X25 hx hZ e25 Fa26 (j := (0 : Int32)) (x := f0)  (by decide) (by decide) (f := (mkF m 157 #[.val (.int p0), .val (.int p1), .val (.int p2), .val (.int p3), .val (.int p4), .val (.int f0), .val (.int t0), .val (.int f1), .val (.int t1), .val (.int f2), .val (.int t2), .val (.int cc), .unset, .unset, .unset, .unset, .unset] [(.int f0), (.int (0 : Int32)), (.ref b25), (.ref b25)])) rfl rfl (hb hby at_157)
        have N27 := Fr.snoc X27 N1 g_b25
        have K27 : Keep h0 h27 [] := K25.wr W27 (Or.inr sz_b25)
        have Z27 : n0 ≤ h27.size := Nat.le_trans Z25 (Keep.of_wr W27).1
        have Fa28 : PI Z h27 b25 .int 1 (own_l [f0]) := Fa26.setL (by decide) W27 rfl (Nat.le_of_ble_eq_true rfl) rfl
        refine go (u' := T27.setTop (mkF m 158 #[.val (.int p0), .val (.int p1), .val (.int p2), .val (.int p3), .val (.int p4), .val (.int f0), .val (.int t0), .val (.int f1), .val (.int t1), .val (.int f2), .val (.int t2), .val (.int cc), .unset, .unset, .unset, .unset, .unset] [(.ref b25)])) st27 ?_
        refine go (u' := T27.setTop (mkF m 160 #[.val (.int p0), .val (.int p1), .val (.int p2), .val (.int p3), .val (.int p4), .val (.int f0), .val (.int t0), .val (.int f1), .val (.int t1), .val (.int f2), .val (.int t2), .val (.int cc), .val (.ref b25), .unset, .unset, .unset, .unset] [])) (fun _ ks_ => XS.astore X27.here hx rfl (hb hby at_158) rfl rfl (l' := #[.val (.int p0), .val (.int p1), .val (.int p2), .val (.int p3), .val (.int p4), .val (.int f0), .val (.int t0), .val (.int f1), .val (.int t1), .val (.int f2), .val (.int t2), .val (.int cc), .val (.ref b25), .unset, .unset, .unset, .unset]) rfl ks_) ?_
        refine go (u' := T27.setTop (mkF m 161 #[.val (.int p0), .val (.int p1), .val (.int p2), .val (.int p3), .val (.int p4), .val (.int f0), .val (.int t0), .val (.int f1), .val (.int t1), .val (.int f2), .val (.int t2), .val (.int cc), .val (.ref b25), .unset, .unset, .unset, .unset] [(.int (1 : Int32))])) (fun _ ks_ => XS.iconst X27.here hx rfl (hb hby at_160) ks_) ?_
        obtain ⟨T29, h29, k29, X29, e29, E29, A29, st29⟩ := newP X27 hx hZ (ww hw 0 rfl) e27 (g := (mkF m 161 #[.val (.int p0), .val (.int p1), .val (.int p2), .val (.int p3), .val (.int p4), .val (.int f0), .val (.int t0), .val (.int f1), .val (.int t1), .val (.int f2), .val (.int t2), .val (.int cc), .val (.ref b25), .unset, .unset, .unset, .unset] [(.int (1 : Int32))])) rfl (hb hby at_161) rfl (by decide) (cap := 1) (by decide) (by decide) (by decide) (by decide)
        obtain ⟨b29, g29⟩ : ∃ z, z = h27.size := ⟨_, rfl⟩
        rw [← g29] at A29 st29
        have ne_b25_b29 : b25 ≠ b29 := Nat.ne_of_lt (Nat.lt_of_lt_of_le Fa28.lt (Nat.le_of_eq g29.symm))
        have g_b29 : n0 ≤ b29 := Nat.le_trans Z27 (Nat.le_of_eq g29.symm)
        have sz_b29 : h0.size ≤ b29 := Nat.le_trans K27.1 (Nat.le_of_eq g29.symm)
        have K29 : Keep h0 h29 [] := K27.ext E29
        have Fa30 : PI Z h29 b25 .int 1 (own_l [f0]) := Fa28.ext E29
        have Z29 : n0 ≤ h29.size := Nat.le_trans Z27 E29.1
        have Fa31 : PI Z h29 b29 .int 1 (own_l [(0 : Int32)]) := PI.newL A29 (by decide) rfl rfl
        refine go (u' := T29.setTop (mkF m 163 #[.val (.int p0), .val (.int p1), .val (.int p2), .val (.int p3), .val (.int p4), .val (.int f0), .val (.int t0), .val (.int f1), .val (.int t1), .val (.int f2), .val (.int t2), .val (.int cc), .val (.ref b25), .unset, .unset, .unset, .unset] [(.ref b29)])) st29 ?_
        refine go (u' := T29.setTop (mkF m 164 #[.val (.int p0), .val (.int p1), .val (.int p2), .val (.int p3), .val (.int p4), .val (.int f0), .val (.int t0), .val (.int f1), .val (.int t1), .val (.int f2), .val (.int t2), .val (.int cc), .val (.ref b25), .unset, .unset, .unset, .unset] [(.ref b29), (.ref b29)])) (fun _ ks_ => XS.dup X29.here hx rfl (hb hby at_163) rfl rfl ks_) ?_
        refine go (u' := T29.setTop (mkF m 165 #[.val (.int p0), .val (.int p1), .val (.int p2), .val (.int p3), .val (.int p4), .val (.int f0), .val (.int t0), .val (.int f1), .val (.int t1), .val (.int f2), .val (.int t2), .val (.int cc), .val (.ref b25), .unset, .unset, .unset, .unset] [(.int (0 : Int32)), (.ref b29), (.ref b29)])) (fun _ ks_ => XS.iconst X29.here hx rfl (hb hby at_164) ks_) ?_
        refine go (u' := T29.setTop (mkF m 167 #[.val (.int p0), .val (.int p1), .val (.int p2), .val (.int p3), .val (.int p4), .val (.int f0), .val (.int t0), .val (.int f1), .val (.int t1), .val (.int f2), .val (.int t2), .val (.int cc), .val (.ref b25), .unset, .unset, .unset, .unset] [(.int t0), (.int (0 : Int32)), (.ref b29), (.ref b29)])) (fun _ ks_ => XS.iload X29.here hx rfl (hb hby at_165) rfl  ks_) ?_
        obtain ⟨T32, h32, X32, e32, W32, st32⟩ := own_iastore X29 hx hZ e29 Fa31 (j := (0 : Int32)) (x := t0)  (by decide) (by decide) (f := (mkF m 167 #[.val (.int p0), .val (.int p1), .val (.int p2), .val (.int p3), .val (.int p4), .val (.int f0), .val (.int t0), .val (.int f1), .val (.int t1), .val (.int f2), .val (.int t2), .val (.int cc), .val (.ref b25), .unset, .unset, .unset, .unset] [(.int t0), (.int (0 : Int32)), (.ref b29), (.ref b29)])) rfl rfl (hb hby at_167)
        have N32 := Fr.snoc X32 N27 g_b29
        have K32 : Keep h0 h32 [] := K29.wr W32 (Or.inr sz_b29)
        have Z32 : n0 ≤ h32.size := Nat.le_trans Z29 (Keep.of_wr W32).1
        have Fa33 : PI Z h32 b25 .int 1 (own_l [f0]) := Fa30.other W32 ne_b25_b29
        have Fa34 : PI Z h32 b29 .int 1 (own_l [t0]) := Fa31.setL (by decide) W32 rfl (Nat.le_of_ble_eq_true rfl) rfl
        refine go (u' := T32.setTop (mkF m 168 #[.val (.int p0), .val (.int p1), .val (.int p2), .val (.int p3), .val (.int p4), .val (.int f0), .val (.int t0), .val (.int f1), .val (.int t1), .val (.int f2), .val (.int t2), .val (.int cc), .val (.ref b25), .unset, .unset, .unset, .unset] [(.ref b29)])) st32 ?_
        refine go (u' := T32.setTop (mkF m 170 #[.val (.int p0), .val (.int p1), .val (.int p2), .val (.int p3), .val (.int p4), .val (.int f0), .val (.int t0), .val (.int f1), .val (.int t1), .val (.int f2), .val (.int t2), .val (.int cc), .val (.ref b25), .val (.ref b29), .unset, .unset, .unset] [])) (fun _ ks_ => XS.astore X32.here hx rfl (hb hby at_168) rfl rfl (l' := #[.val (.int p0), .val (.int p1), .val (.int p2), .val (.int p3), .val (.int p4), .val (.int f0), .val (.int t0), .val (.int f1), .val (.int t1), .val (.int f2), .val (.int t2), .val (.int cc), .val (.ref b25), .val (.ref b29), .unset, .unset, .unset]) rfl ks_) ?_
        refine go (u' := T32.setTop (mkF m 252 #[.val (.int p0), .val (.int p1), .val (.int p2), .val (.int p3), .val (.int p4), .val (.int f0), .val (.int t0), .val (.int f1), .val (.int t1), .val (.int f2), .val (.int t2), .val (.int cc), .val (.ref b25), .val (.ref b29), .unset, .unset, .unset] [])) (fun _ ks_ => XS.goto X32.here hx rfl (pc0 := 170) (pc' := 252) rfl (hb hby at_170) (by decide) (by decide) ks_) ?_
        refine go (u' := T32.setTop (mkF m 254 #[.val (.int p0), .val (.int p1), .val (.int p2), .val (.int p3), .val (.int p4), .val (.int f0), .val (.int t0), .val (.int f1), .val (.int t1), .val (.int f2), .val (.int t2), .val (.int cc), .val (.ref b25), .val (.ref b29), .unset, .unset, .unset] [(.int p4)])) (fun _ ks_ => XS.iload X32.here hx rfl (hb hby at_252) rfl  ks_) ?_
        refine go (u' := T32.setTop (mkF m 256 #[.val (.int p0), .val (.int p1), .val (.int p2), .val (.int p3), .val (.int p4), .val (.int f0), .val (.int t0), .val (.int f1), .val (.int t1), .val (.int f2), .val (.int t2), .val (.int cc), .val (.ref b25), .val (.ref b29), .unset, .unset, .unset] [(.int (2147483647 : Int32)), (.int p4)])) (X32.ldcInt hx hown (mvT hZ (ww hw 1 rfl)) (g := (mkF m 254 #[.val (.int p0), .val (.int p1), .val (.int p2), .val (.int p3), .val (.int p4), .val (.int f0), .val (.int t0), .val (.int f1), .val (.int t1), .val (.int f2), .val (.int t2), .val (.int cc), .val (.ref b25), .val (.ref b29), .unset, .unset, .unset] [(.int p4)])) rfl (hb hby at_254)) ?_
        refine go (u' := T32.setTop (mkF m 257 #[.val (.int p0), .val (.int p1), .val (.int p2), .val (.int p3), .val (.int p4), .val (.int f0), .val (.int t0), .val (.int f1), .val (.int t1), .val (.int f2), .val (.int t2), .val (.int cc), .val (.ref b25), .val (.ref b29), .unset, .unset, .unset] [(.int (p4 &&& (2147483647 : Int32)))])) (fun _ ks_ => XS.iand X32.here hx rfl (hb hby at_256) rfl ks_) ?_
        refine go (u' := T32.setTop (mkF m 258 #[.val (.int p0), .val (.int p1), .val (.int p2), .val (.int p3), .val (.int p4), .val (.int f0), .val (.int t0), .val (.int f1), .val (.int t1), .val (.int f2), .val (.int t2), .val (.int cc), .val (.ref b25), .val (.ref b29), .unset, .unset, .unset] [(.int (5 : Int32)), (.int (p4 &&& (2147483647 : Int32)))])) (fun _ ks_ => XS.iconst X32.here hx rfl (hb hby at_257) ks_) ?_
        refine go (u' := T32.setTop (mkF m 259 #[.val (.int p0), .val (.int p1), .val (.int p2), .val (.int p3), .val (.int p4), .val (.int f0), .val (.int t0), .val (.int f1), .val (.int t1), .val (.int f2), .val (.int t2), .val (.int cc), .val (.ref b25), .val (.ref b29), .unset, .unset, .unset] [(.int ((p4 &&& (2147483647 : Int32)) % (5 : Int32)))])) (fun _ ks_ => iremM (g := (mkF m 258 #[.val (.int p0), .val (.int p1), .val (.int p2), .val (.int p3), .val (.int p4), .val (.int f0), .val (.int t0), .val (.int f1), .val (.int t1), .val (.int f2), .val (.int t2), .val (.int cc), .val (.ref b25), .val (.ref b29), .unset, .unset, .unset] [(.int (5 : Int32)), (.int (p4 &&& (2147483647 : Int32)))])) X32 hx rfl (hb hby at_258) rfl (by decide) ks_) ?_
        refine go (u' := T32.setTop (mkF m 260 #[.val (.int p0), .val (.int p1), .val (.int p2), .val (.int p3), .val (.int p4), .val (.int f0), .val (.int t0), .val (.int f1), .val (.int t1), .val (.int f2), .val (.int t2), .val (.int cc), .val (.ref b25), .val (.ref b29), .unset, .unset, .unset] [(.int (2 : Int32)), (.int ((p4 &&& (2147483647 : Int32)) % (5 : Int32)))])) (fun _ ks_ => XS.iconst X32.here hx rfl (hb hby at_259) ks_) ?_
        refine go (u' := T32.setTop (mkF m 261 #[.val (.int p0), .val (.int p1), .val (.int p2), .val (.int p3), .val (.int p4), .val (.int f0), .val (.int t0), .val (.int f1), .val (.int t1), .val (.int f2), .val (.int t2), .val (.int cc), .val (.ref b25), .val (.ref b29), .unset, .unset, .unset] [(.int (((p4 &&& (2147483647 : Int32)) % (5 : Int32)) - (2 : Int32)))])) (fun _ ks_ => XS.isub X32.here hx rfl (hb hby at_260) rfl ks_) ?_
        refine go (u' := T32.setTop (mkF m 263 #[.val (.int p0), .val (.int p1), .val (.int p2), .val (.int p3), .val (.int p4), .val (.int f0), .val (.int t0), .val (.int f1), .val (.int t1), .val (.int f2), .val (.int t2), .val (.int cc), .val (.ref b25), .val (.ref b29), .val (.int (((p4 &&& (2147483647 : Int32)) % (5 : Int32)) - (2 : Int32))), .unset, .unset] [])) (fun _ ks_ => XS.istore X32.here hx rfl (hb hby at_261) rfl  (l' := #[.val (.int p0), .val (.int p1), .val (.int p2), .val (.int p3), .val (.int p4), .val (.int f0), .val (.int t0), .val (.int f1), .val (.int t1), .val (.int f2), .val (.int t2), .val (.int cc), .val (.ref b25), .val (.ref b29), .val (.int (((p4 &&& (2147483647 : Int32)) % (5 : Int32)) - (2 : Int32))), .unset, .unset]) rfl ks_) ?_
        obtain ⟨ac, hac⟩ : ∃ z, z = (((p4 &&& (2147483647 : Int32)) % (5 : Int32)) - (2 : Int32)) := ⟨_, rfl⟩
        rw [← hac]
        have hac' := own_ac _ ac hac
        obtain ⟨T35, h35, X35, e35, E35, A35, D35, -, st35⟩ := newO X32 hx hZ hown (ww hw 2 rfl) (ww hw 3 rfl) (ww hw 4 rfl) e32 (g := (mkF m 263 #[.val (.int p0), .val (.int p1), .val (.int p2), .val (.int p3), .val (.int p4), .val (.int f0), .val (.int t0), .val (.int f1), .val (.int t1), .val (.int f2), .val (.int t2), .val (.int cc), .val (.ref b25), .val (.ref b29), .val (.int ac), .unset, .unset] [])) rfl (hb hby at_263) (by decide) (by decide)
        obtain ⟨b35, g35⟩ : ∃ z, z = h32.size := ⟨_, rfl⟩
        rw [← g35] at A35 D35 st35
        have ne_b25_b35 : b25 ≠ b35 := Nat.ne_of_lt (Nat.lt_of_lt_of_le Fa33.lt (Nat.le_of_eq g35.symm))
        have ne_b29_b35 : b29 ≠ b35 := Nat.ne_of_lt (Nat.lt_of_lt_of_le Fa34.lt (Nat.le_of_eq g35.symm))
        have g_b35 : n0 ≤ b35 := Nat.le_trans Z32 (Nat.le_of_eq g35.symm)
        have sz_b35 : h0.size ≤ b35 := Nat.le_trans K32.1 (Nat.le_of_eq g35.symm)
        have K35 : Keep h0 h35 [] := K32.ext E35
        have Fa36 : PI Z h35 b25 .int 1 (own_l [f0]) := Fa33.ext E35
        have Fa37 : PI Z h35 b29 .int 1 (own_l [t0]) := Fa34.ext E35
        have Z35 : n0 ≤ h35.size := Nat.le_trans Z32 E35.1
        have Fa38 : Fld Z h35 b35 "com/example/traceweave/traceweave/pattern/NumberedPattern" "activities" "I" (.int (0 : Int32)) := D35 (Or.inr (ww hw 37 rfl)) (ty := .int) (by decide)
        have Fa39 : Fld Z h35 b35 "com/example/traceweave/traceweave/pattern/NumberedPattern" "leaving" "Lcom/example/traceweave/traceweave/pattern/NumberedPattern$Adjacency;" .null := D35 (Or.inr (ww hw 78 rfl)) (ty := (.object "com/example/traceweave/traceweave/pattern/NumberedPattern$Adjacency")) (by decide)
        have Fa40 : Fld Z h35 b35 "com/example/traceweave/traceweave/pattern/NumberedPattern" "entering" "Lcom/example/traceweave/traceweave/pattern/NumberedPattern$Adjacency;" .null := D35 (Or.inr (ww hw 80 rfl)) (ty := (.object "com/example/traceweave/traceweave/pattern/NumberedPattern$Adjacency")) (by decide)
        have Fa41 : Fld Z h35 b35 "com/example/traceweave/traceweave/pattern/NumberedPattern" "openInputs" "Ljava/util/BitSet;" .null := D35 (Or.inr (ww hw 82 rfl)) (ty := (.object "java/util/BitSet")) (by decide)
        have Fa42 : Fld Z h35 b35 "com/example/traceweave/traceweave/pattern/NumberedPattern" "openOutputs" "Ljava/util/BitSet;" .null := D35 (Or.inr (ww hw 84 rfl)) (ty := (.object "java/util/BitSet")) (by decide)
        refine go (u' := T35.setTop (mkF m 266 #[.val (.int p0), .val (.int p1), .val (.int p2), .val (.int p3), .val (.int p4), .val (.int f0), .val (.int t0), .val (.int f1), .val (.int t1), .val (.int f2), .val (.int t2), .val (.int cc), .val (.ref b25), .val (.ref b29), .val (.int ac), .unset, .unset] [(.ref b35)])) st35 ?_
        refine go (u' := T35.setTop (mkF m 267 #[.val (.int p0), .val (.int p1), .val (.int p2), .val (.int p3), .val (.int p4), .val (.int f0), .val (.int t0), .val (.int f1), .val (.int t1), .val (.int f2), .val (.int t2), .val (.int cc), .val (.ref b25), .val (.ref b29), .val (.int ac), .unset, .unset] [(.ref b35), (.ref b35)])) (fun _ ks_ => XS.dup X35.here hx rfl (hb hby at_266) rfl rfl ks_) ?_
        refine go (u' := T35.setTop (mkF m 268 #[.val (.int p0), .val (.int p1), .val (.int p2), .val (.int p3), .val (.int p4), .val (.int f0), .val (.int t0), .val (.int f1), .val (.int t1), .val (.int f2), .val (.int t2), .val (.int cc), .val (.ref b25), .val (.ref b29), .val (.int ac), .unset, .unset] [(.int (3 : Int32)), (.ref b35), (.ref b35)])) (fun _ ks_ => XS.iconst X35.here hx rfl (hb hby at_267) ks_) ?_
        refine go (u' := T35.setTop (mkF m 270 #[.val (.int p0), .val (.int p1), .val (.int p2), .val (.int p3), .val (.int p4), .val (.int f0), .val (.int t0), .val (.int f1), .val (.int t1), .val (.int f2), .val (.int t2), .val (.int cc), .val (.ref b25), .val (.ref b29), .val (.int ac), .unset, .unset] [(.ref b25), (.int (3 : Int32)), (.ref b35), (.ref b35)])) (fun _ ks_ => XS.aload X35.here hx rfl (hb hby at_268) rfl rfl ks_) ?_
        refine go (u' := T35.setTop (mkF m 272 #[.val (.int p0), .val (.int p1), .val (.int p2), .val (.int p3), .val (.int p4), .val (.int f0), .val (.int t0), .val (.int f1), .val (.int t1), .val (.int f2), .val (.int t2), .val (.int cc), .val (.ref b25), .val (.ref b29), .val (.int ac), .unset, .unset] [(.ref b29), (.ref b25), (.int (3 : Int32)), (.ref b35), (.ref b35)])) (fun _ ks_ => XS.aload X35.here hx rfl (hb hby at_270) rfl rfl ks_) ?_
        obtain ⟨_, _, ⟨T43, L43, k43, n43⟩, -, X43, ⟨Lc43, hQ43, l43, y43, z43⟩, st43⟩ := X35.specialBack hx (y := (⟨"com/example/traceweave/traceweave/pattern/NumberedPattern", "<init>", "(I[I[I)V"⟩ : MethodName)) rfl hown (mvT hZ (ww hw 5 rfl)) (mvT hZ (ww hw 6 rfl)) (mvT hZ (ww hw 7 rfl)) (by decide) (backOf (W := 1) (rm1 l Z a0 hw [] b35 b25 b29 1 (own_l [f0]) (own_l [t0]) h35 n0 Z35 g_b35 ne_b25_b35 ne_b29_b35 A35 Fa38 Fa39 Fa40 Fa41 Fa42 Fa36 Fa37 (by decide) (own_hl1 hf0) (own_hl1 ht0)) hZ (ww hw 7 rfl) (ww hw 4 rfl) (by decide) (by decide)) (g := (mkF m 272 #[.val (.int p0), .val (.int p1), .val (.int p2), .val (.int p3), .val (.int p4), .val (.int f0), .val (.int t0), .val (.int f1), .val (.int t1), .val (.int f2), .val (.int t2), .val (.int cc), .val (.ref b25), .val (.ref b29), .val (.int ac), .unset, .unset] [(.ref b29), (.ref b25), (.int (3 : Int32)), (.ref b35), (.ref b35)])) rfl (by rw [hml]; rfl) (Steps.refl _) (a := b35) (argsL := [(.int (3 : Int32)), (.ref b25), (.ref b29)]) (rest := [(.ref b35)]) (lenOf pd__40_I_91_I_91_I_41_V rfl) rfl (by show 2 * 0 + _ ≤ _; exact Nat.le_of_eq rfl) (hb hby at_272) (fun _ _ => ⟨rfl, e35, (by decide : 3 + 12 ≤ _), (by decide : 7 + 32 ≤ _)⟩)
        dsimp only [Pt.U, Pt.locs, Pt.cells, Pt.slots] at X43 l43 y43 z43 st43 hQ43
        subst l43 y43 z43
        obtain ⟨ad43, fi43, rfl, N43q, Kq43, Fa44, Fa45, Fa46, Fa47, Fa48, gad_43, gfi_43, nad_43⟩ := hQ43
        have N43 := Fr.app N32 N43q
        have K43 : Keep h0 T43.heap [] := K35.trans Kq43 (allS (P := fun x => x ∈ [] ∨ h0.size ≤ x) (Or.inr sz_b35) all0)
        have Z43 : n0 ≤ T43.heap.size := Nat.le_trans Z35 Kq43.1
        have Fa49 : PI Z T43.heap b25 .int 1 (own_l [f0]) := Fa36.keep Kq43 (ninS ne_b25_b35 nin0)
        have Fa50 : PI Z T43.heap b29 .int 1 (own_l [t0]) := Fa37.keep Kq43 (ninS ne_b29_b35 nin0)
        have Fa51 : Exa Z T43.heap b35 "com/example/traceweave/traceweave/pattern/NumberedPattern" := A35.keep Kq43
        have ne_b25_ad43 : b25 ≠ ad43 := Nat.ne_of_lt (Nat.lt_of_lt_of_le Fa36.lt gad_43)
        have ne_b29_ad43 : b29 ≠ ad43 := Nat.ne_of_lt (Nat.lt_of_lt_of_le Fa37.lt gad_43)
        have ne_b35_ad43 : b35 ≠ ad43 := Nat.ne_of_lt (Nat.lt_of_lt_of_le A35.lt gad_43)
        have g_ad43 : n0 ≤ ad43 := Nat.le_trans Z35 gad_43
        have sz_ad43 : h0.size ≤ ad43 := Nat.le_trans K35.1 gad_43
        have ne_b25_fi43 : b25 ≠ fi43 := Nat.ne_of_lt (Nat.lt_of_lt_of_le Fa36.lt gfi_43)
        have ne_b29_fi43 : b29 ≠ fi43 := Nat.ne_of_lt (Nat.lt_of_lt_of_le Fa37.lt gfi_43)
        have ne_b35_fi43 : b35 ≠ fi43 := Nat.ne_of_lt (Nat.lt_of_lt_of_le A35.lt gfi_43)
        have g_fi43 : n0 ≤ fi43 := Nat.le_trans Z35 gfi_43
        have sz_fi43 : h0.size ≤ fi43 := Nat.le_trans K35.1 gfi_43
        refine goT (u' := T43.setTop (mkF m 275 #[.val (.int p0), .val (.int p1), .val (.int p2), .val (.int p3), .val (.int p4), .val (.int f0), .val (.int t0), .val (.int f1), .val (.int t1), .val (.int f2), .val (.int t2), .val (.int cc), .val (.ref b25), .val (.ref b29), .val (.int ac), .unset, .unset] [(.ref b35)])) st43 ?_
        refine go (u' := T43.setTop (mkF m 277 #[.val (.int p0), .val (.int p1), .val (.int p2), .val (.int p3), .val (.int p4), .val (.int f0), .val (.int t0), .val (.int f1), .val (.int t1), .val (.int f2), .val (.int t2), .val (.int cc), .val (.ref b25), .val (.ref b29), .val (.int ac), .val (.ref b35), .unset] [])) (fun _ ks_ => XS.astore X43.here hx rfl (hb hby at_275) rfl rfl (l' := #[.val (.int p0), .val (.int p1), .val (.int p2), .val (.int p3), .val (.int p4), .val (.int f0), .val (.int t0), .val (.int f1), .val (.int t1), .val (.int f2), .val (.int t2), .val (.int cc), .val (.ref b25), .val (.ref b29), .val (.int ac), .val (.ref b35), .unset]) rfl ks_) ?_
        refine go (u' := T43.setTop (mkF m 279 #[.val (.int p0), .val (.int p1), .val (.int p2), .val (.int p3), .val (.int p4), .val (.int f0), .val (.int t0), .val (.int f1), .val (.int t1), .val (.int f2), .val (.int t2), .val (.int cc), .val (.ref b25), .val (.ref b29), .val (.int ac), .val (.ref b35), .unset] [(.int ac)])) (fun _ ks_ => XS.iload X43.here hx rfl (hb hby at_277) rfl  ks_) ?_
        have J326_3 : ∀ v326_3 : Int32, v326_3 = (B ((¬ (ac < (0 : Int32))) ∧ (((cc < (1 : Int32)) ∧ (((cc < (2 : Int32)) ∧ ((¬ (cc < (3 : Int32))) ∧ (t2 = ac))) ∨ ((¬ (cc < (2 : Int32))) ∧ ((t1 = ac) ∨ ((¬ (cc < (3 : Int32))) ∧ (t2 = ac)))))) ∨ ((¬ (cc < (1 : Int32))) ∧ ((t0 = ac) ∨ (((cc < (2 : Int32)) ∧ ((¬ (cc < (3 : Int32))) ∧ (t2 = ac))) ∨ ((¬ (cc < (2 : Int32))) ∧ ((t1 = ac) ∨ ((¬ (cc < (3 : Int32))) ∧ (t2 = ac)))))))))) → Go p.tables e below G (T43.setTop (mkF m 326 #[.val (.int p0), .val (.int p1), .val (.int p2), .val (.int p3), .val (.int p4), .val (.int f0), .val (.int t0), .val (.int f1), .val (.int t1), .val (.int f2), .val (.int t2), .val (.int cc), .val (.ref b25), .val (.ref b29), .val (.int ac), .val (.ref b35), .unset] [(.int v326_3)])) := by
          intro v326_3 hv326_3
          subst hv326_3
          refine go (u' := T43.setTop (mkF m 328 #[.val (.int p0), .val (.int p1), .val (.int p2), .val (.int p3), .val (.int p4), .val (.int f0), .val (.int t0), .val (.int f1), .val (.int t1), .val (.int f2), .val (.int t2), .val (.int cc), .val (.ref b25), .val (.ref b29), .val (.int ac), .val (.ref b35), .val (.int (B ((¬ (ac < (0 : Int32))) ∧ (((cc < (1 : Int32)) ∧ (((cc < (2 : Int32)) ∧ ((¬ (cc < (3 : Int32))) ∧ (t2 = ac))) ∨ ((¬ (cc < (2 : Int32))) ∧ ((t1 = ac) ∨ ((¬ (cc < (3 : Int32))) ∧ (t2 = ac)))))) ∨ ((¬ (cc < (1 : Int32))) ∧ ((t0 = ac) ∨ (((cc < (2 : Int32)) ∧ ((¬ (cc < (3 : Int32))) ∧ (t2 = ac))) ∨ ((¬ (cc < (2 : Int32))) ∧ ((t1 = ac) ∨ ((¬ (cc < (3 : Int32))) ∧ (t2 = ac)))))))))))] [])) (fun _ ks_ => XS.istore X43.here hx rfl (hb hby at_326) rfl  (l' := #[.val (.int p0), .val (.int p1), .val (.int p2), .val (.int p3), .val (.int p4), .val (.int f0), .val (.int t0), .val (.int f1), .val (.int t1), .val (.int f2), .val (.int t2), .val (.int cc), .val (.ref b25), .val (.ref b29), .val (.int ac), .val (.ref b35), .val (.int (B ((¬ (ac < (0 : Int32))) ∧ (((cc < (1 : Int32)) ∧ (((cc < (2 : Int32)) ∧ ((¬ (cc < (3 : Int32))) ∧ (t2 = ac))) ∨ ((¬ (cc < (2 : Int32))) ∧ ((t1 = ac) ∨ ((¬ (cc < (3 : Int32))) ∧ (t2 = ac)))))) ∨ ((¬ (cc < (1 : Int32))) ∧ ((t0 = ac) ∨ (((cc < (2 : Int32)) ∧ ((¬ (cc < (3 : Int32))) ∧ (t2 = ac))) ∨ ((¬ (cc < (2 : Int32))) ∧ ((t1 = ac) ∨ ((¬ (cc < (3 : Int32))) ∧ (t2 = ac)))))))))))]) rfl ks_) ?_
          refine go (u' := T43.setTop (mkF m 330 #[.val (.int p0), .val (.int p1), .val (.int p2), .val (.int p3), .val (.int p4), .val (.int f0), .val (.int t0), .val (.int f1), .val (.int t1), .val (.int f2), .val (.int t2), .val (.int cc), .val (.ref b25), .val (.ref b29), .val (.int ac), .val (.ref b35), .val (.int (B ((¬ (ac < (0 : Int32))) ∧ (((cc < (1 : Int32)) ∧ (((cc < (2 : Int32)) ∧ ((¬ (cc < (3 : Int32))) ∧ (t2 = ac))) ∨ ((¬ (cc < (2 : Int32))) ∧ ((t1 = ac) ∨ ((¬ (cc < (3 : Int32))) ∧ (t2 = ac)))))) ∨ ((¬ (cc < (1 : Int32))) ∧ ((t0 = ac) ∨ (((cc < (2 : Int32)) ∧ ((¬ (cc < (3 : Int32))) ∧ (t2 = ac))) ∨ ((¬ (cc < (2 : Int32))) ∧ ((t1 = ac) ∨ ((¬ (cc < (3 : Int32))) ∧ (t2 = ac)))))))))))] [(.ref b35)])) (fun _ ks_ => XS.aload X43.here hx rfl (hb hby at_328) rfl rfl ks_) ?_
          refine go (u' := T43.setTop (mkF m 332 #[.val (.int p0), .val (.int p1), .val (.int p2), .val (.int p3), .val (.int p4), .val (.int f0), .val (.int t0), .val (.int f1), .val (.int t1), .val (.int f2), .val (.int t2), .val (.int cc), .val (.ref b25), .val (.ref b29), .val (.int ac), .val (.ref b35), .val (.int (B ((¬ (ac < (0 : Int32))) ∧ (((cc < (1 : Int32)) ∧ (((cc < (2 : Int32)) ∧ ((¬ (cc < (3 : Int32))) ∧ (t2 = ac))) ∨ ((¬ (cc < (2 : Int32))) ∧ ((t1 = ac) ∨ ((¬ (cc < (3 : Int32))) ∧ (t2 = ac)))))) ∨ ((¬ (cc < (1 : Int32))) ∧ ((t0 = ac) ∨ (((cc < (2 : Int32)) ∧ ((¬ (cc < (3 : Int32))) ∧ (t2 = ac))) ∨ ((¬ (cc < (2 : Int32))) ∧ ((t1 = ac) ∨ ((¬ (cc < (3 : Int32))) ∧ (t2 = ac)))))))))))] [(.int ac), (.ref b35)])) (fun _ ks_ => XS.iload X43.here hx rfl (hb hby at_330) rfl  ks_) ?_
          obtain ⟨cq52, kq52, q52a, q52b, q52c⟩ := isOf hZ (rfl : T43.heap = _) Fa44
          obtain ⟨_, _, ⟨T52, L52, k52, n52⟩, -, X52, ⟨Lc52, hQ52, l52, y52, z52⟩, st52⟩ := X43.virtualBack hx (y := (⟨"com/example/traceweave/traceweave/pattern/NumberedPattern", "isEntered", "(I)Z"⟩ : MethodName)) (z := (⟨"com/example/traceweave/traceweave/pattern/NumberedPattern", "isEntered", "(I)Z"⟩ : MethodName)) hown (mvT hZ (ww hw 85 rfl)) (mvT hZ (ww hw 86 rfl)) (notFace_of_selects (args := #[]) (mvT hZ (ww hw 88 rfl))) (mvT hZ (ww hw 88 rfl)) (mvT hZ (ww hw 87 rfl)) (by decide) (backOf (W := 0) (rm15 l Z a0 hw [] b35 ac ad43 fi43 (ps2 (cn1 (own_l [t0]) 1) 3) T43.heap n0 Z43 Fa45 Fa46 Fa47 Fa48 hac'.2) hZ (ww hw 89 rfl) (ww hw 4 rfl) (by decide) (by decide)) q52a q52c (g := (mkF m 332 #[.val (.int p0), .val (.int p1), .val (.int p2), .val (.int p3), .val (.int p4), .val (.int f0), .val (.int t0), .val (.int f1), .val (.int t1), .val (.int f2), .val (.int t2), .val (.int cc), .val (.ref b25), .val (.ref b29), .val (.int ac), .val (.ref b35), .val (.int (B ((¬ (ac < (0 : Int32))) ∧ (((cc < (1 : Int32)) ∧ (((cc < (2 : Int32)) ∧ ((¬ (cc < (3 : Int32))) ∧ (t2 = ac))) ∨ ((¬ (cc < (2 : Int32))) ∧ ((t1 = ac) ∨ ((¬ (cc < (3 : Int32))) ∧ (t2 = ac)))))) ∨ ((¬ (cc < (1 : Int32))) ∧ ((t0 = ac) ∨ (((cc < (2 : Int32)) ∧ ((¬ (cc < (3 : Int32))) ∧ (t2 = ac))) ∨ ((¬ (cc < (2 : Int32))) ∧ ((t1 = ac) ∨ ((¬ (cc < (3 : Int32))) ∧ (t2 = ac)))))))))))] [(.int ac), (.ref b35)])) rfl (by rw [hml]; rfl) (Steps.refl _) (argsL := [(.int ac)]) (rest := []) (lenOf pd__40_I_41_Z rfl) rfl (by show 2 * 0 + _ ≤ _; exact Nat.le_of_eq rfl) (hb hby at_332) (fun _ _ => ⟨rfl, (rfl : T43.heap = _), (by decide : 15 + 0 ≤ _), (by decide : 39 + 0 ≤ _)⟩)
          dsimp only [Pt.U, Pt.locs, Pt.cells, Pt.slots] at X52 l52 y52 z52 st52 hQ52
          subst l52 y52 z52
          obtain ⟨rfl, N52q, eq52⟩ := hQ52
          have N52 := Fr.app N43 N52q
          refine goT (u' := T52.setTop (mkF m 335 #[.val (.int p0), .val (.int p1), .val (.int p2), .val (.int p3), .val (.int p4), .val (.int f0), .val (.int t0), .val (.int f1), .val (.int t1), .val (.int f2), .val (.int t2), .val (.int cc), .val (.ref b25), .val (.ref b29), .val (.int ac), .val (.ref b35), .val (.int (B ((¬ (ac < (0 : Int32))) ∧ (((cc < (1 : Int32)) ∧ (((cc < (2 : Int32)) ∧ ((¬ (cc < (3 : Int32))) ∧ (t2 = ac))) ∨ ((¬ (cc < (2 : Int32))) ∧ ((t1 = ac) ∨ ((¬ (cc < (3 : Int32))) ∧ (t2 = ac)))))) ∨ ((¬ (cc < (1 : Int32))) ∧ ((t0 = ac) ∨ (((cc < (2 : Int32)) ∧ ((¬ (cc < (3 : Int32))) ∧ (t2 = ac))) ∨ ((¬ (cc < (2 : Int32))) ∧ ((t1 = ac) ∨ ((¬ (cc < (3 : Int32))) ∧ (t2 = ac)))))))))))] [(.int (B ((¬ (ac < (0 : Int32))) ∧ (¬ ((((ps2 (cn1 (own_l [t0]) 1) 3) ac.toNatClampNeg) = ((ps2 (cn1 (own_l [t0]) 1) 3) (ac + (1 : Int32)).toNatClampNeg)))))))])) st52 ?_
          refine go (u' := T52.setTop (mkF m 337 #[.val (.int p0), .val (.int p1), .val (.int p2), .val (.int p3), .val (.int p4), .val (.int f0), .val (.int t0), .val (.int f1), .val (.int t1), .val (.int f2), .val (.int t2), .val (.int cc), .val (.ref b25), .val (.ref b29), .val (.int ac), .val (.ref b35), .val (.int (B ((¬ (ac < (0 : Int32))) ∧ (((cc < (1 : Int32)) ∧ (((cc < (2 : Int32)) ∧ ((¬ (cc < (3 : Int32))) ∧ (t2 = ac))) ∨ ((¬ (cc < (2 : Int32))) ∧ ((t1 = ac) ∨ ((¬ (cc < (3 : Int32))) ∧ (t2 = ac)))))) ∨ ((¬ (cc < (1 : Int32))) ∧ ((t0 = ac) ∨ (((cc < (2 : Int32)) ∧ ((¬ (cc < (3 : Int32))) ∧ (t2 = ac))) ∨ ((¬ (cc < (2 : Int32))) ∧ ((t1 = ac) ∨ ((¬ (cc < (3 : Int32))) ∧ (t2 = ac)))))))))))] [(.int (B ((¬ (ac < (0 : Int32))) ∧ (((cc < (1 : Int32)) ∧ (((cc < (2 : Int32)) ∧ ((¬ (cc < (3 : Int32))) ∧ (t2 = ac))) ∨ ((¬ (cc < (2 : Int32))) ∧ ((t1 = ac) ∨ ((¬ (cc < (3 : Int32))) ∧ (t2 = ac)))))) ∨ ((¬ (cc < (1 : Int32))) ∧ ((t0 = ac) ∨ (((cc < (2 : Int32)) ∧ ((¬ (cc < (3 : Int32))) ∧ (t2 = ac))) ∨ ((¬ (cc < (2 : Int32))) ∧ ((t1 = ac) ∨ ((¬ (cc < (3 : Int32))) ∧ (t2 = ac))))))))))), (.int (B ((¬ (ac < (0 : Int32))) ∧ (¬ ((((ps2 (cn1 (own_l [t0]) 1) 3) ac.toNatClampNeg) = ((ps2 (cn1 (own_l [t0]) 1) 3) (ac + (1 : Int32)).toNatClampNeg)))))))])) (fun _ ks_ => XS.iload X52.here hx rfl (hb hby at_335) rfl  ks_) ?_
          refine go (u' := T52.setTop (mkF m 340 #[.val (.int p0), .val (.int p1), .val (.int p2), .val (.int p3), .val (.int p4), .val (.int f0), .val (.int t0), .val (.int f1), .val (.int t1), .val (.int f2), .val (.int t2), .val (.int cc), .val (.ref b25), .val (.ref b29), .val (.int ac), .val (.ref b35), .val (.int (B ((¬ (ac < (0 : Int32))) ∧ (((cc < (1 : Int32)) ∧ (((cc < (2 : Int32)) ∧ ((¬ (cc < (3 : Int32))) ∧ (t2 = ac))) ∨ ((¬ (cc < (2 : Int32))) ∧ ((t1 = ac) ∨ ((¬ (cc < (3 : Int32))) ∧ (t2 = ac)))))) ∨ ((¬ (cc < (1 : Int32))) ∧ ((t0 = ac) ∨ (((cc < (2 : Int32)) ∧ ((¬ (cc < (3 : Int32))) ∧ (t2 = ac))) ∨ ((¬ (cc < (2 : Int32))) ∧ ((t1 = ac) ∨ ((¬ (cc < (3 : Int32))) ∧ (t2 = ac)))))))))))] [])) (fun _ ks_ => XS.icmpNo X52.here hx rfl (hb hby at_337) rfl (teq (show (B ((¬ (ac < (0 : Int32))) ∧ (¬ ((((ps2 (cn1 (own_l [t0]) 1) 3) ac.toNatClampNeg) = ((ps2 (cn1 (own_l [t0]) 1) 3) (ac + (1 : Int32)).toNatClampNeg)))))) = (B ((¬ (ac < (0 : Int32))) ∧ (((cc < (1 : Int32)) ∧ (((cc < (2 : Int32)) ∧ ((¬ (cc < (3 : Int32))) ∧ (t2 = ac))) ∨ ((¬ (cc < (2 : Int32))) ∧ ((t1 = ac) ∨ ((¬ (cc < (3 : Int32))) ∧ (t2 = ac)))))) ∨ ((¬ (cc < (1 : Int32))) ∧ ((t0 = ac) ∨ (((cc < (2 : Int32)) ∧ ((¬ (cc < (3 : Int32))) ∧ (t2 = ac))) ∨ ((¬ (cc < (2 : Int32))) ∧ ((t1 = ac) ∨ ((¬ (cc < (3 : Int32))) ∧ (t2 = ac)))))))))) from (B_iff (own_fin1 cc ac f0 t0 f1 t1 f2 t2 c147_17 hac' ht0)))).2 ks_) ?_
          refine go (u' := T52.setTop (mkF m 341 #[.val (.int p0), .val (.int p1), .val (.int p2), .val (.int p3), .val (.int p4), .val (.int f0), .val (.int t0), .val (.int f1), .val (.int t1), .val (.int f2), .val (.int t2), .val (.int cc), .val (.ref b25), .val (.ref b29), .val (.int ac), .val (.ref b35), .val (.int (B ((¬ (ac < (0 : Int32))) ∧ (((cc < (1 : Int32)) ∧ (((cc < (2 : Int32)) ∧ ((¬ (cc < (3 : Int32))) ∧ (t2 = ac))) ∨ ((¬ (cc < (2 : Int32))) ∧ ((t1 = ac) ∨ ((¬ (cc < (3 : Int32))) ∧ (t2 = ac)))))) ∨ ((¬ (cc < (1 : Int32))) ∧ ((t0 = ac) ∨ (((cc < (2 : Int32)) ∧ ((¬ (cc < (3 : Int32))) ∧ (t2 = ac))) ∨ ((¬ (cc < (2 : Int32))) ∧ ((t1 = ac) ∨ ((¬ (cc < (3 : Int32))) ∧ (t2 = ac)))))))))))] [(.int (1 : Int32))])) (fun _ ks_ => XS.iconst X52.here hx rfl (hb hby at_340) ks_) ?_
          refine go (u' := T52.setTop (mkF m 345 #[.val (.int p0), .val (.int p1), .val (.int p2), .val (.int p3), .val (.int p4), .val (.int f0), .val (.int t0), .val (.int f1), .val (.int t1), .val (.int f2), .val (.int t2), .val (.int cc), .val (.ref b25), .val (.ref b29), .val (.int ac), .val (.ref b35), .val (.int (B ((¬ (ac < (0 : Int32))) ∧ (((cc < (1 : Int32)) ∧ (((cc < (2 : Int32)) ∧ ((¬ (cc < (3 : Int32))) ∧ (t2 = ac))) ∨ ((¬ (cc < (2 : Int32))) ∧ ((t1 = ac) ∨ ((¬ (cc < (3 : Int32))) ∧ (t2 = ac)))))) ∨ ((¬ (cc < (1 : Int32))) ∧ ((t0 = ac) ∨ (((cc < (2 : Int32)) ∧ ((¬ (cc < (3 : Int32))) ∧ (t2 = ac))) ∨ ((¬ (cc < (2 : Int32))) ∧ ((t1 = ac) ∨ ((¬ (cc < (3 : Int32))) ∧ (t2 = ac)))))))))))] [(.int (1 : Int32))])) (fun _ ks_ => XS.goto X52.here hx rfl (pc0 := 341) (pc' := 345) rfl (hb hby at_341) (by decide) (by decide) ks_) ?_
          rw [hG]
          refine gN X52 hx hlk (t := .boolean) hret (by simp) rfl (hb hby at_345) ?_ (Nat.le_of_ble_eq_true rfl) (Nat.le_of_ble_eq_true rfl)
          show Q_rm0 Z p0 p1 p2 p3 p4 h0 n0 (some (.int (1 : Int32))) T52.heap _
          rw [eq52]
          exact ⟨rfl, N52⟩
        by_cases c279_18 : ac < (0 : Int32)
        ·
          refine go (u' := T43.setTop (mkF m 325 #[.val (.int p0), .val (.int p1), .val (.int p2), .val (.int p3), .val (.int p4), .val (.int f0), .val (.int t0), .val (.int f1), .val (.int t1), .val (.int f2), .val (.int t2), .val (.int cc), .val (.ref b25), .val (.ref b29), .val (.int ac), .val (.ref b35), .unset] [])) (fun _ ks_ => XS.ifYes X43.here hx rfl (pc0 := 279) (pc' := 325) rfl (hb hby at_279) rfl ((if0 _ _).trans (tlt c279_18).1) (by decide) (by decide) ks_) ?_
          refine go (u' := T43.setTop (mkF m 326 #[.val (.int p0), .val (.int p1), .val (.int p2), .val (.int p3), .val (.int p4), .val (.int f0), .val (.int t0), .val (.int f1), .val (.int t1), .val (.int f2), .val (.int t2), .val (.int cc), .val (.ref b25), .val (.ref b29), .val (.int ac), .val (.ref b35), .unset] [(.int (0 : Int32))])) (fun _ ks_ => XS.iconst X43.here hx rfl (hb hby at_325) ks_) ?_
          exact J326_3 _ (B0 (fun q => (fun q => q c279_18) q.1))
        ·
          refine go (u' := T43.setTop (mkF m 282 #[.val (.int p0), .val (.int p1), .val (.int p2), .val (.int p3), .val (.int p4), .val (.int f0), .val (.int t0), .val (.int f1), .val (.int t1), .val (.int f2), .val (.int t2), .val (.int cc), .val (.ref b25), .val (.ref b29), .val (.int ac), .val (.ref b35), .unset] [])) (fun _ ks_ => XS.ifNo X43.here hx rfl (hb hby at_279) rfl ((if0 _ _).trans (flt c279_18).1) ks_) ?_
          refine go (u' := T43.setTop (mkF m 284 #[.val (.int p0), .val (.int p1), .val (.int p2), .val (.int p3), .val (.int p4), .val (.int f0), .val (.int t0), .val (.int f1), .val (.int t1), .val (.int f2), .val (.int t2), .val (.int cc), .val (.ref b25), .val (.ref b29), .val (.int ac), .val (.ref b35), .unset] [(.int cc)])) (fun _ ks_ => XS.iload X43.here hx rfl (hb hby at_282) rfl  ks_) ?_
          refine go (u' := T43.setTop (mkF m 285 #[.val (.int p0), .val (.int p1), .val (.int p2), .val (.int p3), .val (.int p4), .val (.int f0), .val (.int t0), .val (.int f1), .val (.int t1), .val (.int f2), .val (.int t2), .val (.int cc), .val (.ref b25), .val (.ref b29), .val (.int ac), .val (.ref b35), .unset] [(.int (1 : Int32)), (.int cc)])) (fun _ ks_ => XS.iconst X43.here hx rfl (hb hby at_284) ks_) ?_
          by_cases c285_19 : cc < (1 : Int32)
          ·
            refine go (u' := T43.setTop (mkF m 295 #[.val (.int p0), .val (.int p1), .val (.int p2), .val (.int p3), .val (.int p4), .val (.int f0), .val (.int t0), .val (.int f1), .val (.int t1), .val (.int f2), .val (.int t2), .val (.int cc), .val (.ref b25), .val (.ref b29), .val (.int ac), .val (.ref b35), .unset] [])) (fun _ ks_ => XS.icmpYes X43.here hx rfl (pc0 := 285) (pc' := 295) rfl (hb hby at_285) rfl (tlt c285_19).1 (by decide) (by decide) ks_) ?_
            refine go (u' := T43.setTop (mkF m 297 #[.val (.int p0), .val (.int p1), .val (.int p2), .val (.int p3), .val (.int p4), .val (.int f0), .val (.int t0), .val (.int f1), .val (.int t1), .val (.int f2), .val (.int t2), .val (.int cc), .val (.ref b25), .val (.ref b29), .val (.int ac), .val (.ref b35), .unset] [(.int cc)])) (fun _ ks_ => XS.iload X43.here hx rfl (hb hby at_295) rfl  ks_) ?_
            refine go (u' := T43.setTop (mkF m 298 #[.val (.int p0), .val (.int p1), .val (.int p2), .val (.int p3), .val (.int p4), .val (.int f0), .val (.int t0), .val (.int f1), .val (.int t1), .val (.int f2), .val (.int t2), .val (.int cc), .val (.ref b25), .val (.ref b29), .val (.int ac), .val (.ref b35), .unset] [(.int (2 : Int32)), (.int cc)])) (fun _ ks_ => XS.iconst X43.here hx rfl (hb hby at_297) ks_) ?_
            by_cases c298_20 : cc < (2 : Int32)
            ·
              refine go (u' := T43.setTop (mkF m 308 #[.val (.int p0), .val (.int p1), .val (.int p2), .val (.int p3), .val (.int p4), .val (.int f0), .val (.int t0), .val (.int f1), .val (.int t1), .val (.int f2), .val (.int t2), .val (.int cc), .val (.ref b25), .val (.ref b29), .val (.int ac), .val (.ref b35), .unset] [])) (fun _ ks_ => XS.icmpYes X43.here hx rfl (pc0 := 298) (pc' := 308) rfl (hb hby at_298) rfl (tlt c298_20).1 (by decide) (by decide) ks_) ?_
              refine go (u' := T43.setTop (mkF m 310 #[.val (.int p0), .val (.int p1), .val (.int p2), .val (.int p3), .val (.int p4), .val (.int f0), .val (.int t0), .val (.int f1), .val (.int t1), .val (.int f2), .val (.int t2), .val (.int cc), .val (.ref b25), .val (.ref b29), .val (.int ac), .val (.ref b35), .unset] [(.int cc)])) (fun _ ks_ => XS.iload X43.here hx rfl (hb hby at_308) rfl  ks_) ?_
              refine go (u' := T43.setTop (mkF m 311 #[.val (.int p0), .val (.int p1), .val (.int p2), .val (.int p3), .val (.int p4), .val (.int f0), .val (.int t0), .val (.int f1), .val (.int t1), .val (.int f2), .val (.int t2), .val (.int cc), .val (.ref b25), .val (.ref b29), .val (.int ac), .val (.ref b35), .unset] [(.int (3 : Int32)), (.int cc)])) (fun _ ks_ => XS.iconst X43.here hx rfl (hb hby at_310) ks_) ?_
              by_cases c311_21 : cc < (3 : Int32)
              ·
                refine go (u' := T43.setTop (mkF m 325 #[.val (.int p0), .val (.int p1), .val (.int p2), .val (.int p3), .val (.int p4), .val (.int f0), .val (.int t0), .val (.int f1), .val (.int t1), .val (.int f2), .val (.int t2), .val (.int cc), .val (.ref b25), .val (.ref b29), .val (.int ac), .val (.ref b35), .unset] [])) (fun _ ks_ => XS.icmpYes X43.here hx rfl (pc0 := 311) (pc' := 325) rfl (hb hby at_311) rfl (tlt c311_21).1 (by decide) (by decide) ks_) ?_
                refine go (u' := T43.setTop (mkF m 326 #[.val (.int p0), .val (.int p1), .val (.int p2), .val (.int p3), .val (.int p4), .val (.int f0), .val (.int t0), .val (.int f1), .val (.int t1), .val (.int f2), .val (.int t2), .val (.int cc), .val (.ref b25), .val (.ref b29), .val (.int ac), .val (.ref b35), .unset] [(.int (0 : Int32))])) (fun _ ks_ => XS.iconst X43.here hx rfl (hb hby at_325) ks_) ?_
                exact J326_3 _ (B0 (fun q => (fun q => q.elim (fun q => (fun q => q.elim (fun q => (fun q => (fun q => q c311_21) q.1) q.2) (fun q => (fun q => q c298_20) q.1)) q.2) (fun q => (fun q => q c285_19) q.1)) q.2))
              ·
                refine go (u' := T43.setTop (mkF m 314 #[.val (.int p0), .val (.int p1), .val (.int p2), .val (.int p3), .val (.int p4), .val (.int f0), .val (.int t0), .val (.int f1), .val (.int t1), .val (.int f2), .val (.int t2), .val (.int cc), .val (.ref b25), .val (.ref b29), .val (.int ac), .val (.ref b35), .unset] [])) (fun _ ks_ => XS.icmpNo X43.here hx rfl (hb hby at_311) rfl (flt c311_21).1 ks_) ?_
                refine go (u' := T43.setTop (mkF m 316 #[.val (.int p0), .val (.int p1), .val (.int p2), .val (.int p3), .val (.int p4), .val (.int f0), .val (.int t0), .val (.int f1), .val (.int t1), .val (.int f2), .val (.int t2), .val (.int cc), .val (.ref b25), .val (.ref b29), .val (.int ac), .val (.ref b35), .unset] [(.int t2)])) (fun _ ks_ => XS.iload X43.here hx rfl (hb hby at_314) rfl  ks_) ?_
                refine go (u' := T43.setTop (mkF m 318 #[.val (.int p0), .val (.int p1), .val (.int p2), .val (.int p3), .val (.int p4), .val (.int f0), .val (.int t0), .val (.int f1), .val (.int t1), .val (.int f2), .val (.int t2), .val (.int cc), .val (.ref b25), .val (.ref b29), .val (.int ac), .val (.ref b35), .unset] [(.int ac), (.int t2)])) (fun _ ks_ => XS.iload X43.here hx rfl (hb hby at_316) rfl  ks_) ?_
                by_cases c318_22 : t2 = ac
                ·
                  refine go (u' := T43.setTop (mkF m 321 #[.val (.int p0), .val (.int p1), .val (.int p2), .val (.int p3), .val (.int p4), .val (.int f0), .val (.int t0), .val (.int f1), .val (.int t1), .val (.int f2), .val (.int t2), .val (.int cc), .val (.ref b25), .val (.ref b29), .val (.int ac), .val (.ref b35), .unset] [])) (fun _ ks_ => XS.icmpNo X43.here hx rfl (hb hby at_318) rfl (teq c318_22).2 ks_) ?_
                  refine go (u' := T43.setTop (mkF m 322 #[.val (.int p0), .val (.int p1), .val (.int p2), .val (.int p3), .val (.int p4), .val (.int f0), .val (.int t0), .val (.int f1), .val (.int t1), .val (.int f2), .val (.int t2), .val (.int cc), .val (.ref b25), .val (.ref b29), .val (.int ac), .val (.ref b35), .unset] [(.int (1 : Int32))])) (fun _ ks_ => XS.iconst X43.here hx rfl (hb hby at_321) ks_) ?_
                  refine go (u' := T43.setTop (mkF m 326 #[.val (.int p0), .val (.int p1), .val (.int p2), .val (.int p3), .val (.int p4), .val (.int f0), .val (.int t0), .val (.int f1), .val (.int t1), .val (.int f2), .val (.int t2), .val (.int cc), .val (.ref b25), .val (.ref b29), .val (.int ac), .val (.ref b35), .unset] [(.int (1 : Int32))])) (fun _ ks_ => XS.goto X43.here hx rfl (pc0 := 322) (pc' := 326) rfl (hb hby at_322) (by decide) (by decide) ks_) ?_
                  exact J326_3 _ (B1 ⟨c279_18, (Or.inl ⟨c285_19, (Or.inl ⟨c298_20, ⟨c311_21, c318_22⟩⟩)⟩)⟩)
                ·
                  refine go (u' := T43.setTop (mkF m 325 #[.val (.int p0), .val (.int p1), .val (.int p2), .val (.int p3), .val (.int p4), .val (.int f0), .val (.int t0), .val (.int f1), .val (.int t1), .val (.int f2), .val (.int t2), .val (.int cc), .val (.ref b25), .val (.ref b29), .val (.int ac), .val (.ref b35), .unset] [])) (fun _ ks_ => XS.icmpYes X43.here hx rfl (pc0 := 318) (pc' := 325) rfl (hb hby at_318) rfl (feq c318_22).2 (by decide) (by decide) ks_) ?_
                  refine go (u' := T43.setTop (mkF m 326 #[.val (.int p0), .val (.int p1), .val (.int p2), .val (.int p3), .val (.int p4), .val (.int f0), .val (.int t0), .val (.int f1), .val (.int t1), .val (.int f2), .val (.int t2), .val (.int cc), .val (.ref b25), .val (.ref b29), .val (.int ac), .val (.ref b35), .unset] [(.int (0 : Int32))])) (fun _ ks_ => XS.iconst X43.here hx rfl (hb hby at_325) ks_) ?_
                  exact J326_3 _ (B0 (fun q => (fun q => q.elim (fun q => (fun q => q.elim (fun q => (fun q => c318_22 q.2) q.2) (fun q => (fun q => q c298_20) q.1)) q.2) (fun q => (fun q => q c285_19) q.1)) q.2))
            ·
              refine go (u' := T43.setTop (mkF m 301 #[.val (.int p0), .val (.int p1), .val (.int p2), .val (.int p3), .val (.int p4), .val (.int f0), .val (.int t0), .val (.int f1), .val (.int t1), .val (.int f2), .val (.int t2), .val (.int cc), .val (.ref b25), .val (.ref b29), .val (.int ac), .val (.ref b35), .unset] [])) (fun _ ks_ => XS.icmpNo X43.here hx rfl (hb hby at_298) rfl (flt c298_20).1 ks_) ?_
              refine go (u' := T43.setTop (mkF m 303 #[.val (.int p0), .val (.int p1), .val (.int p2), .val (.int p3), .val (.int p4), .val (.int f0), .val (.int t0), .val (.int f1), .val (.int t1), .val (.int f2), .val (.int t2), .val (.int cc), .val (.ref b25), .val (.ref b29), .val (.int ac), .val (.ref b35), .unset] [(.int t1)])) (fun _ ks_ => XS.iload X43.here hx rfl (hb hby at_301) rfl  ks_) ?_
              refine go (u' := T43.setTop (mkF m 305 #[.val (.int p0), .val (.int p1), .val (.int p2), .val (.int p3), .val (.int p4), .val (.int f0), .val (.int t0), .val (.int f1), .val (.int t1), .val (.int f2), .val (.int t2), .val (.int cc), .val (.ref b25), .val (.ref b29), .val (.int ac), .val (.ref b35), .unset] [(.int ac), (.int t1)])) (fun _ ks_ => XS.iload X43.here hx rfl (hb hby at_303) rfl  ks_) ?_
              by_cases c305_23 : t1 = ac
              ·
                refine go (u' := T43.setTop (mkF m 321 #[.val (.int p0), .val (.int p1), .val (.int p2), .val (.int p3), .val (.int p4), .val (.int f0), .val (.int t0), .val (.int f1), .val (.int t1), .val (.int f2), .val (.int t2), .val (.int cc), .val (.ref b25), .val (.ref b29), .val (.int ac), .val (.ref b35), .unset] [])) (fun _ ks_ => XS.icmpYes X43.here hx rfl (pc0 := 305) (pc' := 321) rfl (hb hby at_305) rfl (teq c305_23).1 (by decide) (by decide) ks_) ?_
                refine go (u' := T43.setTop (mkF m 322 #[.val (.int p0), .val (.int p1), .val (.int p2), .val (.int p3), .val (.int p4), .val (.int f0), .val (.int t0), .val (.int f1), .val (.int t1), .val (.int f2), .val (.int t2), .val (.int cc), .val (.ref b25), .val (.ref b29), .val (.int ac), .val (.ref b35), .unset] [(.int (1 : Int32))])) (fun _ ks_ => XS.iconst X43.here hx rfl (hb hby at_321) ks_) ?_
                refine go (u' := T43.setTop (mkF m 326 #[.val (.int p0), .val (.int p1), .val (.int p2), .val (.int p3), .val (.int p4), .val (.int f0), .val (.int t0), .val (.int f1), .val (.int t1), .val (.int f2), .val (.int t2), .val (.int cc), .val (.ref b25), .val (.ref b29), .val (.int ac), .val (.ref b35), .unset] [(.int (1 : Int32))])) (fun _ ks_ => XS.goto X43.here hx rfl (pc0 := 322) (pc' := 326) rfl (hb hby at_322) (by decide) (by decide) ks_) ?_
                exact J326_3 _ (B1 ⟨c279_18, (Or.inl ⟨c285_19, (Or.inr ⟨c298_20, (Or.inl c305_23)⟩)⟩)⟩)
              ·
                refine go (u' := T43.setTop (mkF m 308 #[.val (.int p0), .val (.int p1), .val (.int p2), .val (.int p3), .val (.int p4), .val (.int f0), .val (.int t0), .val (.int f1), .val (.int t1), .val (.int f2), .val (.int t2), .val (.int cc), .val (.ref b25), .val (.ref b29), .val (.int ac), .val (.ref b35), .unset] [])) (fun _ ks_ => XS.icmpNo X43.here hx rfl (hb hby at_305) rfl (feq c305_23).1 ks_) ?_
                refine go (u' := T43.setTop (mkF m 310 #[.val (.int p0), .val (.int p1), .val (.int p2), .val (.int p3), .val (.int p4), .val (.int f0), .val (.int t0), .val (.int f1), .val (.int t1), .val (.int f2), .val (.int t2), .val (.int cc), .val (.ref b25), .val (.ref b29), .val (.int ac), .val (.ref b35), .unset] [(.int cc)])) (fun _ ks_ => XS.iload X43.here hx rfl (hb hby at_308) rfl  ks_) ?_
                refine go (u' := T43.setTop (mkF m 311 #[.val (.int p0), .val (.int p1), .val (.int p2), .val (.int p3), .val (.int p4), .val (.int f0), .val (.int t0), .val (.int f1), .val (.int t1), .val (.int f2), .val (.int t2), .val (.int cc), .val (.ref b25), .val (.ref b29), .val (.int ac), .val (.ref b35), .unset] [(.int (3 : Int32)), (.int cc)])) (fun _ ks_ => XS.iconst X43.here hx rfl (hb hby at_310) ks_) ?_
                by_cases c311_24 : cc < (3 : Int32)
                ·
                  refine go (u' := T43.setTop (mkF m 325 #[.val (.int p0), .val (.int p1), .val (.int p2), .val (.int p3), .val (.int p4), .val (.int f0), .val (.int t0), .val (.int f1), .val (.int t1), .val (.int f2), .val (.int t2), .val (.int cc), .val (.ref b25), .val (.ref b29), .val (.int ac), .val (.ref b35), .unset] [])) (fun _ ks_ => XS.icmpYes X43.here hx rfl (pc0 := 311) (pc' := 325) rfl (hb hby at_311) rfl (tlt c311_24).1 (by decide) (by decide) ks_) ?_
                  refine go (u' := T43.setTop (mkF m 326 #[.val (.int p0), .val (.int p1), .val (.int p2), .val (.int p3), .val (.int p4), .val (.int f0), .val (.int t0), .val (.int f1), .val (.int t1), .val (.int f2), .val (.int t2), .val (.int cc), .val (.ref b25), .val (.ref b29), .val (.int ac), .val (.ref b35), .unset] [(.int (0 : Int32))])) (fun _ ks_ => XS.iconst X43.here hx rfl (hb hby at_325) ks_) ?_
                  exact J326_3 _ (B0 (fun q => (fun q => q.elim (fun q => (fun q => q.elim (fun q => c298_20 q.1) (fun q => (fun q => q.elim c305_23 (fun q => (fun q => q c311_24) q.1)) q.2)) q.2) (fun q => (fun q => q c285_19) q.1)) q.2))
                ·
                  refine go (u' := T43.setTop (mkF m 314 #[.val (.int p0), .val (.int p1), .val (.int p2), .val (.int p3), .val (.int p4), .val (.int f0), .val (.int t0), .val (.int f1), .val (.int t1), .val (.int f2), .val (.int t2), .val (.int cc), .val (.ref b25), .val (.ref b29), .val (.int ac), .val (.ref b35), .unset] [])) (fun _ ks_ => XS.icmpNo X43.here hx rfl (hb hby at_311) rfl (flt c311_24).1 ks_) ?_
                  refine go (u' := T43.setTop (mkF m 316 #[.val (.int p0), .val (.int p1), .val (.int p2), .val (.int p3), .val (.int p4), .val (.int f0), .val (.int t0), .val (.int f1), .val (.int t1), .val (.int f2), .val (.int t2), .val (.int cc), .val (.ref b25), .val (.ref b29), .val (.int ac), .val (.ref b35), .unset] [(.int t2)])) (fun _ ks_ => XS.iload X43.here hx rfl (hb hby at_314) rfl  ks_) ?_
                  refine go (u' := T43.setTop (mkF m 318 #[.val (.int p0), .val (.int p1), .val (.int p2), .val (.int p3), .val (.int p4), .val (.int f0), .val (.int t0), .val (.int f1), .val (.int t1), .val (.int f2), .val (.int t2), .val (.int cc), .val (.ref b25), .val (.ref b29), .val (.int ac), .val (.ref b35), .unset] [(.int ac), (.int t2)])) (fun _ ks_ => XS.iload X43.here hx rfl (hb hby at_316) rfl  ks_) ?_
                  by_cases c318_25 : t2 = ac
                  ·
                    refine go (u' := T43.setTop (mkF m 321 #[.val (.int p0), .val (.int p1), .val (.int p2), .val (.int p3), .val (.int p4), .val (.int f0), .val (.int t0), .val (.int f1), .val (.int t1), .val (.int f2), .val (.int t2), .val (.int cc), .val (.ref b25), .val (.ref b29), .val (.int ac), .val (.ref b35), .unset] [])) (fun _ ks_ => XS.icmpNo X43.here hx rfl (hb hby at_318) rfl (teq c318_25).2 ks_) ?_
                    refine go (u' := T43.setTop (mkF m 322 #[.val (.int p0), .val (.int p1), .val (.int p2), .val (.int p3), .val (.int p4), .val (.int f0), .val (.int t0), .val (.int f1), .val (.int t1), .val (.int f2), .val (.int t2), .val (.int cc), .val (.ref b25), .val (.ref b29), .val (.int ac), .val (.ref b35), .unset] [(.int (1 : Int32))])) (fun _ ks_ => XS.iconst X43.here hx rfl (hb hby at_321) ks_) ?_
                    refine go (u' := T43.setTop (mkF m 326 #[.val (.int p0), .val (.int p1), .val (.int p2), .val (.int p3), .val (.int p4), .val (.int f0), .val (.int t0), .val (.int f1), .val (.int t1), .val (.int f2), .val (.int t2), .val (.int cc), .val (.ref b25), .val (.ref b29), .val (.int ac), .val (.ref b35), .unset] [(.int (1 : Int32))])) (fun _ ks_ => XS.goto X43.here hx rfl (pc0 := 322) (pc' := 326) rfl (hb hby at_322) (by decide) (by decide) ks_) ?_
                    exact J326_3 _ (B1 ⟨c279_18, (Or.inl ⟨c285_19, (Or.inr ⟨c298_20, (Or.inr ⟨c311_24, c318_25⟩)⟩)⟩)⟩)
                  ·
                    refine go (u' := T43.setTop (mkF m 325 #[.val (.int p0), .val (.int p1), .val (.int p2), .val (.int p3), .val (.int p4), .val (.int f0), .val (.int t0), .val (.int f1), .val (.int t1), .val (.int f2), .val (.int t2), .val (.int cc), .val (.ref b25), .val (.ref b29), .val (.int ac), .val (.ref b35), .unset] [])) (fun _ ks_ => XS.icmpYes X43.here hx rfl (pc0 := 318) (pc' := 325) rfl (hb hby at_318) rfl (feq c318_25).2 (by decide) (by decide) ks_) ?_
                    refine go (u' := T43.setTop (mkF m 326 #[.val (.int p0), .val (.int p1), .val (.int p2), .val (.int p3), .val (.int p4), .val (.int f0), .val (.int t0), .val (.int f1), .val (.int t1), .val (.int f2), .val (.int t2), .val (.int cc), .val (.ref b25), .val (.ref b29), .val (.int ac), .val (.ref b35), .unset] [(.int (0 : Int32))])) (fun _ ks_ => XS.iconst X43.here hx rfl (hb hby at_325) ks_) ?_
                    exact J326_3 _ (B0 (fun q => (fun q => q.elim (fun q => (fun q => q.elim (fun q => c298_20 q.1) (fun q => (fun q => q.elim c305_23 (fun q => c318_25 q.2)) q.2)) q.2) (fun q => (fun q => q c285_19) q.1)) q.2))
          ·
            refine go (u' := T43.setTop (mkF m 288 #[.val (.int p0), .val (.int p1), .val (.int p2), .val (.int p3), .val (.int p4), .val (.int f0), .val (.int t0), .val (.int f1), .val (.int t1), .val (.int f2), .val (.int t2), .val (.int cc), .val (.ref b25), .val (.ref b29), .val (.int ac), .val (.ref b35), .unset] [])) (fun _ ks_ => XS.icmpNo X43.here hx rfl (hb hby at_285) rfl (flt c285_19).1 ks_) ?_
            refine go (u' := T43.setTop (mkF m 290 #[.val (.int p0), .val (.int p1), .val (.int p2), .val (.int p3), .val (.int p4), .val (.int f0), .val (.int t0), .val (.int f1), .val (.int t1), .val (.int f2), .val (.int t2), .val (.int cc), .val (.ref b25), .val (.ref b29), .val (.int ac), .val (.ref b35), .unset] [(.int t0)])) (fun _ ks_ => XS.iload X43.here hx rfl (hb hby at_288) rfl  ks_) ?_
            refine go (u' := T43.setTop (mkF m 292 #[.val (.int p0), .val (.int p1), .val (.int p2), .val (.int p3), .val (.int p4), .val (.int f0), .val (.int t0), .val (.int f1), .val (.int t1), .val (.int f2), .val (.int t2), .val (.int cc), .val (.ref b25), .val (.ref b29), .val (.int ac), .val (.ref b35), .unset] [(.int ac), (.int t0)])) (fun _ ks_ => XS.iload X43.here hx rfl (hb hby at_290) rfl  ks_) ?_
            by_cases c292_26 : t0 = ac
            ·
              refine go (u' := T43.setTop (mkF m 321 #[.val (.int p0), .val (.int p1), .val (.int p2), .val (.int p3), .val (.int p4), .val (.int f0), .val (.int t0), .val (.int f1), .val (.int t1), .val (.int f2), .val (.int t2), .val (.int cc), .val (.ref b25), .val (.ref b29), .val (.int ac), .val (.ref b35), .unset] [])) (fun _ ks_ => XS.icmpYes X43.here hx rfl (pc0 := 292) (pc' := 321) rfl (hb hby at_292) rfl (teq c292_26).1 (by decide) (by decide) ks_) ?_
              refine go (u' := T43.setTop (mkF m 322 #[.val (.int p0), .val (.int p1), .val (.int p2), .val (.int p3), .val (.int p4), .val (.int f0), .val (.int t0), .val (.int f1), .val (.int t1), .val (.int f2), .val (.int t2), .val (.int cc), .val (.ref b25), .val (.ref b29), .val (.int ac), .val (.ref b35), .unset] [(.int (1 : Int32))])) (fun _ ks_ => XS.iconst X43.here hx rfl (hb hby at_321) ks_) ?_
              refine go (u' := T43.setTop (mkF m 326 #[.val (.int p0), .val (.int p1), .val (.int p2), .val (.int p3), .val (.int p4), .val (.int f0), .val (.int t0), .val (.int f1), .val (.int t1), .val (.int f2), .val (.int t2), .val (.int cc), .val (.ref b25), .val (.ref b29), .val (.int ac), .val (.ref b35), .unset] [(.int (1 : Int32))])) (fun _ ks_ => XS.goto X43.here hx rfl (pc0 := 322) (pc' := 326) rfl (hb hby at_322) (by decide) (by decide) ks_) ?_
              exact J326_3 _ (B1 ⟨c279_18, (Or.inr ⟨c285_19, (Or.inl c292_26)⟩)⟩)
            ·
              refine go (u' := T43.setTop (mkF m 295 #[.val (.int p0), .val (.int p1), .val (.int p2), .val (.int p3), .val (.int p4), .val (.int f0), .val (.int t0), .val (.int f1), .val (.int t1), .val (.int f2), .val (.int t2), .val (.int cc), .val (.ref b25), .val (.ref b29), .val (.int ac), .val (.ref b35), .unset] [])) (fun _ ks_ => XS.icmpNo X43.here hx rfl (hb hby at_292) rfl (feq c292_26).1 ks_) ?_
              refine go (u' := T43.setTop (mkF m 297 #[.val (.int p0), .val (.int p1), .val (.int p2), .val (.int p3), .val (.int p4), .val (.int f0), .val (.int t0), .val (.int f1), .val (.int t1), .val (.int f2), .val (.int t2), .val (.int cc), .val (.ref b25), .val (.ref b29), .val (.int ac), .val (.ref b35), .unset] [(.int cc)])) (fun _ ks_ => XS.iload X43.here hx rfl (hb hby at_295) rfl  ks_) ?_
              refine go (u' := T43.setTop (mkF m 298 #[.val (.int p0), .val (.int p1), .val (.int p2), .val (.int p3), .val (.int p4), .val (.int f0), .val (.int t0), .val (.int f1), .val (.int t1), .val (.int f2), .val (.int t2), .val (.int cc), .val (.ref b25), .val (.ref b29), .val (.int ac), .val (.ref b35), .unset] [(.int (2 : Int32)), (.int cc)])) (fun _ ks_ => XS.iconst X43.here hx rfl (hb hby at_297) ks_) ?_
              by_cases c298_27 : cc < (2 : Int32)
              ·
                refine go (u' := T43.setTop (mkF m 308 #[.val (.int p0), .val (.int p1), .val (.int p2), .val (.int p3), .val (.int p4), .val (.int f0), .val (.int t0), .val (.int f1), .val (.int t1), .val (.int f2), .val (.int t2), .val (.int cc), .val (.ref b25), .val (.ref b29), .val (.int ac), .val (.ref b35), .unset] [])) (fun _ ks_ => XS.icmpYes X43.here hx rfl (pc0 := 298) (pc' := 308) rfl (hb hby at_298) rfl (tlt c298_27).1 (by decide) (by decide) ks_) ?_
                refine go (u' := T43.setTop (mkF m 310 #[.val (.int p0), .val (.int p1), .val (.int p2), .val (.int p3), .val (.int p4), .val (.int f0), .val (.int t0), .val (.int f1), .val (.int t1), .val (.int f2), .val (.int t2), .val (.int cc), .val (.ref b25), .val (.ref b29), .val (.int ac), .val (.ref b35), .unset] [(.int cc)])) (fun _ ks_ => XS.iload X43.here hx rfl (hb hby at_308) rfl  ks_) ?_
                refine go (u' := T43.setTop (mkF m 311 #[.val (.int p0), .val (.int p1), .val (.int p2), .val (.int p3), .val (.int p4), .val (.int f0), .val (.int t0), .val (.int f1), .val (.int t1), .val (.int f2), .val (.int t2), .val (.int cc), .val (.ref b25), .val (.ref b29), .val (.int ac), .val (.ref b35), .unset] [(.int (3 : Int32)), (.int cc)])) (fun _ ks_ => XS.iconst X43.here hx rfl (hb hby at_310) ks_) ?_
                by_cases c311_28 : cc < (3 : Int32)
                ·
                  refine go (u' := T43.setTop (mkF m 325 #[.val (.int p0), .val (.int p1), .val (.int p2), .val (.int p3), .val (.int p4), .val (.int f0), .val (.int t0), .val (.int f1), .val (.int t1), .val (.int f2), .val (.int t2), .val (.int cc), .val (.ref b25), .val (.ref b29), .val (.int ac), .val (.ref b35), .unset] [])) (fun _ ks_ => XS.icmpYes X43.here hx rfl (pc0 := 311) (pc' := 325) rfl (hb hby at_311) rfl (tlt c311_28).1 (by decide) (by decide) ks_) ?_
                  refine go (u' := T43.setTop (mkF m 326 #[.val (.int p0), .val (.int p1), .val (.int p2), .val (.int p3), .val (.int p4), .val (.int f0), .val (.int t0), .val (.int f1), .val (.int t1), .val (.int f2), .val (.int t2), .val (.int cc), .val (.ref b25), .val (.ref b29), .val (.int ac), .val (.ref b35), .unset] [(.int (0 : Int32))])) (fun _ ks_ => XS.iconst X43.here hx rfl (hb hby at_325) ks_) ?_
                  exact J326_3 _ (B0 (fun q => (fun q => q.elim (fun q => c285_19 q.1) (fun q => (fun q => q.elim c292_26 (fun q => q.elim (fun q => (fun q => (fun q => q c311_28) q.1) q.2) (fun q => (fun q => q c298_27) q.1))) q.2)) q.2))
                ·
                  refine go (u' := T43.setTop (mkF m 314 #[.val (.int p0), .val (.int p1), .val (.int p2), .val (.int p3), .val (.int p4), .val (.int f0), .val (.int t0), .val (.int f1), .val (.int t1), .val (.int f2), .val (.int t2), .val (.int cc), .val (.ref b25), .val (.ref b29), .val (.int ac), .val (.ref b35), .unset] [])) (fun _ ks_ => XS.icmpNo X43.here hx rfl (hb hby at_311) rfl (flt c311_28).1 ks_) ?_
                  refine go (u' := T43.setTop (mkF m 316 #[.val (.int p0), .val (.int p1), .val (.int p2), .val (.int p3), .val (.int p4), .val (.int f0), .val (.int t0), .val (.int f1), .val (.int t1), .val (.int f2), .val (.int t2), .val (.int cc), .val (.ref b25), .val (.ref b29), .val (.int ac), .val (.ref b35), .unset] [(.int t2)])) (fun _ ks_ => XS.iload X43.here hx rfl (hb hby at_314) rfl  ks_) ?_
                  refine go (u' := T43.setTop (mkF m 318 #[.val (.int p0), .val (.int p1), .val (.int p2), .val (.int p3), .val (.int p4), .val (.int f0), .val (.int t0), .val (.int f1), .val (.int t1), .val (.int f2), .val (.int t2), .val (.int cc), .val (.ref b25), .val (.ref b29), .val (.int ac), .val (.ref b35), .unset] [(.int ac), (.int t2)])) (fun _ ks_ => XS.iload X43.here hx rfl (hb hby at_316) rfl  ks_) ?_
                  by_cases c318_29 : t2 = ac
                  ·
                    refine go (u' := T43.setTop (mkF m 321 #[.val (.int p0), .val (.int p1), .val (.int p2), .val (.int p3), .val (.int p4), .val (.int f0), .val (.int t0), .val (.int f1), .val (.int t1), .val (.int f2), .val (.int t2), .val (.int cc), .val (.ref b25), .val (.ref b29), .val (.int ac), .val (.ref b35), .unset] [])) (fun _ ks_ => XS.icmpNo X43.here hx rfl (hb hby at_318) rfl (teq c318_29).2 ks_) ?_
                    refine go (u' := T43.setTop (mkF m 322 #[.val (.int p0), .val (.int p1), .val (.int p2), .val (.int p3), .val (.int p4), .val (.int f0), .val (.int t0), .val (.int f1), .val (.int t1), .val (.int f2), .val (.int t2), .val (.int cc), .val (.ref b25), .val (.ref b29), .val (.int ac), .val (.ref b35), .unset] [(.int (1 : Int32))])) (fun _ ks_ => XS.iconst X43.here hx rfl (hb hby at_321) ks_) ?_
                    refine go (u' := T43.setTop (mkF m 326 #[.val (.int p0), .val (.int p1), .val (.int p2), .val (.int p3), .val (.int p4), .val (.int f0), .val (.int t0), .val (.int f1), .val (.int t1), .val (.int f2), .val (.int t2), .val (.int cc), .val (.ref b25), .val (.ref b29), .val (.int ac), .val (.ref b35), .unset] [(.int (1 : Int32))])) (fun _ ks_ => XS.goto X43.here hx rfl (pc0 := 322) (pc' := 326) rfl (hb hby at_322) (by decide) (by decide) ks_) ?_
                    exact J326_3 _ (B1 ⟨c279_18, (Or.inr ⟨c285_19, (Or.inr (Or.inl ⟨c298_27, ⟨c311_28, c318_29⟩⟩))⟩)⟩)
                  ·
                    refine go (u' := T43.setTop (mkF m 325 #[.val (.int p0), .val (.int p1), .val (.int p2), .val (.int p3), .val (.int p4), .val (.int f0), .val (.int t0), .val (.int f1), .val (.int t1), .val (.int f2), .val (.int t2), .val (.int cc), .val (.ref b25), .val (.ref b29), .val (.int ac), .val (.ref b35), .unset] [])) (fun _ ks_ => XS.icmpYes X43.here hx rfl (pc0 := 318) (pc' := 325) rfl (hb hby at_318) rfl (feq c318_29).2 (by decide) (by decide) ks_) ?_
                    refine go (u' := T43.setTop (mkF m 326 #[.val (.int p0), .val (.int p1), .val (.int p2), .val (.int p3), .val (.int p4), .val (.int f0), .val (.int t0), .val (.int f1), .val (.int t1), .val (.int f2), .val (.int t2), .val (.int cc), .val (.ref b25), .val (.ref b29), .val (.int ac), .val (.ref b35), .unset] [(.int (0 : Int32))])) (fun _ ks_ => XS.iconst X43.here hx rfl (hb hby at_325) ks_) ?_
                    exact J326_3 _ (B0 (fun q => (fun q => q.elim (fun q => c285_19 q.1) (fun q => (fun q => q.elim c292_26 (fun q => q.elim (fun q => (fun q => c318_29 q.2) q.2) (fun q => (fun q => q c298_27) q.1))) q.2)) q.2))
              ·
                refine go (u' := T43.setTop (mkF m 301 #[.val (.int p0), .val (.int p1), .val (.int p2), .val (.int p3), .val (.int p4), .val (.int f0), .val (.int t0), .val (.int f1), .val (.int t1), .val (.int f2), .val (.int t2), .val (.int cc), .val (.ref b25), .val (.ref b29), .val (.int ac), .val (.ref b35), .unset] [])) (fun _ ks_ => XS.icmpNo X43.here hx rfl (hb hby at_298) rfl (flt c298_27).1 ks_) ?_
                refine go (u' := T43.setTop (mkF m 303 #[.val (.int p0), .val (.int p1), .val (.int p2), .val (.int p3), .val (.int p4), .val (.int f0), .val (.int t0), .val (.int f1), .val (.int t1), .val (.int f2), .val (.int t2), .val (.int cc), .val (.ref b25), .val (.ref b29), .val (.int ac), .val (.ref b35), .unset] [(.int t1)])) (fun _ ks_ => XS.iload X43.here hx rfl (hb hby at_301) rfl  ks_) ?_
                refine go (u' := T43.setTop (mkF m 305 #[.val (.int p0), .val (.int p1), .val (.int p2), .val (.int p3), .val (.int p4), .val (.int f0), .val (.int t0), .val (.int f1), .val (.int t1), .val (.int f2), .val (.int t2), .val (.int cc), .val (.ref b25), .val (.ref b29), .val (.int ac), .val (.ref b35), .unset] [(.int ac), (.int t1)])) (fun _ ks_ => XS.iload X43.here hx rfl (hb hby at_303) rfl  ks_) ?_
                by_cases c305_30 : t1 = ac
                ·
                  refine go (u' := T43.setTop (mkF m 321 #[.val (.int p0), .val (.int p1), .val (.int p2), .val (.int p3), .val (.int p4), .val (.int f0), .val (.int t0), .val (.int f1), .val (.int t1), .val (.int f2), .val (.int t2), .val (.int cc), .val (.ref b25), .val (.ref b29), .val (.int ac), .val (.ref b35), .unset] [])) (fun _ ks_ => XS.icmpYes X43.here hx rfl (pc0 := 305) (pc' := 321) rfl (hb hby at_305) rfl (teq c305_30).1 (by decide) (by decide) ks_) ?_
                  refine go (u' := T43.setTop (mkF m 322 #[.val (.int p0), .val (.int p1), .val (.int p2), .val (.int p3), .val (.int p4), .val (.int f0), .val (.int t0), .val (.int f1), .val (.int t1), .val (.int f2), .val (.int t2), .val (.int cc), .val (.ref b25), .val (.ref b29), .val (.int ac), .val (.ref b35), .unset] [(.int (1 : Int32))])) (fun _ ks_ => XS.iconst X43.here hx rfl (hb hby at_321) ks_) ?_
                  refine go (u' := T43.setTop (mkF m 326 #[.val (.int p0), .val (.int p1), .val (.int p2), .val (.int p3), .val (.int p4), .val (.int f0), .val (.int t0), .val (.int f1), .val (.int t1), .val (.int f2), .val (.int t2), .val (.int cc), .val (.ref b25), .val (.ref b29), .val (.int ac), .val (.ref b35), .unset] [(.int (1 : Int32))])) (fun _ ks_ => XS.goto X43.here hx rfl (pc0 := 322) (pc' := 326) rfl (hb hby at_322) (by decide) (by decide) ks_) ?_
                  exact J326_3 _ (B1 ⟨c279_18, (Or.inr ⟨c285_19, (Or.inr (Or.inr ⟨c298_27, (Or.inl c305_30)⟩))⟩)⟩)
                ·
                  refine go (u' := T43.setTop (mkF m 308 #[.val (.int p0), .val (.int p1), .val (.int p2), .val (.int p3), .val (.int p4), .val (.int f0), .val (.int t0), .val (.int f1), .val (.int t1), .val (.int f2), .val (.int t2), .val (.int cc), .val (.ref b25), .val (.ref b29), .val (.int ac), .val (.ref b35), .unset] [])) (fun _ ks_ => XS.icmpNo X43.here hx rfl (hb hby at_305) rfl (feq c305_30).1 ks_) ?_
                  refine go (u' := T43.setTop (mkF m 310 #[.val (.int p0), .val (.int p1), .val (.int p2), .val (.int p3), .val (.int p4), .val (.int f0), .val (.int t0), .val (.int f1), .val (.int t1), .val (.int f2), .val (.int t2), .val (.int cc), .val (.ref b25), .val (.ref b29), .val (.int ac), .val (.ref b35), .unset] [(.int cc)])) (fun _ ks_ => XS.iload X43.here hx rfl (hb hby at_308) rfl  ks_) ?_
                  refine go (u' := T43.setTop (mkF m 311 #[.val (.int p0), .val (.int p1), .val (.int p2), .val (.int p3), .val (.int p4), .val (.int f0), .val (.int t0), .val (.int f1), .val (.int t1), .val (.int f2), .val (.int t2), .val (.int cc), .val (.ref b25), .val (.ref b29), .val (.int ac), .val (.ref b35), .unset] [(.int (3 : Int32)), (.int cc)])) (fun _ ks_ => XS.iconst X43.here hx rfl (hb hby at_310) ks_) ?_
                  by_cases c311_31 : cc < (3 : Int32)
                  ·
                    refine go (u' := T43.setTop (mkF m 325 #[.val (.int p0), .val (.int p1), .val (.int p2), .val (.int p3), .val (.int p4), .val (.int f0), .val (.int t0), .val (.int f1), .val (.int t1), .val (.int f2), .val (.int t2), .val (.int cc), .val (.ref b25), .val (.ref b29), .val (.int ac), .val (.ref b35), .unset] [])) (fun _ ks_ => XS.icmpYes X43.here hx rfl (pc0 := 311) (pc' := 325) rfl (hb hby at_311) rfl (tlt c311_31).1 (by decide) (by decide) ks_) ?_
                    refine go (u' := T43.setTop (mkF m 326 #[.val (.int p0), .val (.int p1), .val (.int p2), .val (.int p3), .val (.int p4), .val (.int f0), .val (.int t0), .val (.int f1), .val (.int t1), .val (.int f2), .val (.int t2), .val (.int cc), .val (.ref b25), .val (.ref b29), .val (.int ac), .val (.ref b35), .unset] [(.int (0 : Int32))])) (fun _ ks_ => XS.iconst X43.here hx rfl (hb hby at_325) ks_) ?_
                    exact J326_3 _ (B0 (fun q => (fun q => q.elim (fun q => c285_19 q.1) (fun q => (fun q => q.elim c292_26 (fun q => q.elim (fun q => c298_27 q.1) (fun q => (fun q => q.elim c305_30 (fun q => (fun q => q c311_31) q.1)) q.2))) q.2)) q.2))
                  ·
                    refine go (u' := T43.setTop (mkF m 314 #[.val (.int p0), .val (.int p1), .val (.int p2), .val (.int p3), .val (.int p4), .val (.int f0), .val (.int t0), .val (.int f1), .val (.int t1), .val (.int f2), .val (.int t2), .val (.int cc), .val (.ref b25), .val (.ref b29), .val (.int ac), .val (.ref b35), .unset] [])) (fun _ ks_ => XS.icmpNo X43.here hx rfl (hb hby at_311) rfl (flt c311_31).1 ks_) ?_
                    refine go (u' := T43.setTop (mkF m 316 #[.val (.int p0), .val (.int p1), .val (.int p2), .val (.int p3), .val (.int p4), .val (.int f0), .val (.int t0), .val (.int f1), .val (.int t1), .val (.int f2), .val (.int t2), .val (.int cc), .val (.ref b25), .val (.ref b29), .val (.int ac), .val (.ref b35), .unset] [(.int t2)])) (fun _ ks_ => XS.iload X43.here hx rfl (hb hby at_314) rfl  ks_) ?_
                    refine go (u' := T43.setTop (mkF m 318 #[.val (.int p0), .val (.int p1), .val (.int p2), .val (.int p3), .val (.int p4), .val (.int f0), .val (.int t0), .val (.int f1), .val (.int t1), .val (.int f2), .val (.int t2), .val (.int cc), .val (.ref b25), .val (.ref b29), .val (.int ac), .val (.ref b35), .unset] [(.int ac), (.int t2)])) (fun _ ks_ => XS.iload X43.here hx rfl (hb hby at_316) rfl  ks_) ?_
                    by_cases c318_32 : t2 = ac
                    ·
                      refine go (u' := T43.setTop (mkF m 321 #[.val (.int p0), .val (.int p1), .val (.int p2), .val (.int p3), .val (.int p4), .val (.int f0), .val (.int t0), .val (.int f1), .val (.int t1), .val (.int f2), .val (.int t2), .val (.int cc), .val (.ref b25), .val (.ref b29), .val (.int ac), .val (.ref b35), .unset] [])) (fun _ ks_ => XS.icmpNo X43.here hx rfl (hb hby at_318) rfl (teq c318_32).2 ks_) ?_
                      refine go (u' := T43.setTop (mkF m 322 #[.val (.int p0), .val (.int p1), .val (.int p2), .val (.int p3), .val (.int p4), .val (.int f0), .val (.int t0), .val (.int f1), .val (.int t1), .val (.int f2), .val (.int t2), .val (.int cc), .val (.ref b25), .val (.ref b29), .val (.int ac), .val (.ref b35), .unset] [(.int (1 : Int32))])) (fun _ ks_ => XS.iconst X43.here hx rfl (hb hby at_321) ks_) ?_
                      refine go (u' := T43.setTop (mkF m 326 #[.val (.int p0), .val (.int p1), .val (.int p2), .val (.int p3), .val (.int p4), .val (.int f0), .val (.int t0), .val (.int f1), .val (.int t1), .val (.int f2), .val (.int t2), .val (.int cc), .val (.ref b25), .val (.ref b29), .val (.int ac), .val (.ref b35), .unset] [(.int (1 : Int32))])) (fun _ ks_ => XS.goto X43.here hx rfl (pc0 := 322) (pc' := 326) rfl (hb hby at_322) (by decide) (by decide) ks_) ?_
                      exact J326_3 _ (B1 ⟨c279_18, (Or.inr ⟨c285_19, (Or.inr (Or.inr ⟨c298_27, (Or.inr ⟨c311_31, c318_32⟩)⟩))⟩)⟩)
                    ·
                      refine go (u' := T43.setTop (mkF m 325 #[.val (.int p0), .val (.int p1), .val (.int p2), .val (.int p3), .val (.int p4), .val (.int f0), .val (.int t0), .val (.int f1), .val (.int t1), .val (.int f2), .val (.int t2), .val (.int cc), .val (.ref b25), .val (.ref b29), .val (.int ac), .val (.ref b35), .unset] [])) (fun _ ks_ => XS.icmpYes X43.here hx rfl (pc0 := 318) (pc' := 325) rfl (hb hby at_318) rfl (feq c318_32).2 (by decide) (by decide) ks_) ?_
                      refine go (u' := T43.setTop (mkF m 326 #[.val (.int p0), .val (.int p1), .val (.int p2), .val (.int p3), .val (.int p4), .val (.int f0), .val (.int t0), .val (.int f1), .val (.int t1), .val (.int f2), .val (.int t2), .val (.int cc), .val (.ref b25), .val (.ref b29), .val (.int ac), .val (.ref b35), .unset] [(.int (0 : Int32))])) (fun _ ks_ => XS.iconst X43.here hx rfl (hb hby at_325) ks_) ?_
                      exact J326_3 _ (B0 (fun q => (fun q => q.elim (fun q => c285_19 q.1) (fun q => (fun q => q.elim c292_26 (fun q => q.elim (fun q => c298_27 q.1) (fun q => (fun q => q.elim c305_30 (fun q => c318_32 q.2)) q.2))) q.2)) q.2))
      ·
        refine go (u' := T1.setTop (mkF m 173 #[.val (.int p0), .val (.int p1), .val (.int p2), .val (.int p3), .val (.int p4), .val (.int f0), .val (.int t0), .val (.int f1), .val (.int t1), .val (.int f2), .val (.int t2), .val (.int cc), .unset, .unset, .unset, .unset, .unset] [])) (fun _ ks_ => XS.icmpYes X1.here hx rfl (pc0 := 147) (pc' := 173) rfl (hb hby at_147) rfl (feq c147_17).2 (by decide) (by decide) ks_) ?_
        refine go (u' := T1.setTop (mkF m 175 #[.val (.int p0), .val (.int p1), .val (.int p2), .val (.int p3), .val (.int p4), .val (.int f0), .val (.int t0), .val (.int f1), .val (.int t1), .val (.int f2), .val (.int t2), .val (.int cc), .unset, .unset, .unset, .unset, .unset] [(.int cc)])) (fun _ ks_ => XS.iload X1.here hx rfl (hb hby at_173) rfl  ks_) ?_
        refine go (u' := T1.setTop (mkF m 176 #[.val (.int p0), .val (.int p1), .val (.int p2), .val (.int p3), .val (.int p4), .val (.int f0), .val (.int t0), .val (.int f1), .val (.int t1), .val (.int f2), .val (.int t2), .val (.int cc), .unset, .unset, .unset, .unset, .unset] [(.int (2 : Int32)), (.int cc)])) (fun _ ks_ => XS.iconst X1.here hx rfl (hb hby at_175) ks_) ?_
        by_cases c176_33 : cc = (2 : Int32)
        ·
          refine go (u' := T1.setTop (mkF m 179 #[.val (.int p0), .val (.int p1), .val (.int p2), .val (.int p3), .val (.int p4), .val (.int f0), .val (.int t0), .val (.int f1), .val (.int t1), .val (.int f2), .val (.int t2), .val (.int cc), .unset, .unset, .unset, .unset, .unset] [])) (fun _ ks_ => XS.icmpNo X1.here hx rfl (hb hby at_176) rfl (teq c176_33).2 ks_) ?_
          refine go (u' := T1.setTop (mkF m 180 #[.val (.int p0), .val (.int p1), .val (.int p2), .val (.int p3), .val (.int p4), .val (.int f0), .val (.int t0), .val (.int f1), .val (.int t1), .val (.int f2), .val (.int t2), .val (.int cc), .unset, .unset, .unset, .unset, .unset] [(.int (2 : Int32))])) (fun _ ks_ => XS.iconst X1.here hx rfl (hb hby at_179) ks_) ?_
          obtain ⟨T53, h53, k53, X53, e53, E53, A53, st53⟩ := newP X1 hx hZ (ww hw 0 rfl) e1 (g := (mkF m 180 #[.val (.int p0), .val (.int p1), .val (.int p2), .val (.int p3), .val (.int p4), .val (.int f0), .val (.int t0), .val (.int f1), .val (.int t1), .val (.int f2), .val (.int t2), .val (.int cc), .unset, .unset, .unset, .unset, .unset] [(.int (2 : Int32))])) rfl (hb hby at_180) rfl (by decide) (cap := 2) (by decide) (by decide) (by decide) (by decide)
          obtain ⟨b53, g53⟩ : ∃ z, z = h1.size := ⟨_, rfl⟩
          rw [← g53] at A53 st53
          have g_b53 : n0 ≤ b53 := Nat.le_trans Z1 (Nat.le_of_eq g53.symm)
          have sz_b53 : h0.size ≤ b53 := Nat.le_trans K1.1 (Nat.le_of_eq g53.symm)
          have K53 : Keep h0 h53 [] := K1.ext E53
          have Z53 : n0 ≤ h53.size := Nat.le_trans Z1 E53.1
          have Fa54 : PI Z h53 b53 .int 2 (own_l [(0 : Int32), (0 : Int32)]) := PI.newL A53 (by decide) rfl rfl
          refine go (u' := T53.setTop (mkF m 182 #[.val (.int p0), .val (.int p1), .val (.int p2), .val (.int p3), .val (.int p4), .val (.int f0), .val (.int t0), .val (.int f1), .val (.int t1), .val (.int f2), .val (.int t2), .val (.int cc), .unset, .unset, .unset, .unset, .unset] [(.ref b53)])) st53 ?_
          refine go (u' := T53.setTop (mkF m 183 #[.val (.int p0), .val (.int p1), .val (.int p2), .val (.int p3), .val (.int p4), .val (.int f0), .val (.int t0), .val (.int f1), .val (.int t1), .val (.int f2), .val (.int t2), .val (.int cc), .unset, .unset, .unset, .unset, .unset] [(.ref b53), (.ref b53)])) (fun _ ks_ => XS.dup X53.here hx rfl (hb hby at_182) rfl rfl ks_) ?_
          refine go (u' := T53.setTop (mkF m 184 #[.val (.int p0), .val (.int p1), .val (.int p2), .val (.int p3), .val (.int p4), .val (.int f0), .val (.int t0), .val (.int f1), .val (.int t1), .val (.int f2), .val (.int t2), .val (.int cc), .unset, .unset, .unset, .unset, .unset] [(.int (0 : Int32)), (.ref b53), (.ref b53)])) (fun _ ks_ => XS.iconst X53.here hx rfl (hb hby at_183) ks_) ?_
          refine go (u' := T53.setTop (mkF m 186 #[.val (.int p0), .val (.int p1), .val (.int p2), .val (.int p3), .val (.int p4), .val (.int f0), .val (.int t0), .val (.int f1), .val (.int t1), .val (.int f2), .val (.int t2), .val (.int cc), .unset, .unset, .unset, .unset, .unset] [(.int f0), (.int (0 : Int32)), (.ref b53), (.ref b53)])) (fun _ ks_ => XS.iload X53.here hx rfl (hb hby at_184) rfl  ks_) ?_
          obtain ⟨T55, h55, X55, e55, W55, st55⟩ := own_iastore X53 hx hZ e53 Fa54 (j := (0 : Int32)) (x := f0)  (by decide) (by decide) (f := (mkF m 186 #[.val (.int p0), .val (.int p1), .val (.int p2), .val (.int p3), .val (.int p4), .val (.int f0), .val (.int t0), .val (.int f1), .val (.int t1), .val (.int f2), .val (.int t2), .val (.int cc), .unset, .unset, .unset, .unset, .unset] [(.int f0), (.int (0 : Int32)), (.ref b53), (.ref b53)])) rfl rfl (hb hby at_186)
          have N55 := Fr.snoc X55 N1 g_b53
          have K55 : Keep h0 h55 [] := K53.wr W55 (Or.inr sz_b53)
          have Z55 : n0 ≤ h55.size := Nat.le_trans Z53 (Keep.of_wr W55).1
          have Fa56 : PI Z h55 b53 .int 2 (own_l [f0, (0 : Int32)]) := Fa54.setL (by decide) W55 rfl (Nat.le_of_ble_eq_true rfl) rfl
          refine go (u' := T55.setTop (mkF m 187 #[.val (.int p0), .val (.int p1), .val (.int p2), .val (.int p3), .val (.int p4), .val (.int f0), .val (.int t0), .val (.int f1), .val (.int t1), .val (.int f2), .val (.int t2), .val (.int cc), .unset, .unset, .unset, .unset, .unset] [(.ref b53)])) st55 ?_
          refine go (u' := T55.setTop (mkF m 188 #[.val (.int p0), .val (.int p1), .val (.int p2), .val (.int p3), .val (.int p4), .val (.int f0), .val (.int t0), .val (.int f1), .val (.int t1), .val (.int f2), .val (.int t2), .val (.int cc), .unset, .unset, .unset, .unset, .unset] [(.ref b53), (.ref b53)])) (fun _ ks_ => XS.dup X55.here hx rfl (hb hby at_187) rfl rfl ks_) ?_
          refine go (u' := T55.setTop (mkF m 189 #[.val (.int p0), .val (.int p1), .val (.int p2), .val (.int p3), .val (.int p4), .val (.int f0), .val (.int t0), .val (.int f1), .val (.int t1), .val (.int f2), .val (.int t2), .val (.int cc), .unset, .unset, .unset, .unset, .unset] [(.int (1 : Int32)), (.ref b53), (.ref b53)])) (fun _ ks_ => XS.iconst X55.here hx rfl (hb hby at_188) ks_) ?_
          refine go (u' := T55.setTop (mkF m 191 #[.val (.int p0), .val (.int p1), .val (.int p2), .val (.int p3), .val (.int p4), .val (.int f0), .val (.int t0), .val (.int f1), .val (.int t1), .val (.int f2), .val (.int t2), .val (.int cc), .unset, .unset, .unset, .unset, .unset] [(.int f1), (.int (1 : Int32)), (.ref b53), (.ref b53)])) (fun _ ks_ => XS.iload X55.here hx rfl (hb hby at_189) rfl  ks_) ?_
          obtain ⟨T57, h57, X57, e57, W57, st57⟩ := own_iastore X55 hx hZ e55 Fa56 (j := (1 : Int32)) (x := f1)  (by decide) (by decide) (f := (mkF m 191 #[.val (.int p0), .val (.int p1), .val (.int p2), .val (.int p3), .val (.int p4), .val (.int f0), .val (.int t0), .val (.int f1), .val (.int t1), .val (.int f2), .val (.int t2), .val (.int cc), .unset, .unset, .unset, .unset, .unset] [(.int f1), (.int (1 : Int32)), (.ref b53), (.ref b53)])) rfl rfl (hb hby at_191)
          have N57 := Fr.snoc X57 N55 g_b53
          have K57 : Keep h0 h57 [] := K55.wr W57 (Or.inr sz_b53)
          have Z57 : n0 ≤ h57.size := Nat.le_trans Z55 (Keep.of_wr W57).1
          have Fa58 : PI Z h57 b53 .int 2 (own_l [f0, f1]) := Fa56.setL (by decide) W57 rfl (Nat.le_of_ble_eq_true rfl) rfl
          refine go (u' := T57.setTop (mkF m 192 #[.val (.int p0), .val (.int p1), .val (.int p2), .val (.int p3), .val (.int p4), .val (.int f0), .val (.int t0), .val (.int f1), .val (.int t1), .val (.int f2), .val (.int t2), .val (.int cc), .unset, .unset, .unset, .unset, .unset] [(.ref b53)])) st57 ?_
          refine go (u' := T57.setTop (mkF m 194 #[.val (.int p0), .val (.int p1), .val (.int p2), .val (.int p3), .val (.int p4), .val (.int f0), .val (.int t0), .val (.int f1), .val (.int t1), .val (.int f2), .val (.int t2), .val (.int cc), .val (.ref b53), .unset, .unset, .unset, .unset] [])) (fun _ ks_ => XS.astore X57.here hx rfl (hb hby at_192) rfl rfl (l' := #[.val (.int p0), .val (.int p1), .val (.int p2), .val (.int p3), .val (.int p4), .val (.int f0), .val (.int t0), .val (.int f1), .val (.int t1), .val (.int f2), .val (.int t2), .val (.int cc), .val (.ref b53), .unset, .unset, .unset, .unset]) rfl ks_) ?_
          refine go (u' := T57.setTop (mkF m 195 #[.val (.int p0), .val (.int p1), .val (.int p2), .val (.int p3), .val (.int p4), .val (.int f0), .val (.int t0), .val (.int f1), .val (.int t1), .val (.int f2), .val (.int t2), .val (.int cc), .val (.ref b53), .unset, .unset, .unset, .unset] [(.int (2 : Int32))])) (fun _ ks_ => XS.iconst X57.here hx rfl (hb hby at_194) ks_) ?_
          obtain ⟨T59, h59, k59, X59, e59, E59, A59, st59⟩ := newP X57 hx hZ (ww hw 0 rfl) e57 (g := (mkF m 195 #[.val (.int p0), .val (.int p1), .val (.int p2), .val (.int p3), .val (.int p4), .val (.int f0), .val (.int t0), .val (.int f1), .val (.int t1), .val (.int f2), .val (.int t2), .val (.int cc), .val (.ref b53), .unset, .unset, .unset, .unset] [(.int (2 : Int32))])) rfl (hb hby at_195) rfl (by decide) (cap := 2) (by decide) (by decide) (by decide) (by decide)
          obtain ⟨b59, g59⟩ : ∃ z, z = h57.size := ⟨_, rfl⟩
          rw [← g59] at A59 st59
          have ne_b53_b59 : b53 ≠ b59 := Nat.ne_of_lt (Nat.lt_of_lt_of_le Fa58.lt (Nat.le_of_eq g59.symm))
          have g_b59 : n0 ≤ b59 := Nat.le_trans Z57 (Nat.le_of_eq g59.symm)
          have sz_b59 : h0.size ≤ b59 := Nat.le_trans K57.1 (Nat.le_of_eq g59.symm)
          have K59 : Keep h0 h59 [] := K57.ext E59
          have Fa60 : PI Z h59 b53 .int 2 (own_l [f0, f1]) := Fa58.ext E59
          have Z59 : n0 ≤ h59.size := Nat.le_trans Z57 E59.1
          have Fa61 : PI Z h59 b59 .int 2 (own_l [(0 : Int32), (0 : Int32)]) := PI.newL A59 (by decide) rfl rfl
          refine go (u' := T59.setTop (mkF m 197 #[.val (.int p0), .val (.int p1), .val (.int p2), .val (.int p3), .val (.int p4), .val (.int f0), .val (.int t0), .val (.int f1), .val (.int t1), .val (.int f2), .val (.int t2), .val (.int cc), .val (.ref b53), .unset, .unset, .unset, .unset] [(.ref b59)])) st59 ?_
          refine go (u' := T59.setTop (mkF m 198 #[.val (.int p0), .val (.int p1), .val (.int p2), .val (.int p3), .val (.int p4), .val (.int f0), .val (.int t0), .val (.int f1), .val (.int t1), .val (.int f2), .val (.int t2), .val (.int cc), .val (.ref b53), .unset, .unset, .unset, .unset] [(.ref b59), (.ref b59)])) (fun _ ks_ => XS.dup X59.here hx rfl (hb hby at_197) rfl rfl ks_) ?_
          refine go (u' := T59.setTop (mkF m 199 #[.val (.int p0), .val (.int p1), .val (.int p2), .val (.int p3), .val (.int p4), .val (.int f0), .val (.int t0), .val (.int f1), .val (.int t1), .val (.int f2), .val (.int t2), .val (.int cc), .val (.ref b53), .unset, .unset, .unset, .unset] [(.int (0 : Int32)), (.ref b59), (.ref b59)])) (fun _ ks_ => XS.iconst X59.here hx rfl (hb hby at_198) ks_) ?_
          refine go (u' := T59.setTop (mkF m 201 #[.val (.int p0), .val (.int p1), .val (.int p2), .val (.int p3), .val (.int p4), .val (.int f0), .val (.int t0), .val (.int f1), .val (.int t1), .val (.int f2), .val (.int t2), .val (.int cc), .val (.ref b53), .unset, .unset, .unset, .unset] [(.int t0), (.int (0 : Int32)), (.ref b59), (.ref b59)])) (fun _ ks_ => XS.iload X59.here hx rfl (hb hby at_199) rfl  ks_) ?_
          obtain ⟨T62, h62, X62, e62, W62, st62⟩ := own_iastore X59 hx hZ e59 Fa61 (j := (0 : Int32)) (x := t0)  (by decide) (by decide) (f := (mkF m 201 #[.val (.int p0), .val (.int p1), .val (.int p2), .val (.int p3), .val (.int p4), .val (.int f0), .val (.int t0), .val (.int f1), .val (.int t1), .val (.int f2), .val (.int t2), .val (.int cc), .val (.ref b53), .unset, .unset, .unset, .unset] [(.int t0), (.int (0 : Int32)), (.ref b59), (.ref b59)])) rfl rfl (hb hby at_201)
          have N62 := Fr.snoc X62 N57 g_b59
          have K62 : Keep h0 h62 [] := K59.wr W62 (Or.inr sz_b59)
          have Z62 : n0 ≤ h62.size := Nat.le_trans Z59 (Keep.of_wr W62).1
          have Fa63 : PI Z h62 b53 .int 2 (own_l [f0, f1]) := Fa60.other W62 ne_b53_b59
          have Fa64 : PI Z h62 b59 .int 2 (own_l [t0, (0 : Int32)]) := Fa61.setL (by decide) W62 rfl (Nat.le_of_ble_eq_true rfl) rfl
          refine go (u' := T62.setTop (mkF m 202 #[.val (.int p0), .val (.int p1), .val (.int p2), .val (.int p3), .val (.int p4), .val (.int f0), .val (.int t0), .val (.int f1), .val (.int t1), .val (.int f2), .val (.int t2), .val (.int cc), .val (.ref b53), .unset, .unset, .unset, .unset] [(.ref b59)])) st62 ?_
          refine go (u' := T62.setTop (mkF m 203 #[.val (.int p0), .val (.int p1), .val (.int p2), .val (.int p3), .val (.int p4), .val (.int f0), .val (.int t0), .val (.int f1), .val (.int t1), .val (.int f2), .val (.int t2), .val (.int cc), .val (.ref b53), .unset, .unset, .unset, .unset] [(.ref b59), (.ref b59)])) (fun _ ks_ => XS.dup X62.here hx rfl (hb hby at_202) rfl rfl ks_) ?_
          refine go (u' := T62.setTop (mkF m 204 #[.val (.int p0), .val (.int p1), .val (.int p2), .val (.int p3), .val (.int p4), .val (.int f0), .val (.int t0), .val (.int f1), .val (.int t1), .val (.int f2), .val (.int t2), .val (.int cc), .val (.ref b53), .unset, .unset, .unset, .unset] [(.int (1 : Int32)), (.ref b59), (.ref b59)])) (fun _ ks_ => XS.iconst X62.here hx rfl (hb hby at_203) ks_) ?_
          refine go (u' := T62.setTop (mkF m 206 #[.val (.int p0), .val (.int p1), .val (.int p2), .val (.int p3), .val (.int p4), .val (.int f0), .val (.int t0), .val (.int f1), .val (.int t1), .val (.int f2), .val (.int t2), .val (.int cc), .val (.ref b53), .unset, .unset, .unset, .unset] [(.int t1), (.int (1 : Int32)), (.ref b59), (.ref b59)])) (fun _ ks_ => XS.iload X62.here hx rfl (hb hby at_204) rfl  ks_) ?_
          obtain ⟨T65, h65, X65, e65, W65, st65⟩ := own_iastore X62 hx hZ e62 Fa64 (j := (1 : Int32)) (x := t1)  (by decide) (by decide) (f := (mkF m 206 #[.val (.int p0), .val (.int p1), .val (.int p2), .val (.int p3), .val (.int p4), .val (.int f0), .val (.int t0), .val (.int f1), .val (.int t1), .val (.int f2), .val (.int t2), .val (.int cc), .val (.ref b53), .unset, .unset, .unset, .unset] [(.int t1), (.int (1 : Int32)), (.ref b59), (.ref b59)])) rfl rfl (hb hby at_206)
          have N65 := Fr.snoc X65 N62 g_b59
          have K65 : Keep h0 h65 [] := K62.wr W65 (Or.inr sz_b59)
          have Z65 : n0 ≤ h65.size := Nat.le_trans Z62 (Keep.of_wr W65).1
          have Fa66 : PI Z h65 b53 .int 2 (own_l [f0, f1]) := Fa63.other W65 ne_b53_b59
          have Fa67 : PI Z h65 b59 .int 2 (own_l [t0, t1]) := Fa64.setL (by decide) W65 rfl (Nat.le_of_ble_eq_true rfl) rfl
          refine go (u' := T65.setTop (mkF m 207 #[.val (.int p0), .val (.int p1), .val (.int p2), .val (.int p3), .val (.int p4), .val (.int f0), .val (.int t0), .val (.int f1), .val (.int t1), .val (.int f2), .val (.int t2), .val (.int cc), .val (.ref b53), .unset, .unset, .unset, .unset] [(.ref b59)])) st65 ?_
          refine go (u' := T65.setTop (mkF m 209 #[.val (.int p0), .val (.int p1), .val (.int p2), .val (.int p3), .val (.int p4), .val (.int f0), .val (.int t0), .val (.int f1), .val (.int t1), .val (.int f2), .val (.int t2), .val (.int cc), .val (.ref b53), .val (.ref b59), .unset, .unset, .unset] [])) (fun _ ks_ => XS.astore X65.here hx rfl (hb hby at_207) rfl rfl (l' := #[.val (.int p0), .val (.int p1), .val (.int p2), .val (.int p3), .val (.int p4), .val (.int f0), .val (.int t0), .val (.int f1), .val (.int t1), .val (.int f2), .val (.int t2), .val (.int cc), .val (.ref b53), .val (.ref b59), .unset, .unset, .unset]) rfl ks_) ?_
          refine go (u' := T65.setTop (mkF m 252 #[.val (.int p0), .val (.int p1), .val (.int p2), .val (.int p3), .val (.int p4), .val (.int f0), .val (.int t0), .val (.int f1), .val (.int t1), .val (.int f2), .val (.int t2), .val (.int cc), .val (.ref b53), .val (.ref b59), .unset, .unset, .unset] [])) (fun _ ks_ => XS.goto X65.here hx rfl (pc0 := 209) (pc' := 252) rfl (hb hby at_209) (by decide) (by decide) ks_) ?_
          refine go (u' := T65.setTop (mkF m 254 #[.val (.int p0), .val (.int p1), .val (.int p2), .val (.int p3), .val (.int p4), .val (.int f0), .val (.int t0), .val (.int f1), .val (.int t1), .val (.int f2), .val (.int t2), .val (.int cc), .val (.ref b53), .val (.ref b59), .unset, .unset, .unset] [(.int p4)])) (fun _ ks_ => XS.iload X65.here hx rfl (hb hby at_252) rfl  ks_) ?_
          refine go (u' := T65.setTop (mkF m 256 #[.val (.int p0), .val (.int p1), .val (.int p2), .val (.int p3), .val (.int p4), .val (.int f0), .val (.int t0), .val (.int f1), .val (.int t1), .val (.int f2), .val (.int t2), .val (.int cc), .val (.ref b53), .val (.ref b59), .unset, .unset, .unset] [(.int (2147483647 : Int32)), (.int p4)])) (X65.ldcInt hx hown (mvT hZ (ww hw 1 rfl)) (g := (mkF m 254 #[.val (.int p0), .val (.int p1), .val (.int p2), .val (.int p3), .val (.int p4), .val (.int f0), .val (.int t0), .val (.int f1), .val (.int t1), .val (.int f2), .val (.int t2), .val (.int cc), .val (.ref b53), .val (.ref b59), .unset, .unset, .unset] [(.int p4)])) rfl (hb hby at_254)) ?_
          refine go (u' := T65.setTop (mkF m 257 #[.val (.int p0), .val (.int p1), .val (.int p2), .val (.int p3), .val (.int p4), .val (.int f0), .val (.int t0), .val (.int f1), .val (.int t1), .val (.int f2), .val (.int t2), .val (.int cc), .val (.ref b53), .val (.ref b59), .unset, .unset, .unset] [(.int (p4 &&& (2147483647 : Int32)))])) (fun _ ks_ => XS.iand X65.here hx rfl (hb hby at_256) rfl ks_) ?_
          refine go (u' := T65.setTop (mkF m 258 #[.val (.int p0), .val (.int p1), .val (.int p2), .val (.int p3), .val (.int p4), .val (.int f0), .val (.int t0), .val (.int f1), .val (.int t1), .val (.int f2), .val (.int t2), .val (.int cc), .val (.ref b53), .val (.ref b59), .unset, .unset, .unset] [(.int (5 : Int32)), (.int (p4 &&& (2147483647 : Int32)))])) (fun _ ks_ => XS.iconst X65.here hx rfl (hb hby at_257) ks_) ?_
          refine go (u' := T65.setTop (mkF m 259 #[.val (.int p0), .val (.int p1), .val (.int p2), .val (.int p3), .val (.int p4), .val (.int f0), .val (.int t0), .val (.int f1), .val (.int t1), .val (.int f2), .val (.int t2), .val (.int cc), .val (.ref b53), .val (.ref b59), .unset, .unset, .unset] [(.int ((p4 &&& (2147483647 : Int32)) % (5 : Int32)))])) (fun _ ks_ => iremM (g := (mkF m 258 #[.val (.int p0), .val (.int p1), .val (.int p2), .val (.int p3), .val (.int p4), .val (.int f0), .val (.int t0), .val (.int f1), .val (.int t1), .val (.int f2), .val (.int t2), .val (.int cc), .val (.ref b53), .val (.ref b59), .unset, .unset, .unset] [(.int (5 : Int32)), (.int (p4 &&& (2147483647 : Int32)))])) X65 hx rfl (hb hby at_258) rfl (by decide) ks_) ?_
          refine go (u' := T65.setTop (mkF m 260 #[.val (.int p0), .val (.int p1), .val (.int p2), .val (.int p3), .val (.int p4), .val (.int f0), .val (.int t0), .val (.int f1), .val (.int t1), .val (.int f2), .val (.int t2), .val (.int cc), .val (.ref b53), .val (.ref b59), .unset, .unset, .unset] [(.int (2 : Int32)), (.int ((p4 &&& (2147483647 : Int32)) % (5 : Int32)))])) (fun _ ks_ => XS.iconst X65.here hx rfl (hb hby at_259) ks_) ?_
          refine go (u' := T65.setTop (mkF m 261 #[.val (.int p0), .val (.int p1), .val (.int p2), .val (.int p3), .val (.int p4), .val (.int f0), .val (.int t0), .val (.int f1), .val (.int t1), .val (.int f2), .val (.int t2), .val (.int cc), .val (.ref b53), .val (.ref b59), .unset, .unset, .unset] [(.int (((p4 &&& (2147483647 : Int32)) % (5 : Int32)) - (2 : Int32)))])) (fun _ ks_ => XS.isub X65.here hx rfl (hb hby at_260) rfl ks_) ?_
          refine go (u' := T65.setTop (mkF m 263 #[.val (.int p0), .val (.int p1), .val (.int p2), .val (.int p3), .val (.int p4), .val (.int f0), .val (.int t0), .val (.int f1), .val (.int t1), .val (.int f2), .val (.int t2), .val (.int cc), .val (.ref b53), .val (.ref b59), .val (.int (((p4 &&& (2147483647 : Int32)) % (5 : Int32)) - (2 : Int32))), .unset, .unset] [])) (fun _ ks_ => XS.istore X65.here hx rfl (hb hby at_261) rfl  (l' := #[.val (.int p0), .val (.int p1), .val (.int p2), .val (.int p3), .val (.int p4), .val (.int f0), .val (.int t0), .val (.int f1), .val (.int t1), .val (.int f2), .val (.int t2), .val (.int cc), .val (.ref b53), .val (.ref b59), .val (.int (((p4 &&& (2147483647 : Int32)) % (5 : Int32)) - (2 : Int32))), .unset, .unset]) rfl ks_) ?_
          obtain ⟨ac, hac⟩ : ∃ z, z = (((p4 &&& (2147483647 : Int32)) % (5 : Int32)) - (2 : Int32)) := ⟨_, rfl⟩
          rw [← hac]
          have hac' := own_ac _ ac hac
          obtain ⟨T68, h68, X68, e68, E68, A68, D68, -, st68⟩ := newO X65 hx hZ hown (ww hw 2 rfl) (ww hw 3 rfl) (ww hw 4 rfl) e65 (g := (mkF m 263 #[.val (.int p0), .val (.int p1), .val (.int p2), .val (.int p3), .val (.int p4), .val (.int f0), .val (.int t0), .val (.int f1), .val (.int t1), .val (.int f2), .val (.int t2), .val (.int cc), .val (.ref b53), .val (.ref b59), .val (.int ac), .unset, .unset] [])) rfl (hb hby at_263) (by decide) (by decide)
          obtain ⟨b68, g68⟩ : ∃ z, z = h65.size := ⟨_, rfl⟩
          rw [← g68] at A68 D68 st68
          have ne_b53_b68 : b53 ≠ b68 := Nat.ne_of_lt (Nat.lt_of_lt_of_le Fa66.lt (Nat.le_of_eq g68.symm))
          have ne_b59_b68 : b59 ≠ b68 := Nat.ne_of_lt (Nat.lt_of_lt_of_le Fa67.lt (Nat.le_of_eq g68.symm))
          have g_b68 : n0 ≤ b68 := Nat.le_trans Z65 (Nat.le_of_eq g68.symm)
          have sz_b68 : h0.size ≤ b68 := Nat.le_trans K65.1 (Nat.le_of_eq g68.symm)
          have K68 : Keep h0 h68 [] := K65.ext E68
          have Fa69 : PI Z h68 b53 .int 2 (own_l [f0, f1]) := Fa66.ext E68
          have Fa70 : PI Z h68 b59 .int 2 (own_l [t0, t1]) := Fa67.ext E68
          have Z68 : n0 ≤ h68.size := Nat.le_trans Z65 E68.1
          have Fa71 : Fld Z h68 b68 "com/example/traceweave/traceweave/pattern/NumberedPattern" "activities" "I" (.int (0 : Int32)) := D68 (Or.inr (ww hw 37 rfl)) (ty := .int) (by decide)
          have Fa72 : Fld Z h68 b68 "com/example/traceweave/traceweave/pattern/NumberedPattern" "leaving" "Lcom/example/traceweave/traceweave/pattern/NumberedPattern$Adjacency;" .null := D68 (Or.inr (ww hw 78 rfl)) (ty := (.object "com/example/traceweave/traceweave/pattern/NumberedPattern$Adjacency")) (by decide)
          have Fa73 : Fld Z h68 b68 "com/example/traceweave/traceweave/pattern/NumberedPattern" "entering" "Lcom/example/traceweave/traceweave/pattern/NumberedPattern$Adjacency;" .null := D68 (Or.inr (ww hw 80 rfl)) (ty := (.object "com/example/traceweave/traceweave/pattern/NumberedPattern$Adjacency")) (by decide)
          have Fa74 : Fld Z h68 b68 "com/example/traceweave/traceweave/pattern/NumberedPattern" "openInputs" "Ljava/util/BitSet;" .null := D68 (Or.inr (ww hw 82 rfl)) (ty := (.object "java/util/BitSet")) (by decide)
          have Fa75 : Fld Z h68 b68 "com/example/traceweave/traceweave/pattern/NumberedPattern" "openOutputs" "Ljava/util/BitSet;" .null := D68 (Or.inr (ww hw 84 rfl)) (ty := (.object "java/util/BitSet")) (by decide)
          refine go (u' := T68.setTop (mkF m 266 #[.val (.int p0), .val (.int p1), .val (.int p2), .val (.int p3), .val (.int p4), .val (.int f0), .val (.int t0), .val (.int f1), .val (.int t1), .val (.int f2), .val (.int t2), .val (.int cc), .val (.ref b53), .val (.ref b59), .val (.int ac), .unset, .unset] [(.ref b68)])) st68 ?_
          refine go (u' := T68.setTop (mkF m 267 #[.val (.int p0), .val (.int p1), .val (.int p2), .val (.int p3), .val (.int p4), .val (.int f0), .val (.int t0), .val (.int f1), .val (.int t1), .val (.int f2), .val (.int t2), .val (.int cc), .val (.ref b53), .val (.ref b59), .val (.int ac), .unset, .unset] [(.ref b68), (.ref b68)])) (fun _ ks_ => XS.dup X68.here hx rfl (hb hby at_266) rfl rfl ks_) ?_
          refine go (u' := T68.setTop (mkF m 268 #[.val (.int p0), .val (.int p1), .val (.int p2), .val (.int p3), .val (.int p4), .val (.int f0), .val (.int t0), .val (.int f1), .val (.int t1), .val (.int f2), .val (.int t2), .val (.int cc), .val (.ref b53), .val (.ref b59), .val (.int ac), .unset, .unset] [(.int (3 : Int32)), (.ref b68), (.ref b68)])) (fun _ ks_ => XS.iconst X68.here hx rfl (hb hby at_267) ks_) ?_
          refine go (u' := T68.setTop (mkF m 270 #[.val (.int p0), .val (.int p1), .val (.int p2), .val (.int p3), .val (.int p4), .val (.int f0), .val (.int t0), .val (.int f1), .val (.int t1), .val (.int f2), .val (.int t2), .val (.int cc), .val (.ref b53), .val (.ref b59), .val (.int ac), .unset, .unset] [(.ref b53), (.int (3 : Int32)), (.ref b68), (.ref b68)])) (fun _ ks_ => XS.aload X68.here hx rfl (hb hby at_268) rfl rfl ks_) ?_
          refine go (u' := T68.setTop (mkF m 272 #[.val (.int p0), .val (.int p1), .val (.int p2), .val (.int p3), .val (.int p4), .val (.int f0), .val (.int t0), .val (.int f1), .val (.int t1), .val (.int f2), .val (.int t2), .val (.int cc), .val (.ref b53), .val (.ref b59), .val (.int ac), .unset, .unset] [(.ref b59), (.ref b53), (.int (3 : Int32)), (.ref b68), (.ref b68)])) (fun _ ks_ => XS.aload X68.here hx rfl (hb hby at_270) rfl rfl ks_) ?_
          obtain ⟨_, _, ⟨T76, L76, k76, n76⟩, -, X76, ⟨Lc76, hQ76, l76, y76, z76⟩, st76⟩ := X68.specialBack hx (y := (⟨"com/example/traceweave/traceweave/pattern/NumberedPattern", "<init>", "(I[I[I)V"⟩ : MethodName)) rfl hown (mvT hZ (ww hw 5 rfl)) (mvT hZ (ww hw 6 rfl)) (mvT hZ (ww hw 7 rfl)) (by decide) (backOf (W := 1) (rm1 l Z a0 hw [] b68 b53 b59 2 (own_l [f0, f1]) (own_l [t0, t1]) h68 n0 Z68 g_b68 ne_b53_b68 ne_b59_b68 A68 Fa71 Fa72 Fa73 Fa74 Fa75 Fa69 Fa70 (by decide) (own_hl2 hf0 hf1) (own_hl2 ht0 ht1)) hZ (ww hw 7 rfl) (ww hw 4 rfl) (by decide) (by decide)) (g := (mkF m 272 #[.val (.int p0), .val (.int p1), .val (.int p2), .val (.int p3), .val (.int p4), .val (.int f0), .val (.int t0), .val (.int f1), .val (.int t1), .val (.int f2), .val (.int t2), .val (.int cc), .val (.ref b53), .val (.ref b59), .val (.int ac), .unset, .unset] [(.ref b59), (.ref b53), (.int (3 : Int32)), (.ref b68), (.ref b68)])) rfl (by rw [hml]; rfl) (Steps.refl _) (a := b68) (argsL := [(.int (3 : Int32)), (.ref b53), (.ref b59)]) (rest := [(.ref b68)]) (lenOf pd__40_I_91_I_91_I_41_V rfl) rfl (by show 2 * 0 + _ ≤ _; exact Nat.le_of_eq rfl) (hb hby at_272) (fun _ _ => ⟨rfl, e68, (by decide : 3 + 12 ≤ _), (by decide : 9 + 32 ≤ _)⟩)
          dsimp only [Pt.U, Pt.locs, Pt.cells, Pt.slots] at X76 l76 y76 z76 st76 hQ76
          subst l76 y76 z76
          obtain ⟨ad76, fi76, rfl, N76q, Kq76, Fa77, Fa78, Fa79, Fa80, Fa81, gad_76, gfi_76, nad_76⟩ := hQ76
          have N76 := Fr.app N65 N76q
          have K76 : Keep h0 T76.heap [] := K68.trans Kq76 (allS (P := fun x => x ∈ [] ∨ h0.size ≤ x) (Or.inr sz_b68) all0)
          have Z76 : n0 ≤ T76.heap.size := Nat.le_trans Z68 Kq76.1
          have Fa82 : PI Z T76.heap b53 .int 2 (own_l [f0, f1]) := Fa69.keep Kq76 (ninS ne_b53_b68 nin0)
          have Fa83 : PI Z T76.heap b59 .int 2 (own_l [t0, t1]) := Fa70.keep Kq76 (ninS ne_b59_b68 nin0)
          have Fa84 : Exa Z T76.heap b68 "com/example/traceweave/traceweave/pattern/NumberedPattern" := A68.keep Kq76
          have ne_b53_ad76 : b53 ≠ ad76 := Nat.ne_of_lt (Nat.lt_of_lt_of_le Fa69.lt gad_76)
          have ne_b59_ad76 : b59 ≠ ad76 := Nat.ne_of_lt (Nat.lt_of_lt_of_le Fa70.lt gad_76)
          have ne_b68_ad76 : b68 ≠ ad76 := Nat.ne_of_lt (Nat.lt_of_lt_of_le A68.lt gad_76)
          have g_ad76 : n0 ≤ ad76 := Nat.le_trans Z68 gad_76
          have sz_ad76 : h0.size ≤ ad76 := Nat.le_trans K68.1 gad_76
          have ne_b53_fi76 : b53 ≠ fi76 := Nat.ne_of_lt (Nat.lt_of_lt_of_le Fa69.lt gfi_76)
          have ne_b59_fi76 : b59 ≠ fi76 := Nat.ne_of_lt (Nat.lt_of_lt_of_le Fa70.lt gfi_76)
          have ne_b68_fi76 : b68 ≠ fi76 := Nat.ne_of_lt (Nat.lt_of_lt_of_le A68.lt gfi_76)
          have g_fi76 : n0 ≤ fi76 := Nat.le_trans Z68 gfi_76
          have sz_fi76 : h0.size ≤ fi76 := Nat.le_trans K68.1 gfi_76
          refine goT (u' := T76.setTop (mkF m 275 #[.val (.int p0), .val (.int p1), .val (.int p2), .val (.int p3), .val (.int p4), .val (.int f0), .val (.int t0), .val (.int f1), .val (.int t1), .val (.int f2), .val (.int t2), .val (.int cc), .val (.ref b53), .val (.ref b59), .val (.int ac), .unset, .unset] [(.ref b68)])) st76 ?_
          refine go (u' := T76.setTop (mkF m 277 #[.val (.int p0), .val (.int p1), .val (.int p2), .val (.int p3), .val (.int p4), .val (.int f0), .val (.int t0), .val (.int f1), .val (.int t1), .val (.int f2), .val (.int t2), .val (.int cc), .val (.ref b53), .val (.ref b59), .val (.int ac), .val (.ref b68), .unset] [])) (fun _ ks_ => XS.astore X76.here hx rfl (hb hby at_275) rfl rfl (l' := #[.val (.int p0), .val (.int p1), .val (.int p2), .val (.int p3), .val (.int p4), .val (.int f0), .val (.int t0), .val (.int f1), .val (.int t1), .val (.int f2), .val (.int t2), .val (.int cc), .val (.ref b53), .val (.ref b59), .val (.int ac), .val (.ref b68), .unset]) rfl ks_) ?_
          refine go (u' := T76.setTop (mkF m 279 #[.val (.int p0), .val (.int p1), .val (.int p2), .val (.int p3), .val (.int p4), .val (.int f0), .val (.int t0), .val (.int f1), .val (.int t1), .val (.int f2), .val (.int t2), .val (.int cc), .val (.ref b53), .val (.ref b59), .val (.int ac), .val (.ref b68), .unset] [(.int ac)])) (fun _ ks_ => XS.iload X76.here hx rfl (hb hby at_277) rfl  ks_) ?_
          have J326_4 : ∀ v326_4 : Int32, v326_4 = (B ((¬ (ac < (0 : Int32))) ∧ (((cc < (1 : Int32)) ∧ (((cc < (2 : Int32)) ∧ ((¬ (cc < (3 : Int32))) ∧ (t2 = ac))) ∨ ((¬ (cc < (2 : Int32))) ∧ ((t1 = ac) ∨ ((¬ (cc < (3 : Int32))) ∧ (t2 = ac)))))) ∨ ((¬ (cc < (1 : Int32))) ∧ ((t0 = ac) ∨ (((cc < (2 : Int32)) ∧ ((¬ (cc < (3 : Int32))) ∧ (t2 = ac))) ∨ ((¬ (cc < (2 : Int32))) ∧ ((t1 = ac) ∨ ((¬ (cc < (3 : Int32))) ∧ (t2 = ac)))))))))) → Go p.tables e below G (T76.setTop (mkF m 326 #[.val (.int p0), .val (.int p1), .val (.int p2), .val (.int p3), .val (.int p4), .val (.int f0), .val (.int t0), .val (.int f1), .val (.int t1), .val (.int f2), .val (.int t2), .val (.int cc), .val (.ref b53), .val (.ref b59), .val (.int ac), .val (.ref b68), .unset] [(.int v326_4)])) := by
            intro v326_4 hv326_4
            subst hv326_4
            refine go (u' := T76.setTop (mkF m 328 #[.val (.int p0), .val (.int p1), .val (.int p2), .val (.int p3), .val (.int p4), .val (.int f0), .val (.int t0), .val (.int f1), .val (.int t1), .val (.int f2), .val (.int t2), .val (.int cc), .val (.ref b53), .val (.ref b59), .val (.int ac), .val (.ref b68), .val (.int (B ((¬ (ac < (0 : Int32))) ∧ (((cc < (1 : Int32)) ∧ (((cc < (2 : Int32)) ∧ ((¬ (cc < (3 : Int32))) ∧ (t2 = ac))) ∨ ((¬ (cc < (2 : Int32))) ∧ ((t1 = ac) ∨ ((¬ (cc < (3 : Int32))) ∧ (t2 = ac)))))) ∨ ((¬ (cc < (1 : Int32))) ∧ ((t0 = ac) ∨ (((cc < (2 : Int32)) ∧ ((¬ (cc < (3 : Int32))) ∧ (t2 = ac))) ∨ ((¬ (cc < (2 : Int32))) ∧ ((t1 = ac) ∨ ((¬ (cc < (3 : Int32))) ∧ (t2 = ac)))))))))))] [])) (fun _ ks_ => XS.istore X76.here hx rfl (hb hby at_326) rfl  (l' := #[.val (.int p0), .val (.int p1), .val (.int p2), .val (.int p3), .val (.int p4), .val (.int f0), .val (.int t0), .val (.int f1), .val (.int t1), .val (.int f2), .val (.int t2), .val (.int cc), .val (.ref b53), .val (.ref b59), .val (.int ac), .val (.ref b68), .val (.int (B ((¬ (ac < (0 : Int32))) ∧ (((cc < (1 : Int32)) ∧ (((cc < (2 : Int32)) ∧ ((¬ (cc < (3 : Int32))) ∧ (t2 = ac))) ∨ ((¬ (cc < (2 : Int32))) ∧ ((t1 = ac) ∨ ((¬ (cc < (3 : Int32))) ∧ (t2 = ac)))))) ∨ ((¬ (cc < (1 : Int32))) ∧ ((t0 = ac) ∨ (((cc < (2 : Int32)) ∧ ((¬ (cc < (3 : Int32))) ∧ (t2 = ac))) ∨ ((¬ (cc < (2 : Int32))) ∧ ((t1 = ac) ∨ ((¬ (cc < (3 : Int32))) ∧ (t2 = ac)))))))))))]) rfl ks_) ?_
            refine go (u' := T76.setTop (mkF m 330 #[.val (.int p0), .val (.int p1), .val (.int p2), .val (.int p3), .val (.int p4), .val (.int f0), .val (.int t0), .val (.int f1), .val (.int t1), .val (.int f2), .val (.int t2), .val (.int cc), .val (.ref b53), .val (.ref b59), .val (.int ac), .val (.ref b68), .val (.int (B ((¬ (ac < (0 : Int32))) ∧ (((cc < (1 : Int32)) ∧ (((cc < (2 : Int32)) ∧ ((¬ (cc < (3 : Int32))) ∧ (t2 = ac))) ∨ ((¬ (cc < (2 : Int32))) ∧ ((t1 = ac) ∨ ((¬ (cc < (3 : Int32))) ∧ (t2 = ac)))))) ∨ ((¬ (cc < (1 : Int32))) ∧ ((t0 = ac) ∨ (((cc < (2 : Int32)) ∧ ((¬ (cc < (3 : Int32))) ∧ (t2 = ac))) ∨ ((¬ (cc < (2 : Int32))) ∧ ((t1 = ac) ∨ ((¬ (cc < (3 : Int32))) ∧ (t2 = ac)))))))))))] [(.ref b68)])) (fun _ ks_ => XS.aload X76.here hx rfl (hb hby at_328) rfl rfl ks_) ?_
            refine go (u' := T76.setTop (mkF m 332 #[.val (.int p0), .val (.int p1), .val (.int p2), .val (.int p3), .val (.int p4), .val (.int f0), .val (.int t0), .val (.int f1), .val (.int t1), .val (.int f2), .val (.int t2), .val (.int cc), .val (.ref b53), .val (.ref b59), .val (.int ac), .val (.ref b68), .val (.int (B ((¬ (ac < (0 : Int32))) ∧ (((cc < (1 : Int32)) ∧ (((cc < (2 : Int32)) ∧ ((¬ (cc < (3 : Int32))) ∧ (t2 = ac))) ∨ ((¬ (cc < (2 : Int32))) ∧ ((t1 = ac) ∨ ((¬ (cc < (3 : Int32))) ∧ (t2 = ac)))))) ∨ ((¬ (cc < (1 : Int32))) ∧ ((t0 = ac) ∨ (((cc < (2 : Int32)) ∧ ((¬ (cc < (3 : Int32))) ∧ (t2 = ac))) ∨ ((¬ (cc < (2 : Int32))) ∧ ((t1 = ac) ∨ ((¬ (cc < (3 : Int32))) ∧ (t2 = ac)))))))))))] [(.int ac), (.ref b68)])) (fun _ ks_ => XS.iload X76.here hx rfl (hb hby at_330) rfl  ks_) ?_
            obtain ⟨cq85, kq85, q85a, q85b, q85c⟩ := isOf hZ (rfl : T76.heap = _) Fa77
            obtain ⟨_, _, ⟨T85, L85, k85, n85⟩, -, X85, ⟨Lc85, hQ85, l85, y85, z85⟩, st85⟩ := X76.virtualBack hx (y := (⟨"com/example/traceweave/traceweave/pattern/NumberedPattern", "isEntered", "(I)Z"⟩ : MethodName)) (z := (⟨"com/example/traceweave/traceweave/pattern/NumberedPattern", "isEntered", "(I)Z"⟩ : MethodName)) hown (mvT hZ (ww hw 85 rfl)) (mvT hZ (ww hw 86 rfl)) (notFace_of_selects (args := #[]) (mvT hZ (ww hw 88 rfl))) (mvT hZ (ww hw 88 rfl)) (mvT hZ (ww hw 87 rfl)) (by decide) (backOf (W := 0) (rm15 l Z a0 hw [] b68 ac ad76 fi76 (ps2 (cn1 (own_l [t0, t1]) 2) 3) T76.heap n0 Z76 Fa78 Fa79 Fa80 Fa81 hac'.2) hZ (ww hw 89 rfl) (ww hw 4 rfl) (by decide) (by decide)) q85a q85c (g := (mkF m 332 #[.val (.int p0), .val (.int p1), .val (.int p2), .val (.int p3), .val (.int p4), .val (.int f0), .val (.int t0), .val (.int f1), .val (.int t1), .val (.int f2), .val (.int t2), .val (.int cc), .val (.ref b53), .val (.ref b59), .val (.int ac), .val (.ref b68), .val (.int (B ((¬ (ac < (0 : Int32))) ∧ (((cc < (1 : Int32)) ∧ (((cc < (2 : Int32)) ∧ ((¬ (cc < (3 : Int32))) ∧ (t2 = ac))) ∨ ((¬ (cc < (2 : Int32))) ∧ ((t1 = ac) ∨ ((¬ (cc < (3 : Int32))) ∧ (t2 = ac)))))) ∨ ((¬ (cc < (1 : Int32))) ∧ ((t0 = ac) ∨ (((cc < (2 : Int32)) ∧ ((¬ (cc < (3 : Int32))) ∧ (t2 = ac))) ∨ ((¬ (cc < (2 : Int32))) ∧ ((t1 = ac) ∨ ((¬ (cc < (3 : Int32))) ∧ (t2 = ac)))))))))))] [(.int ac), (.ref b68)])) rfl (by rw [hml]; rfl) (Steps.refl _) (argsL := [(.int ac)]) (rest := []) (lenOf pd__40_I_41_Z rfl) rfl (by show 2 * 0 + _ ≤ _; exact Nat.le_of_eq rfl) (hb hby at_332) (fun _ _ => ⟨rfl, (rfl : T76.heap = _), (by decide : 15 + 0 ≤ _), (by decide : 41 + 0 ≤ _)⟩)
            dsimp only [Pt.U, Pt.locs, Pt.cells, Pt.slots] at X85 l85 y85 z85 st85 hQ85
            subst l85 y85 z85
            obtain ⟨rfl, N85q, eq85⟩ := hQ85
            have N85 := Fr.app N76 N85q
            refine goT (u' := T85.setTop (mkF m 335 #[.val (.int p0), .val (.int p1), .val (.int p2), .val (.int p3), .val (.int p4), .val (.int f0), .val (.int t0), .val (.int f1), .val (.int t1), .val (.int f2), .val (.int t2), .val (.int cc), .val (.ref b53), .val (.ref b59), .val (.int ac), .val (.ref b68), .val (.int (B ((¬ (ac < (0 : Int32))) ∧ (((cc < (1 : Int32)) ∧ (((cc < (2 : Int32)) ∧ ((¬ (cc < (3 : Int32))) ∧ (t2 = ac))) ∨ ((¬ (cc < (2 : Int32))) ∧ ((t1 = ac) ∨ ((¬ (cc < (3 : Int32))) ∧ (t2 = ac)))))) ∨ ((¬ (cc < (1 : Int32))) ∧ ((t0 = ac) ∨ (((cc < (2 : Int32)) ∧ ((¬ (cc < (3 : Int32))) ∧ (t2 = ac))) ∨ ((¬ (cc < (2 : Int32))) ∧ ((t1 = ac) ∨ ((¬ (cc < (3 : Int32))) ∧ (t2 = ac)))))))))))] [(.int (B ((¬ (ac < (0 : Int32))) ∧ (¬ ((((ps2 (cn1 (own_l [t0, t1]) 2) 3) ac.toNatClampNeg) = ((ps2 (cn1 (own_l [t0, t1]) 2) 3) (ac + (1 : Int32)).toNatClampNeg)))))))])) st85 ?_
            refine go (u' := T85.setTop (mkF m 337 #[.val (.int p0), .val (.int p1), .val (.int p2), .val (.int p3), .val (.int p4), .val (.int f0), .val (.int t0), .val (.int f1), .val (.int t1), .val (.int f2), .val (.int t2), .val (.int cc), .val (.ref b53), .val (.ref b59), .val (.int ac), .val (.ref b68), .val (.int (B ((¬ (ac < (0 : Int32))) ∧ (((cc < (1 : Int32)) ∧ (((cc < (2 : Int32)) ∧ ((¬ (cc < (3 : Int32))) ∧ (t2 = ac))) ∨ ((¬ (cc < (2 : Int32))) ∧ ((t1 = ac) ∨ ((¬ (cc < (3 : Int32))) ∧ (t2 = ac)))))) ∨ ((¬ (cc < (1 : Int32))) ∧ ((t0 = ac) ∨ (((cc < (2 : Int32)) ∧ ((¬ (cc < (3 : Int32))) ∧ (t2 = ac))) ∨ ((¬ (cc < (2 : Int32))) ∧ ((t1 = ac) ∨ ((¬ (cc < (3 : Int32))) ∧ (t2 = ac)))))))))))] [(.int (B ((¬ (ac < (0 : Int32))) ∧ (((cc < (1 : Int32)) ∧ (((cc < (2 : Int32)) ∧ ((¬ (cc < (3 : Int32))) ∧ (t2 = ac))) ∨ ((¬ (cc < (2 : Int32))) ∧ ((t1 = ac) ∨ ((¬ (cc < (3 : Int32))) ∧ (t2 = ac)))))) ∨ ((¬ (cc < (1 : Int32))) ∧ ((t0 = ac) ∨ (((cc < (2 : Int32)) ∧ ((¬ (cc < (3 : Int32))) ∧ (t2 = ac))) ∨ ((¬ (cc < (2 : Int32))) ∧ ((t1 = ac) ∨ ((¬ (cc < (3 : Int32))) ∧ (t2 = ac))))))))))), (.int (B ((¬ (ac < (0 : Int32))) ∧ (¬ ((((ps2 (cn1 (own_l [t0, t1]) 2) 3) ac.toNatClampNeg) = ((ps2 (cn1 (own_l [t0, t1]) 2) 3) (ac + (1 : Int32)).toNatClampNeg)))))))])) (fun _ ks_ => XS.iload X85.here hx rfl (hb hby at_335) rfl  ks_) ?_
            refine go (u' := T85.setTop (mkF m 340 #[.val (.int p0), .val (.int p1), .val (.int p2), .val (.int p3), .val (.int p4), .val (.int f0), .val (.int t0), .val (.int f1), .val (.int t1), .val (.int f2), .val (.int t2), .val (.int cc), .val (.ref b53), .val (.ref b59), .val (.int ac), .val (.ref b68), .val (.int (B ((¬ (ac < (0 : Int32))) ∧ (((cc < (1 : Int32)) ∧ (((cc < (2 : Int32)) ∧ ((¬ (cc < (3 : Int32))) ∧ (t2 = ac))) ∨ ((¬ (cc < (2 : Int32))) ∧ ((t1 = ac) ∨ ((¬ (cc < (3 : Int32))) ∧ (t2 = ac)))))) ∨ ((¬ (cc < (1 : Int32))) ∧ ((t0 = ac) ∨ (((cc < (2 : Int32)) ∧ ((¬ (cc < (3 : Int32))) ∧ (t2 = ac))) ∨ ((¬ (cc < (2 : Int32))) ∧ ((t1 = ac) ∨ ((¬ (cc < (3 : Int32))) ∧ (t2 = ac)))))))))))] [])) (fun _ ks_ => XS.icmpNo X85.here hx rfl (hb hby at_337) rfl (teq (show (B ((¬ (ac < (0 : Int32))) ∧ (¬ ((((ps2 (cn1 (own_l [t0, t1]) 2) 3) ac.toNatClampNeg) = ((ps2 (cn1 (own_l [t0, t1]) 2) 3) (ac + (1 : Int32)).toNatClampNeg)))))) = (B ((¬ (ac < (0 : Int32))) ∧ (((cc < (1 : Int32)) ∧ (((cc < (2 : Int32)) ∧ ((¬ (cc < (3 : Int32))) ∧ (t2 = ac))) ∨ ((¬ (cc < (2 : Int32))) ∧ ((t1 = ac) ∨ ((¬ (cc < (3 : Int32))) ∧ (t2 = ac)))))) ∨ ((¬ (cc < (1 : Int32))) ∧ ((t0 = ac) ∨ (((cc < (2 : Int32)) ∧ ((¬ (cc < (3 : Int32))) ∧ (t2 = ac))) ∨ ((¬ (cc < (2 : Int32))) ∧ ((t1 = ac) ∨ ((¬ (cc < (3 : Int32))) ∧ (t2 = ac)))))))))) from (B_iff (own_fin2 cc ac f0 t0 f1 t1 f2 t2 c176_33 hac' ht0 ht1)))).2 ks_) ?_
            refine go (u' := T85.setTop (mkF m 341 #[.val (.int p0), .val (.int p1), .val (.int p2), .val (.int p3), .val (.int p4), .val (.int f0), .val (.int t0), .val (.int f1), .val (.int t1), .val (.int f2), .val (.int t2), .val (.int cc), .val (.ref b53), .val (.ref b59), .val (.int ac), .val (.ref b68), .val (.int (B ((¬ (ac < (0 : Int32))) ∧ (((cc < (1 : Int32)) ∧ (((cc < (2 : Int32)) ∧ ((¬ (cc < (3 : Int32))) ∧ (t2 = ac))) ∨ ((¬ (cc < (2 : Int32))) ∧ ((t1 = ac) ∨ ((¬ (cc < (3 : Int32))) ∧ (t2 = ac)))))) ∨ ((¬ (cc < (1 : Int32))) ∧ ((t0 = ac) ∨ (((cc < (2 : Int32)) ∧ ((¬ (cc < (3 : Int32))) ∧ (t2 = ac))) ∨ ((¬ (cc < (2 : Int32))) ∧ ((t1 = ac) ∨ ((¬ (cc < (3 : Int32))) ∧ (t2 = ac)))))))))))] [(.int (1 : Int32))])) (fun _ ks_ => XS.iconst X85.here hx rfl (hb hby at_340) ks_) ?_
            refine go (u' := T85.setTop (mkF m 345 #[.val (.int p0), .val (.int p1), .val (.int p2), .val (.int p3), .val (.int p4), .val (.int f0), .val (.int t0), .val (.int f1), .val (.int t1), .val (.int f2), .val (.int t2), .val (.int cc), .val (.ref b53), .val (.ref b59), .val (.int ac), .val (.ref b68), .val (.int (B ((¬ (ac < (0 : Int32))) ∧ (((cc < (1 : Int32)) ∧ (((cc < (2 : Int32)) ∧ ((¬ (cc < (3 : Int32))) ∧ (t2 = ac))) ∨ ((¬ (cc < (2 : Int32))) ∧ ((t1 = ac) ∨ ((¬ (cc < (3 : Int32))) ∧ (t2 = ac)))))) ∨ ((¬ (cc < (1 : Int32))) ∧ ((t0 = ac) ∨ (((cc < (2 : Int32)) ∧ ((¬ (cc < (3 : Int32))) ∧ (t2 = ac))) ∨ ((¬ (cc < (2 : Int32))) ∧ ((t1 = ac) ∨ ((¬ (cc < (3 : Int32))) ∧ (t2 = ac)))))))))))] [(.int (1 : Int32))])) (fun _ ks_ => XS.goto X85.here hx rfl (pc0 := 341) (pc' := 345) rfl (hb hby at_341) (by decide) (by decide) ks_) ?_
            rw [hG]
            refine gN X85 hx hlk (t := .boolean) hret (by simp) rfl (hb hby at_345) ?_ (Nat.le_of_ble_eq_true rfl) (Nat.le_of_ble_eq_true rfl)
            show Q_rm0 Z p0 p1 p2 p3 p4 h0 n0 (some (.int (1 : Int32))) T85.heap _
            rw [eq85]
            exact ⟨rfl, N85⟩
          by_cases c279_34 : ac < (0 : Int32)
          ·
            refine go (u' := T76.setTop (mkF m 325 #[.val (.int p0), .val (.int p1), .val (.int p2), .val (.int p3), .val (.int p4), .val (.int f0), .val (.int t0), .val (.int f1), .val (.int t1), .val (.int f2), .val (.int t2), .val (.int cc), .val (.ref b53), .val (.ref b59), .val (.int ac), .val (.ref b68), .unset] [])) (fun _ ks_ => XS.ifYes X76.here hx rfl (pc0 := 279) (pc' := 325) rfl (hb hby at_279) rfl ((if0 _ _).trans (tlt c279_34).1) (by decide) (by decide) ks_) ?_
            refine go (u' := T76.setTop (mkF m 326 #[.val (.int p0), .val (.int p1), .val (.int p2), .val (.int p3), .val (.int p4), .val (.int f0), .val (.int t0), .val (.int f1), .val (.int t1), .val (.int f2), .val (.int t2), .val (.int cc), .val (.ref b53), .val (.ref b59), .val (.int ac), .val (.ref b68), .unset] [(.int (0 : Int32))])) (fun _ ks_ => XS.iconst X76.here hx rfl (hb hby at_325) ks_) ?_
            exact J326_4 _ (B0 (fun q => (fun q => q c279_34) q.1))
          ·
            refine go (u' := T76.setTop (mkF m 282 #[.val (.int p0), .val (.int p1), .val (.int p2), .val (.int p3), .val (.int p4), .val (.int f0), .val (.int t0), .val (.int f1), .val (.int t1), .val (.int f2), .val (.int t2), .val (.int cc), .val (.ref b53), .val (.ref b59), .val (.int ac), .val (.ref b68), .unset] [])) (fun _ ks_ => XS.ifNo X76.here hx rfl (hb hby at_279) rfl ((if0 _ _).trans (flt c279_34).1) ks_) ?_
            refine go (u' := T76.setTop (mkF m 284 #[.val (.int p0), .val (.int p1), .val (.int p2), .val (.int p3), .val (.int p4), .val (.int f0), .val (.int t0), .val (.int f1), .val (.int t1), .val (.int f2), .val (.int t2), .val (.int cc), .val (.ref b53), .val (.ref b59), .val (.int ac), .val (.ref b68), .unset] [(.int cc)])) (fun _ ks_ => XS.iload X76.here hx rfl (hb hby at_282) rfl  ks_) ?_
            refine go (u' := T76.setTop (mkF m 285 #[.val (.int p0), .val (.int p1), .val (.int p2), .val (.int p3), .val (.int p4), .val (.int f0), .val (.int t0), .val (.int f1), .val (.int t1), .val (.int f2), .val (.int t2), .val (.int cc), .val (.ref b53), .val (.ref b59), .val (.int ac), .val (.ref b68), .unset] [(.int (1 : Int32)), (.int cc)])) (fun _ ks_ => XS.iconst X76.here hx rfl (hb hby at_284) ks_) ?_
            by_cases c285_35 : cc < (1 : Int32)
            ·
              refine go (u' := T76.setTop (mkF m 295 #[.val (.int p0), .val (.int p1), .val (.int p2), .val (.int p3), .val (.int p4), .val (.int f0), .val (.int t0), .val (.int f1), .val (.int t1), .val (.int f2), .val (.int t2), .val (.int cc), .val (.ref b53), .val (.ref b59), .val (.int ac), .val (.ref b68), .unset] [])) (fun _ ks_ => XS.icmpYes X76.here hx rfl (pc0 := 285) (pc' := 295) rfl (hb hby at_285) rfl (tlt c285_35).1 (by decide) (by decide) ks_) ?_
              refine go (u' := T76.setTop (mkF m 297 #[.val (.int p0), .val (.int p1), .val (.int p2), .val (.int p3), .val (.int p4), .val (.int f0), .val (.int t0), .val (.int f1), .val (.int t1), .val (.int f2), .val (.int t2), .val (.int cc), .val (.ref b53), .val (.ref b59), .val (.int ac), .val (.ref b68), .unset] [(.int cc)])) (fun _ ks_ => XS.iload X76.here hx rfl (hb hby at_295) rfl  ks_) ?_
              refine go (u' := T76.setTop (mkF m 298 #[.val (.int p0), .val (.int p1), .val (.int p2), .val (.int p3), .val (.int p4), .val (.int f0), .val (.int t0), .val (.int f1), .val (.int t1), .val (.int f2), .val (.int t2), .val (.int cc), .val (.ref b53), .val (.ref b59), .val (.int ac), .val (.ref b68), .unset] [(.int (2 : Int32)), (.int cc)])) (fun _ ks_ => XS.iconst X76.here hx rfl (hb hby at_297) ks_) ?_
              by_cases c298_36 : cc < (2 : Int32)
              ·
                refine go (u' := T76.setTop (mkF m 308 #[.val (.int p0), .val (.int p1), .val (.int p2), .val (.int p3), .val (.int p4), .val (.int f0), .val (.int t0), .val (.int f1), .val (.int t1), .val (.int f2), .val (.int t2), .val (.int cc), .val (.ref b53), .val (.ref b59), .val (.int ac), .val (.ref b68), .unset] [])) (fun _ ks_ => XS.icmpYes X76.here hx rfl (pc0 := 298) (pc' := 308) rfl (hb hby at_298) rfl (tlt c298_36).1 (by decide) (by decide) ks_) ?_
                refine go (u' := T76.setTop (mkF m 310 #[.val (.int p0), .val (.int p1), .val (.int p2), .val (.int p3), .val (.int p4), .val (.int f0), .val (.int t0), .val (.int f1), .val (.int t1), .val (.int f2), .val (.int t2), .val (.int cc), .val (.ref b53), .val (.ref b59), .val (.int ac), .val (.ref b68), .unset] [(.int cc)])) (fun _ ks_ => XS.iload X76.here hx rfl (hb hby at_308) rfl  ks_) ?_
                refine go (u' := T76.setTop (mkF m 311 #[.val (.int p0), .val (.int p1), .val (.int p2), .val (.int p3), .val (.int p4), .val (.int f0), .val (.int t0), .val (.int f1), .val (.int t1), .val (.int f2), .val (.int t2), .val (.int cc), .val (.ref b53), .val (.ref b59), .val (.int ac), .val (.ref b68), .unset] [(.int (3 : Int32)), (.int cc)])) (fun _ ks_ => XS.iconst X76.here hx rfl (hb hby at_310) ks_) ?_
                by_cases c311_37 : cc < (3 : Int32)
                ·
                  refine go (u' := T76.setTop (mkF m 325 #[.val (.int p0), .val (.int p1), .val (.int p2), .val (.int p3), .val (.int p4), .val (.int f0), .val (.int t0), .val (.int f1), .val (.int t1), .val (.int f2), .val (.int t2), .val (.int cc), .val (.ref b53), .val (.ref b59), .val (.int ac), .val (.ref b68), .unset] [])) (fun _ ks_ => XS.icmpYes X76.here hx rfl (pc0 := 311) (pc' := 325) rfl (hb hby at_311) rfl (tlt c311_37).1 (by decide) (by decide) ks_) ?_
                  refine go (u' := T76.setTop (mkF m 326 #[.val (.int p0), .val (.int p1), .val (.int p2), .val (.int p3), .val (.int p4), .val (.int f0), .val (.int t0), .val (.int f1), .val (.int t1), .val (.int f2), .val (.int t2), .val (.int cc), .val (.ref b53), .val (.ref b59), .val (.int ac), .val (.ref b68), .unset] [(.int (0 : Int32))])) (fun _ ks_ => XS.iconst X76.here hx rfl (hb hby at_325) ks_) ?_
                  exact J326_4 _ (B0 (fun q => (fun q => q.elim (fun q => (fun q => q.elim (fun q => (fun q => (fun q => q c311_37) q.1) q.2) (fun q => (fun q => q c298_36) q.1)) q.2) (fun q => (fun q => q c285_35) q.1)) q.2))
                ·
                  refine go (u' := T76.setTop (mkF m 314 #[.val (.int p0), .val (.int p1), .val (.int p2), .val (.int p3), .val (.int p4), .val (.int f0), .val (.int t0), .val (.int f1), .val (.int t1), .val (.int f2), .val (.int t2), .val (.int cc), .val (.ref b53), .val (.ref b59), .val (.int ac), .val (.ref b68), .unset] [])) (fun _ ks_ => XS.icmpNo X76.here hx rfl (hb hby at_311) rfl (flt c311_37).1 ks_) ?_
                  refine go (u' := T76.setTop (mkF m 316 #[.val (.int p0), .val (.int p1), .val (.int p2), .val (.int p3), .val (.int p4), .val (.int f0), .val (.int t0), .val (.int f1), .val (.int t1), .val (.int f2), .val (.int t2), .val (.int cc), .val (.ref b53), .val (.ref b59), .val (.int ac), .val (.ref b68), .unset] [(.int t2)])) (fun _ ks_ => XS.iload X76.here hx rfl (hb hby at_314) rfl  ks_) ?_
                  refine go (u' := T76.setTop (mkF m 318 #[.val (.int p0), .val (.int p1), .val (.int p2), .val (.int p3), .val (.int p4), .val (.int f0), .val (.int t0), .val (.int f1), .val (.int t1), .val (.int f2), .val (.int t2), .val (.int cc), .val (.ref b53), .val (.ref b59), .val (.int ac), .val (.ref b68), .unset] [(.int ac), (.int t2)])) (fun _ ks_ => XS.iload X76.here hx rfl (hb hby at_316) rfl  ks_) ?_
                  by_cases c318_38 : t2 = ac
                  ·
                    refine go (u' := T76.setTop (mkF m 321 #[.val (.int p0), .val (.int p1), .val (.int p2), .val (.int p3), .val (.int p4), .val (.int f0), .val (.int t0), .val (.int f1), .val (.int t1), .val (.int f2), .val (.int t2), .val (.int cc), .val (.ref b53), .val (.ref b59), .val (.int ac), .val (.ref b68), .unset] [])) (fun _ ks_ => XS.icmpNo X76.here hx rfl (hb hby at_318) rfl (teq c318_38).2 ks_) ?_
                    refine go (u' := T76.setTop (mkF m 322 #[.val (.int p0), .val (.int p1), .val (.int p2), .val (.int p3), .val (.int p4), .val (.int f0), .val (.int t0), .val (.int f1), .val (.int t1), .val (.int f2), .val (.int t2), .val (.int cc), .val (.ref b53), .val (.ref b59), .val (.int ac), .val (.ref b68), .unset] [(.int (1 : Int32))])) (fun _ ks_ => XS.iconst X76.here hx rfl (hb hby at_321) ks_) ?_
                    refine go (u' := T76.setTop (mkF m 326 #[.val (.int p0), .val (.int p1), .val (.int p2), .val (.int p3), .val (.int p4), .val (.int f0), .val (.int t0), .val (.int f1), .val (.int t1), .val (.int f2), .val (.int t2), .val (.int cc), .val (.ref b53), .val (.ref b59), .val (.int ac), .val (.ref b68), .unset] [(.int (1 : Int32))])) (fun _ ks_ => XS.goto X76.here hx rfl (pc0 := 322) (pc' := 326) rfl (hb hby at_322) (by decide) (by decide) ks_) ?_
                    exact J326_4 _ (B1 ⟨c279_34, (Or.inl ⟨c285_35, (Or.inl ⟨c298_36, ⟨c311_37, c318_38⟩⟩)⟩)⟩)
                  ·
                    refine go (u' := T76.setTop (mkF m 325 #[.val (.int p0), .val (.int p1), .val (.int p2), .val (.int p3), .val (.int p4), .val (.int f0), .val (.int t0), .val (.int f1), .val (.int t1), .val (.int f2), .val (.int t2), .val (.int cc), .val (.ref b53), .val (.ref b59), .val (.int ac), .val (.ref b68), .unset] [])) (fun _ ks_ => XS.icmpYes X76.here hx rfl (pc0 := 318) (pc' := 325) rfl (hb hby at_318) rfl (feq c318_38).2 (by decide) (by decide) ks_) ?_
                    refine go (u' := T76.setTop (mkF m 326 #[.val (.int p0), .val (.int p1), .val (.int p2), .val (.int p3), .val (.int p4), .val (.int f0), .val (.int t0), .val (.int f1), .val (.int t1), .val (.int f2), .val (.int t2), .val (.int cc), .val (.ref b53), .val (.ref b59), .val (.int ac), .val (.ref b68), .unset] [(.int (0 : Int32))])) (fun _ ks_ => XS.iconst X76.here hx rfl (hb hby at_325) ks_) ?_
                    exact J326_4 _ (B0 (fun q => (fun q => q.elim (fun q => (fun q => q.elim (fun q => (fun q => c318_38 q.2) q.2) (fun q => (fun q => q c298_36) q.1)) q.2) (fun q => (fun q => q c285_35) q.1)) q.2))
              ·
                refine go (u' := T76.setTop (mkF m 301 #[.val (.int p0), .val (.int p1), .val (.int p2), .val (.int p3), .val (.int p4), .val (.int f0), .val (.int t0), .val (.int f1), .val (.int t1), .val (.int f2), .val (.int t2), .val (.int cc), .val (.ref b53), .val (.ref b59), .val (.int ac), .val (.ref b68), .unset] [])) (fun _ ks_ => XS.icmpNo X76.here hx rfl (hb hby at_298) rfl (flt c298_36).1 ks_) ?_
                refine go (u' := T76.setTop (mkF m 303 #[.val (.int p0), .val (.int p1), .val (.int p2), .val (.int p3), .val (.int p4), .val (.int f0), .val (.int t0), .val (.int f1), .val (.int t1), .val (.int f2), .val (.int t2), .val (.int cc), .val (.ref b53), .val (.ref b59), .val (.int ac), .val (.ref b68), .unset] [(.int t1)])) (fun _ ks_ => XS.iload X76.here hx rfl (hb hby at_301) rfl  ks_) ?_
                refine go (u' := T76.setTop (mkF m 305 #[.val (.int p0), .val (.int p1), .val (.int p2), .val (.int p3), .val (.int p4), .val (.int f0), .val (.int t0), .val (.int f1), .val (.int t1), .val (.int f2), .val (.int t2), .val (.int cc), .val (.ref b53), .val (.ref b59), .val (.int ac), .val (.ref b68), .unset] [(.int ac), (.int t1)])) (fun _ ks_ => XS.iload X76.here hx rfl (hb hby at_303) rfl  ks_) ?_
                by_cases c305_39 : t1 = ac
                ·
                  refine go (u' := T76.setTop (mkF m 321 #[.val (.int p0), .val (.int p1), .val (.int p2), .val (.int p3), .val (.int p4), .val (.int f0), .val (.int t0), .val (.int f1), .val (.int t1), .val (.int f2), .val (.int t2), .val (.int cc), .val (.ref b53), .val (.ref b59), .val (.int ac), .val (.ref b68), .unset] [])) (fun _ ks_ => XS.icmpYes X76.here hx rfl (pc0 := 305) (pc' := 321) rfl (hb hby at_305) rfl (teq c305_39).1 (by decide) (by decide) ks_) ?_
                  refine go (u' := T76.setTop (mkF m 322 #[.val (.int p0), .val (.int p1), .val (.int p2), .val (.int p3), .val (.int p4), .val (.int f0), .val (.int t0), .val (.int f1), .val (.int t1), .val (.int f2), .val (.int t2), .val (.int cc), .val (.ref b53), .val (.ref b59), .val (.int ac), .val (.ref b68), .unset] [(.int (1 : Int32))])) (fun _ ks_ => XS.iconst X76.here hx rfl (hb hby at_321) ks_) ?_
                  refine go (u' := T76.setTop (mkF m 326 #[.val (.int p0), .val (.int p1), .val (.int p2), .val (.int p3), .val (.int p4), .val (.int f0), .val (.int t0), .val (.int f1), .val (.int t1), .val (.int f2), .val (.int t2), .val (.int cc), .val (.ref b53), .val (.ref b59), .val (.int ac), .val (.ref b68), .unset] [(.int (1 : Int32))])) (fun _ ks_ => XS.goto X76.here hx rfl (pc0 := 322) (pc' := 326) rfl (hb hby at_322) (by decide) (by decide) ks_) ?_
                  exact J326_4 _ (B1 ⟨c279_34, (Or.inl ⟨c285_35, (Or.inr ⟨c298_36, (Or.inl c305_39)⟩)⟩)⟩)
                ·
                  refine go (u' := T76.setTop (mkF m 308 #[.val (.int p0), .val (.int p1), .val (.int p2), .val (.int p3), .val (.int p4), .val (.int f0), .val (.int t0), .val (.int f1), .val (.int t1), .val (.int f2), .val (.int t2), .val (.int cc), .val (.ref b53), .val (.ref b59), .val (.int ac), .val (.ref b68), .unset] [])) (fun _ ks_ => XS.icmpNo X76.here hx rfl (hb hby at_305) rfl (feq c305_39).1 ks_) ?_
                  refine go (u' := T76.setTop (mkF m 310 #[.val (.int p0), .val (.int p1), .val (.int p2), .val (.int p3), .val (.int p4), .val (.int f0), .val (.int t0), .val (.int f1), .val (.int t1), .val (.int f2), .val (.int t2), .val (.int cc), .val (.ref b53), .val (.ref b59), .val (.int ac), .val (.ref b68), .unset] [(.int cc)])) (fun _ ks_ => XS.iload X76.here hx rfl (hb hby at_308) rfl  ks_) ?_
                  refine go (u' := T76.setTop (mkF m 311 #[.val (.int p0), .val (.int p1), .val (.int p2), .val (.int p3), .val (.int p4), .val (.int f0), .val (.int t0), .val (.int f1), .val (.int t1), .val (.int f2), .val (.int t2), .val (.int cc), .val (.ref b53), .val (.ref b59), .val (.int ac), .val (.ref b68), .unset] [(.int (3 : Int32)), (.int cc)])) (fun _ ks_ => XS.iconst X76.here hx rfl (hb hby at_310) ks_) ?_
                  by_cases c311_40 : cc < (3 : Int32)
                  ·
                    refine go (u' := T76.setTop (mkF m 325 #[.val (.int p0), .val (.int p1), .val (.int p2), .val (.int p3), .val (.int p4), .val (.int f0), .val (.int t0), .val (.int f1), .val (.int t1), .val (.int f2), .val (.int t2), .val (.int cc), .val (.ref b53), .val (.ref b59), .val (.int ac), .val (.ref b68), .unset] [])) (fun _ ks_ => XS.icmpYes X76.here hx rfl (pc0 := 311) (pc' := 325) rfl (hb hby at_311) rfl (tlt c311_40).1 (by decide) (by decide) ks_) ?_
                    refine go (u' := T76.setTop (mkF m 326 #[.val (.int p0), .val (.int p1), .val (.int p2), .val (.int p3), .val (.int p4), .val (.int f0), .val (.int t0), .val (.int f1), .val (.int t1), .val (.int f2), .val (.int t2), .val (.int cc), .val (.ref b53), .val (.ref b59), .val (.int ac), .val (.ref b68), .unset] [(.int (0 : Int32))])) (fun _ ks_ => XS.iconst X76.here hx rfl (hb hby at_325) ks_) ?_
                    exact J326_4 _ (B0 (fun q => (fun q => q.elim (fun q => (fun q => q.elim (fun q => c298_36 q.1) (fun q => (fun q => q.elim c305_39 (fun q => (fun q => q c311_40) q.1)) q.2)) q.2) (fun q => (fun q => q c285_35) q.1)) q.2))
                  ·
                    refine go (u' := T76.setTop (mkF m 314 #[.val (.int p0), .val (.int p1), .val (.int p2), .val (.int p3), .val (.int p4), .val (.int f0), .val (.int t0), .val (.int f1), .val (.int t1), .val (.int f2), .val (.int t2), .val (.int cc), .val (.ref b53), .val (.ref b59), .val (.int ac), .val (.ref b68), .unset] [])) (fun _ ks_ => XS.icmpNo X76.here hx rfl (hb hby at_311) rfl (flt c311_40).1 ks_) ?_
                    refine go (u' := T76.setTop (mkF m 316 #[.val (.int p0), .val (.int p1), .val (.int p2), .val (.int p3), .val (.int p4), .val (.int f0), .val (.int t0), .val (.int f1), .val (.int t1), .val (.int f2), .val (.int t2), .val (.int cc), .val (.ref b53), .val (.ref b59), .val (.int ac), .val (.ref b68), .unset] [(.int t2)])) (fun _ ks_ => XS.iload X76.here hx rfl (hb hby at_314) rfl  ks_) ?_
                    refine go (u' := T76.setTop (mkF m 318 #[.val (.int p0), .val (.int p1), .val (.int p2), .val (.int p3), .val (.int p4), .val (.int f0), .val (.int t0), .val (.int f1), .val (.int t1), .val (.int f2), .val (.int t2), .val (.int cc), .val (.ref b53), .val (.ref b59), .val (.int ac), .val (.ref b68), .unset] [(.int ac), (.int t2)])) (fun _ ks_ => XS.iload X76.here hx rfl (hb hby at_316) rfl  ks_) ?_
                    by_cases c318_41 : t2 = ac
                    ·
                      refine go (u' := T76.setTop (mkF m 321 #[.val (.int p0), .val (.int p1), .val (.int p2), .val (.int p3), .val (.int p4), .val (.int f0), .val (.int t0), .val (.int f1), .val (.int t1), .val (.int f2), .val (.int t2), .val (.int cc), .val (.ref b53), .val (.ref b59), .val (.int ac), .val (.ref b68), .unset] [])) (fun _ ks_ => XS.icmpNo X76.here hx rfl (hb hby at_318) rfl (teq c318_41).2 ks_) ?_
                      refine go (u' := T76.setTop (mkF m 322 #[.val (.int p0), .val (.int p1), .val (.int p2), .val (.int p3), .val (.int p4), .val (.int f0), .val (.int t0), .val (.int f1), .val (.int t1), .val (.int f2), .val (.int t2), .val (.int cc), .val (.ref b53), .val (.ref b59), .val (.int ac), .val (.ref b68), .unset] [(.int (1 : Int32))])) (fun _ ks_ => XS.iconst X76.here hx rfl (hb hby at_321) ks_) ?_
                      refine go (u' := T76.setTop (mkF m 326 #[.val (.int p0), .val (.int p1), .val (.int p2), .val (.int p3), .val (.int p4), .val (.int f0), .val (.int t0), .val (.int f1), .val (.int t1), .val (.int f2), .val (.int t2), .val (.int cc), .val (.ref b53), .val (.ref b59), .val (.int ac), .val (.ref b68), .unset] [(.int (1 : Int32))])) (fun _ ks_ => XS.goto X76.here hx rfl (pc0 := 322) (pc' := 326) rfl (hb hby at_322) (by decide) (by decide) ks_) ?_
                      exact J326_4 _ (B1 ⟨c279_34, (Or.inl ⟨c285_35, (Or.inr ⟨c298_36, (Or.inr ⟨c311_40, c318_41⟩)⟩)⟩)⟩)
                    ·
                      refine go (u' := T76.setTop (mkF m 325 #[.val (.int p0), .val (.int p1), .val (.int p2), .val (.int p3), .val (.int p4), .val (.int f0), .val (.int t0), .val (.int f1), .val (.int t1), .val (.int f2), .val (.int t2), .val (.int cc), .val (.ref b53), .val (.ref b59), .val (.int ac), .val (.ref b68), .unset] [])) (fun _ ks_ => XS.icmpYes X76.here hx rfl (pc0 := 318) (pc' := 325) rfl (hb hby at_318) rfl (feq c318_41).2 (by decide) (by decide) ks_) ?_
                      refine go (u' := T76.setTop (mkF m 326 #[.val (.int p0), .val (.int p1), .val (.int p2), .val (.int p3), .val (.int p4), .val (.int f0), .val (.int t0), .val (.int f1), .val (.int t1), .val (.int f2), .val (.int t2), .val (.int cc), .val (.ref b53), .val (.ref b59), .val (.int ac), .val (.ref b68), .unset] [(.int (0 : Int32))])) (fun _ ks_ => XS.iconst X76.here hx rfl (hb hby at_325) ks_) ?_
                      exact J326_4 _ (B0 (fun q => (fun q => q.elim (fun q => (fun q => q.elim (fun q => c298_36 q.1) (fun q => (fun q => q.elim c305_39 (fun q => c318_41 q.2)) q.2)) q.2) (fun q => (fun q => q c285_35) q.1)) q.2))
            ·
              refine go (u' := T76.setTop (mkF m 288 #[.val (.int p0), .val (.int p1), .val (.int p2), .val (.int p3), .val (.int p4), .val (.int f0), .val (.int t0), .val (.int f1), .val (.int t1), .val (.int f2), .val (.int t2), .val (.int cc), .val (.ref b53), .val (.ref b59), .val (.int ac), .val (.ref b68), .unset] [])) (fun _ ks_ => XS.icmpNo X76.here hx rfl (hb hby at_285) rfl (flt c285_35).1 ks_) ?_
              refine go (u' := T76.setTop (mkF m 290 #[.val (.int p0), .val (.int p1), .val (.int p2), .val (.int p3), .val (.int p4), .val (.int f0), .val (.int t0), .val (.int f1), .val (.int t1), .val (.int f2), .val (.int t2), .val (.int cc), .val (.ref b53), .val (.ref b59), .val (.int ac), .val (.ref b68), .unset] [(.int t0)])) (fun _ ks_ => XS.iload X76.here hx rfl (hb hby at_288) rfl  ks_) ?_
              refine go (u' := T76.setTop (mkF m 292 #[.val (.int p0), .val (.int p1), .val (.int p2), .val (.int p3), .val (.int p4), .val (.int f0), .val (.int t0), .val (.int f1), .val (.int t1), .val (.int f2), .val (.int t2), .val (.int cc), .val (.ref b53), .val (.ref b59), .val (.int ac), .val (.ref b68), .unset] [(.int ac), (.int t0)])) (fun _ ks_ => XS.iload X76.here hx rfl (hb hby at_290) rfl  ks_) ?_
              by_cases c292_42 : t0 = ac
              ·
                refine go (u' := T76.setTop (mkF m 321 #[.val (.int p0), .val (.int p1), .val (.int p2), .val (.int p3), .val (.int p4), .val (.int f0), .val (.int t0), .val (.int f1), .val (.int t1), .val (.int f2), .val (.int t2), .val (.int cc), .val (.ref b53), .val (.ref b59), .val (.int ac), .val (.ref b68), .unset] [])) (fun _ ks_ => XS.icmpYes X76.here hx rfl (pc0 := 292) (pc' := 321) rfl (hb hby at_292) rfl (teq c292_42).1 (by decide) (by decide) ks_) ?_
                refine go (u' := T76.setTop (mkF m 322 #[.val (.int p0), .val (.int p1), .val (.int p2), .val (.int p3), .val (.int p4), .val (.int f0), .val (.int t0), .val (.int f1), .val (.int t1), .val (.int f2), .val (.int t2), .val (.int cc), .val (.ref b53), .val (.ref b59), .val (.int ac), .val (.ref b68), .unset] [(.int (1 : Int32))])) (fun _ ks_ => XS.iconst X76.here hx rfl (hb hby at_321) ks_) ?_
                refine go (u' := T76.setTop (mkF m 326 #[.val (.int p0), .val (.int p1), .val (.int p2), .val (.int p3), .val (.int p4), .val (.int f0), .val (.int t0), .val (.int f1), .val (.int t1), .val (.int f2), .val (.int t2), .val (.int cc), .val (.ref b53), .val (.ref b59), .val (.int ac), .val (.ref b68), .unset] [(.int (1 : Int32))])) (fun _ ks_ => XS.goto X76.here hx rfl (pc0 := 322) (pc' := 326) rfl (hb hby at_322) (by decide) (by decide) ks_) ?_
                exact J326_4 _ (B1 ⟨c279_34, (Or.inr ⟨c285_35, (Or.inl c292_42)⟩)⟩)
              ·
                refine go (u' := T76.setTop (mkF m 295 #[.val (.int p0), .val (.int p1), .val (.int p2), .val (.int p3), .val (.int p4), .val (.int f0), .val (.int t0), .val (.int f1), .val (.int t1), .val (.int f2), .val (.int t2), .val (.int cc), .val (.ref b53), .val (.ref b59), .val (.int ac), .val (.ref b68), .unset] [])) (fun _ ks_ => XS.icmpNo X76.here hx rfl (hb hby at_292) rfl (feq c292_42).1 ks_) ?_
                refine go (u' := T76.setTop (mkF m 297 #[.val (.int p0), .val (.int p1), .val (.int p2), .val (.int p3), .val (.int p4), .val (.int f0), .val (.int t0), .val (.int f1), .val (.int t1), .val (.int f2), .val (.int t2), .val (.int cc), .val (.ref b53), .val (.ref b59), .val (.int ac), .val (.ref b68), .unset] [(.int cc)])) (fun _ ks_ => XS.iload X76.here hx rfl (hb hby at_295) rfl  ks_) ?_
                refine go (u' := T76.setTop (mkF m 298 #[.val (.int p0), .val (.int p1), .val (.int p2), .val (.int p3), .val (.int p4), .val (.int f0), .val (.int t0), .val (.int f1), .val (.int t1), .val (.int f2), .val (.int t2), .val (.int cc), .val (.ref b53), .val (.ref b59), .val (.int ac), .val (.ref b68), .unset] [(.int (2 : Int32)), (.int cc)])) (fun _ ks_ => XS.iconst X76.here hx rfl (hb hby at_297) ks_) ?_
                by_cases c298_43 : cc < (2 : Int32)
                ·
                  refine go (u' := T76.setTop (mkF m 308 #[.val (.int p0), .val (.int p1), .val (.int p2), .val (.int p3), .val (.int p4), .val (.int f0), .val (.int t0), .val (.int f1), .val (.int t1), .val (.int f2), .val (.int t2), .val (.int cc), .val (.ref b53), .val (.ref b59), .val (.int ac), .val (.ref b68), .unset] [])) (fun _ ks_ => XS.icmpYes X76.here hx rfl (pc0 := 298) (pc' := 308) rfl (hb hby at_298) rfl (tlt c298_43).1 (by decide) (by decide) ks_) ?_
                  refine go (u' := T76.setTop (mkF m 310 #[.val (.int p0), .val (.int p1), .val (.int p2), .val (.int p3), .val (.int p4), .val (.int f0), .val (.int t0), .val (.int f1), .val (.int t1), .val (.int f2), .val (.int t2), .val (.int cc), .val (.ref b53), .val (.ref b59), .val (.int ac), .val (.ref b68), .unset] [(.int cc)])) (fun _ ks_ => XS.iload X76.here hx rfl (hb hby at_308) rfl  ks_) ?_
                  refine go (u' := T76.setTop (mkF m 311 #[.val (.int p0), .val (.int p1), .val (.int p2), .val (.int p3), .val (.int p4), .val (.int f0), .val (.int t0), .val (.int f1), .val (.int t1), .val (.int f2), .val (.int t2), .val (.int cc), .val (.ref b53), .val (.ref b59), .val (.int ac), .val (.ref b68), .unset] [(.int (3 : Int32)), (.int cc)])) (fun _ ks_ => XS.iconst X76.here hx rfl (hb hby at_310) ks_) ?_
                  by_cases c311_44 : cc < (3 : Int32)
                  ·
                    refine go (u' := T76.setTop (mkF m 325 #[.val (.int p0), .val (.int p1), .val (.int p2), .val (.int p3), .val (.int p4), .val (.int f0), .val (.int t0), .val (.int f1), .val (.int t1), .val (.int f2), .val (.int t2), .val (.int cc), .val (.ref b53), .val (.ref b59), .val (.int ac), .val (.ref b68), .unset] [])) (fun _ ks_ => XS.icmpYes X76.here hx rfl (pc0 := 311) (pc' := 325) rfl (hb hby at_311) rfl (tlt c311_44).1 (by decide) (by decide) ks_) ?_
                    refine go (u' := T76.setTop (mkF m 326 #[.val (.int p0), .val (.int p1), .val (.int p2), .val (.int p3), .val (.int p4), .val (.int f0), .val (.int t0), .val (.int f1), .val (.int t1), .val (.int f2), .val (.int t2), .val (.int cc), .val (.ref b53), .val (.ref b59), .val (.int ac), .val (.ref b68), .unset] [(.int (0 : Int32))])) (fun _ ks_ => XS.iconst X76.here hx rfl (hb hby at_325) ks_) ?_
                    exact J326_4 _ (B0 (fun q => (fun q => q.elim (fun q => c285_35 q.1) (fun q => (fun q => q.elim c292_42 (fun q => q.elim (fun q => (fun q => (fun q => q c311_44) q.1) q.2) (fun q => (fun q => q c298_43) q.1))) q.2)) q.2))
                  ·
                    refine go (u' := T76.setTop (mkF m 314 #[.val (.int p0), .val (.int p1), .val (.int p2), .val (.int p3), .val (.int p4), .val (.int f0), .val (.int t0), .val (.int f1), .val (.int t1), .val (.int f2), .val (.int t2), .val (.int cc), .val (.ref b53), .val (.ref b59), .val (.int ac), .val (.ref b68), .unset] [])) (fun _ ks_ => XS.icmpNo X76.here hx rfl (hb hby at_311) rfl (flt c311_44).1 ks_) ?_
                    refine go (u' := T76.setTop (mkF m 316 #[.val (.int p0), .val (.int p1), .val (.int p2), .val (.int p3), .val (.int p4), .val (.int f0), .val (.int t0), .val (.int f1), .val (.int t1), .val (.int f2), .val (.int t2), .val (.int cc), .val (.ref b53), .val (.ref b59), .val (.int ac), .val (.ref b68), .unset] [(.int t2)])) (fun _ ks_ => XS.iload X76.here hx rfl (hb hby at_314) rfl  ks_) ?_
                    refine go (u' := T76.setTop (mkF m 318 #[.val (.int p0), .val (.int p1), .val (.int p2), .val (.int p3), .val (.int p4), .val (.int f0), .val (.int t0), .val (.int f1), .val (.int t1), .val (.int f2), .val (.int t2), .val (.int cc), .val (.ref b53), .val (.ref b59), .val (.int ac), .val (.ref b68), .unset] [(.int ac), (.int t2)])) (fun _ ks_ => XS.iload X76.here hx rfl (hb hby at_316) rfl  ks_) ?_
                    by_cases c318_45 : t2 = ac
                    ·
                      refine go (u' := T76.setTop (mkF m 321 #[.val (.int p0), .val (.int p1), .val (.int p2), .val (.int p3), .val (.int p4), .val (.int f0), .val (.int t0), .val (.int f1), .val (.int t1), .val (.int f2), .val (.int t2), .val (.int cc), .val (.ref b53), .val (.ref b59), .val (.int ac), .val (.ref b68), .unset] [])) (fun _ ks_ => XS.icmpNo X76.here hx rfl (hb hby at_318) rfl (teq c318_45).2 ks_) ?_
                      refine go (u' := T76.setTop (mkF m 322 #[.val (.int p0), .val (.int p1), .val (.int p2), .val (.int p3), .val (.int p4), .val (.int f0), .val (.int t0), .val (.int f1), .val (.int t1), .val (.int f2), .val (.int t2), .val (.int cc), .val (.ref b53), .val (.ref b59), .val (.int ac), .val (.ref b68), .unset] [(.int (1 : Int32))])) (fun _ ks_ => XS.iconst X76.here hx rfl (hb hby at_321) ks_) ?_
                      refine go (u' := T76.setTop (mkF m 326 #[.val (.int p0), .val (.int p1), .val (.int p2), .val (.int p3), .val (.int p4), .val (.int f0), .val (.int t0), .val (.int f1), .val (.int t1), .val (.int f2), .val (.int t2), .val (.int cc), .val (.ref b53), .val (.ref b59), .val (.int ac), .val (.ref b68), .unset] [(.int (1 : Int32))])) (fun _ ks_ => XS.goto X76.here hx rfl (pc0 := 322) (pc' := 326) rfl (hb hby at_322) (by decide) (by decide) ks_) ?_
                      exact J326_4 _ (B1 ⟨c279_34, (Or.inr ⟨c285_35, (Or.inr (Or.inl ⟨c298_43, ⟨c311_44, c318_45⟩⟩))⟩)⟩)
                    ·
                      refine go (u' := T76.setTop (mkF m 325 #[.val (.int p0), .val (.int p1), .val (.int p2), .val (.int p3), .val (.int p4), .val (.int f0), .val (.int t0), .val (.int f1), .val (.int t1), .val (.int f2), .val (.int t2), .val (.int cc), .val (.ref b53), .val (.ref b59), .val (.int ac), .val (.ref b68), .unset] [])) (fun _ ks_ => XS.icmpYes X76.here hx rfl (pc0 := 318) (pc' := 325) rfl (hb hby at_318) rfl (feq c318_45).2 (by decide) (by decide) ks_) ?_
                      refine go (u' := T76.setTop (mkF m 326 #[.val (.int p0), .val (.int p1), .val (.int p2), .val (.int p3), .val (.int p4), .val (.int f0), .val (.int t0), .val (.int f1), .val (.int t1), .val (.int f2), .val (.int t2), .val (.int cc), .val (.ref b53), .val (.ref b59), .val (.int ac), .val (.ref b68), .unset] [(.int (0 : Int32))])) (fun _ ks_ => XS.iconst X76.here hx rfl (hb hby at_325) ks_) ?_
                      exact J326_4 _ (B0 (fun q => (fun q => q.elim (fun q => c285_35 q.1) (fun q => (fun q => q.elim c292_42 (fun q => q.elim (fun q => (fun q => c318_45 q.2) q.2) (fun q => (fun q => q c298_43) q.1))) q.2)) q.2))
                ·
                  refine go (u' := T76.setTop (mkF m 301 #[.val (.int p0), .val (.int p1), .val (.int p2), .val (.int p3), .val (.int p4), .val (.int f0), .val (.int t0), .val (.int f1), .val (.int t1), .val (.int f2), .val (.int t2), .val (.int cc), .val (.ref b53), .val (.ref b59), .val (.int ac), .val (.ref b68), .unset] [])) (fun _ ks_ => XS.icmpNo X76.here hx rfl (hb hby at_298) rfl (flt c298_43).1 ks_) ?_
                  refine go (u' := T76.setTop (mkF m 303 #[.val (.int p0), .val (.int p1), .val (.int p2), .val (.int p3), .val (.int p4), .val (.int f0), .val (.int t0), .val (.int f1), .val (.int t1), .val (.int f2), .val (.int t2), .val (.int cc), .val (.ref b53), .val (.ref b59), .val (.int ac), .val (.ref b68), .unset] [(.int t1)])) (fun _ ks_ => XS.iload X76.here hx rfl (hb hby at_301) rfl  ks_) ?_
                  refine go (u' := T76.setTop (mkF m 305 #[.val (.int p0), .val (.int p1), .val (.int p2), .val (.int p3), .val (.int p4), .val (.int f0), .val (.int t0), .val (.int f1), .val (.int t1), .val (.int f2), .val (.int t2), .val (.int cc), .val (.ref b53), .val (.ref b59), .val (.int ac), .val (.ref b68), .unset] [(.int ac), (.int t1)])) (fun _ ks_ => XS.iload X76.here hx rfl (hb hby at_303) rfl  ks_) ?_
                  by_cases c305_46 : t1 = ac
                  ·
                    refine go (u' := T76.setTop (mkF m 321 #[.val (.int p0), .val (.int p1), .val (.int p2), .val (.int p3), .val (.int p4), .val (.int f0), .val (.int t0), .val (.int f1), .val (.int t1), .val (.int f2), .val (.int t2), .val (.int cc), .val (.ref b53), .val (.ref b59), .val (.int ac), .val (.ref b68), .unset] [])) (fun _ ks_ => XS.icmpYes X76.here hx rfl (pc0 := 305) (pc' := 321) rfl (hb hby at_305) rfl (teq c305_46).1 (by decide) (by decide) ks_) ?_
                    refine go (u' := T76.setTop (mkF m 322 #[.val (.int p0), .val (.int p1), .val (.int p2), .val (.int p3), .val (.int p4), .val (.int f0), .val (.int t0), .val (.int f1), .val (.int t1), .val (.int f2), .val (.int t2), .val (.int cc), .val (.ref b53), .val (.ref b59), .val (.int ac), .val (.ref b68), .unset] [(.int (1 : Int32))])) (fun _ ks_ => XS.iconst X76.here hx rfl (hb hby at_321) ks_) ?_
                    refine go (u' := T76.setTop (mkF m 326 #[.val (.int p0), .val (.int p1), .val (.int p2), .val (.int p3), .val (.int p4), .val (.int f0), .val (.int t0), .val (.int f1), .val (.int t1), .val (.int f2), .val (.int t2), .val (.int cc), .val (.ref b53), .val (.ref b59), .val (.int ac), .val (.ref b68), .unset] [(.int (1 : Int32))])) (fun _ ks_ => XS.goto X76.here hx rfl (pc0 := 322) (pc' := 326) rfl (hb hby at_322) (by decide) (by decide) ks_) ?_
                    exact J326_4 _ (B1 ⟨c279_34, (Or.inr ⟨c285_35, (Or.inr (Or.inr ⟨c298_43, (Or.inl c305_46)⟩))⟩)⟩)
                  ·
                    refine go (u' := T76.setTop (mkF m 308 #[.val (.int p0), .val (.int p1), .val (.int p2), .val (.int p3), .val (.int p4), .val (.int f0), .val (.int t0), .val (.int f1), .val (.int t1), .val (.int f2), .val (.int t2), .val (.int cc), .val (.ref b53), .val (.ref b59), .val (.int ac), .val (.ref b68), .unset] [])) (fun _ ks_ => XS.icmpNo X76.here hx rfl (hb hby at_305) rfl (feq c305_46).1 ks_) ?_
                    refine go (u' := T76.setTop (mkF m 310 #[.val (.int p0), .val (.int p1), .val (.int p2), .val (.int p3), .val (.int p4), .val (.int f0), .val (.int t0), .val (.int f1), .val (.int t1), .val (.int f2), .val (.int t2), .val (.int cc), .val (.ref b53), .val (.ref b59), .val (.int ac), .val (.ref b68), .unset] [(.int cc)])) (fun _ ks_ => XS.iload X76.here hx rfl (hb hby at_308) rfl  ks_) ?_
                    refine go (u' := T76.setTop (mkF m 311 #[.val (.int p0), .val (.int p1), .val (.int p2), .val (.int p3), .val (.int p4), .val (.int f0), .val (.int t0), .val (.int f1), .val (.int t1), .val (.int f2), .val (.int t2), .val (.int cc), .val (.ref b53), .val (.ref b59), .val (.int ac), .val (.ref b68), .unset] [(.int (3 : Int32)), (.int cc)])) (fun _ ks_ => XS.iconst X76.here hx rfl (hb hby at_310) ks_) ?_
                    by_cases c311_47 : cc < (3 : Int32)
                    ·
                      refine go (u' := T76.setTop (mkF m 325 #[.val (.int p0), .val (.int p1), .val (.int p2), .val (.int p3), .val (.int p4), .val (.int f0), .val (.int t0), .val (.int f1), .val (.int t1), .val (.int f2), .val (.int t2), .val (.int cc), .val (.ref b53), .val (.ref b59), .val (.int ac), .val (.ref b68), .unset] [])) (fun _ ks_ => XS.icmpYes X76.here hx rfl (pc0 := 311) (pc' := 325) rfl (hb hby at_311) rfl (tlt c311_47).1 (by decide) (by decide) ks_) ?_
                      refine go (u' := T76.setTop (mkF m 326 #[.val (.int p0), .val (.int p1), .val (.int p2), .val (.int p3), .val (.int p4), .val (.int f0), .val (.int t0), .val (.int f1), .val (.int t1), .val (.int f2), .val (.int t2), .val (.int cc), .val (.ref b53), .val (.ref b59), .val (.int ac), .val (.ref b68), .unset] [(.int (0 : Int32))])) (fun _ ks_ => XS.iconst X76.here hx rfl (hb hby at_325) ks_) ?_
                      exact J326_4 _ (B0 (fun q => (fun q => q.elim (fun q => c285_35 q.1) (fun q => (fun q => q.elim c292_42 (fun q => q.elim (fun q => c298_43 q.1) (fun q => (fun q => q.elim c305_46 (fun q => (fun q => q c311_47) q.1)) q.2))) q.2)) q.2))
                    ·
                      refine go (u' := T76.setTop (mkF m 314 #[.val (.int p0), .val (.int p1), .val (.int p2), .val (.int p3), .val (.int p4), .val (.int f0), .val (.int t0), .val (.int f1), .val (.int t1), .val (.int f2), .val (.int t2), .val (.int cc), .val (.ref b53), .val (.ref b59), .val (.int ac), .val (.ref b68), .unset] [])) (fun _ ks_ => XS.icmpNo X76.here hx rfl (hb hby at_311) rfl (flt c311_47).1 ks_) ?_
                      refine go (u' := T76.setTop (mkF m 316 #[.val (.int p0), .val (.int p1), .val (.int p2), .val (.int p3), .val (.int p4), .val (.int f0), .val (.int t0), .val (.int f1), .val (.int t1), .val (.int f2), .val (.int t2), .val (.int cc), .val (.ref b53), .val (.ref b59), .val (.int ac), .val (.ref b68), .unset] [(.int t2)])) (fun _ ks_ => XS.iload X76.here hx rfl (hb hby at_314) rfl  ks_) ?_
                      refine go (u' := T76.setTop (mkF m 318 #[.val (.int p0), .val (.int p1), .val (.int p2), .val (.int p3), .val (.int p4), .val (.int f0), .val (.int t0), .val (.int f1), .val (.int t1), .val (.int f2), .val (.int t2), .val (.int cc), .val (.ref b53), .val (.ref b59), .val (.int ac), .val (.ref b68), .unset] [(.int ac), (.int t2)])) (fun _ ks_ => XS.iload X76.here hx rfl (hb hby at_316) rfl  ks_) ?_
                      by_cases c318_48 : t2 = ac
                      ·
                        refine go (u' := T76.setTop (mkF m 321 #[.val (.int p0), .val (.int p1), .val (.int p2), .val (.int p3), .val (.int p4), .val (.int f0), .val (.int t0), .val (.int f1), .val (.int t1), .val (.int f2), .val (.int t2), .val (.int cc), .val (.ref b53), .val (.ref b59), .val (.int ac), .val (.ref b68), .unset] [])) (fun _ ks_ => XS.icmpNo X76.here hx rfl (hb hby at_318) rfl (teq c318_48).2 ks_) ?_
                        refine go (u' := T76.setTop (mkF m 322 #[.val (.int p0), .val (.int p1), .val (.int p2), .val (.int p3), .val (.int p4), .val (.int f0), .val (.int t0), .val (.int f1), .val (.int t1), .val (.int f2), .val (.int t2), .val (.int cc), .val (.ref b53), .val (.ref b59), .val (.int ac), .val (.ref b68), .unset] [(.int (1 : Int32))])) (fun _ ks_ => XS.iconst X76.here hx rfl (hb hby at_321) ks_) ?_
                        refine go (u' := T76.setTop (mkF m 326 #[.val (.int p0), .val (.int p1), .val (.int p2), .val (.int p3), .val (.int p4), .val (.int f0), .val (.int t0), .val (.int f1), .val (.int t1), .val (.int f2), .val (.int t2), .val (.int cc), .val (.ref b53), .val (.ref b59), .val (.int ac), .val (.ref b68), .unset] [(.int (1 : Int32))])) (fun _ ks_ => XS.goto X76.here hx rfl (pc0 := 322) (pc' := 326) rfl (hb hby at_322) (by decide) (by decide) ks_) ?_
                        exact J326_4 _ (B1 ⟨c279_34, (Or.inr ⟨c285_35, (Or.inr (Or.inr ⟨c298_43, (Or.inr ⟨c311_47, c318_48⟩)⟩))⟩)⟩)
                      ·
                        refine go (u' := T76.setTop (mkF m 325 #[.val (.int p0), .val (.int p1), .val (.int p2), .val (.int p3), .val (.int p4), .val (.int f0), .val (.int t0), .val (.int f1), .val (.int t1), .val (.int f2), .val (.int t2), .val (.int cc), .val (.ref b53), .val (.ref b59), .val (.int ac), .val (.ref b68), .unset] [])) (fun _ ks_ => XS.icmpYes X76.here hx rfl (pc0 := 318) (pc' := 325) rfl (hb hby at_318) rfl (feq c318_48).2 (by decide) (by decide) ks_) ?_
                        refine go (u' := T76.setTop (mkF m 326 #[.val (.int p0), .val (.int p1), .val (.int p2), .val (.int p3), .val (.int p4), .val (.int f0), .val (.int t0), .val (.int f1), .val (.int t1), .val (.int f2), .val (.int t2), .val (.int cc), .val (.ref b53), .val (.ref b59), .val (.int ac), .val (.ref b68), .unset] [(.int (0 : Int32))])) (fun _ ks_ => XS.iconst X76.here hx rfl (hb hby at_325) ks_) ?_
                        exact J326_4 _ (B0 (fun q => (fun q => q.elim (fun q => c285_35 q.1) (fun q => (fun q => q.elim c292_42 (fun q => q.elim (fun q => c298_43 q.1) (fun q => (fun q => q.elim c305_46 (fun q => c318_48 q.2)) q.2))) q.2)) q.2))
        ·
          refine go (u' := T1.setTop (mkF m 212 #[.val (.int p0), .val (.int p1), .val (.int p2), .val (.int p3), .val (.int p4), .val (.int f0), .val (.int t0), .val (.int f1), .val (.int t1), .val (.int f2), .val (.int t2), .val (.int cc), .unset, .unset, .unset, .unset, .unset] [])) (fun _ ks_ => XS.icmpYes X1.here hx rfl (pc0 := 176) (pc' := 212) rfl (hb hby at_176) rfl (feq c176_33).2 (by decide) (by decide) ks_) ?_
          refine go (u' := T1.setTop (mkF m 213 #[.val (.int p0), .val (.int p1), .val (.int p2), .val (.int p3), .val (.int p4), .val (.int f0), .val (.int t0), .val (.int f1), .val (.int t1), .val (.int f2), .val (.int t2), .val (.int cc), .unset, .unset, .unset, .unset, .unset] [(.int (3 : Int32))])) (fun _ ks_ => XS.iconst X1.here hx rfl (hb hby at_212) ks_) ?_
          obtain ⟨T86, h86, k86, X86, e86, E86, A86, st86⟩ := newP X1 hx hZ (ww hw 0 rfl) e1 (g := (mkF m 213 #[.val (.int p0), .val (.int p1), .val (.int p2), .val (.int p3), .val (.int p4), .val (.int f0), .val (.int t0), .val (.int f1), .val (.int t1), .val (.int f2), .val (.int t2), .val (.int cc), .unset, .unset, .unset, .unset, .unset] [(.int (3 : Int32))])) rfl (hb hby at_213) rfl (by decide) (cap := 3) (by decide) (by decide) (by decide) (by decide)
          obtain ⟨b86, g86⟩ : ∃ z, z = h1.size := ⟨_, rfl⟩
          rw [← g86] at A86 st86
          have g_b86 : n0 ≤ b86 := Nat.le_trans Z1 (Nat.le_of_eq g86.symm)
          have sz_b86 : h0.size ≤ b86 := Nat.le_trans K1.1 (Nat.le_of_eq g86.symm)
          have K86 : Keep h0 h86 [] := K1.ext E86
          have Z86 : n0 ≤ h86.size := Nat.le_trans Z1 E86.1
          have Fa87 : PI Z h86 b86 .int 3 (own_l [(0 : Int32), (0 : Int32), (0 : Int32)]) := PI.newL A86 (by decide) rfl rfl
          refine go (u' := T86.setTop (mkF m 215 #[.val (.int p0), .val (.int p1), .val (.int p2), .val (.int p3), .val (.int p4), .val (.int f0), .val (.int t0), .val (.int f1), .val (.int t1), .val (.int f2), .val (.int t2), .val (.int cc), .unset, .unset, .unset, .unset, .unset] [(.ref b86)])) st86 ?_
          refine go (u' := T86.setTop (mkF m 216 #[.val (.int p0), .val (.int p1), .val (.int p2), .val (.int p3), .val (.int p4), .val (.int f0), .val (.int t0), .val (.int f1), .val (.int t1), .val (.int f2), .val (.int t2), .val (.int cc), .unset, .unset, .unset, .unset, .unset] [(.ref b86), (.ref b86)])) (fun _ ks_ => XS.dup X86.here hx rfl (hb hby at_215) rfl rfl ks_) ?_
          refine go (u' := T86.setTop (mkF m 217 #[.val (.int p0), .val (.int p1), .val (.int p2), .val (.int p3), .val (.int p4), .val (.int f0), .val (.int t0), .val (.int f1), .val (.int t1), .val (.int f2), .val (.int t2), .val (.int cc), .unset, .unset, .unset, .unset, .unset] [(.int (0 : Int32)), (.ref b86), (.ref b86)])) (fun _ ks_ => XS.iconst X86.here hx rfl (hb hby at_216) ks_) ?_
          refine go (u' := T86.setTop (mkF m 219 #[.val (.int p0), .val (.int p1), .val (.int p2), .val (.int p3), .val (.int p4), .val (.int f0), .val (.int t0), .val (.int f1), .val (.int t1), .val (.int f2), .val (.int t2), .val (.int cc), .unset, .unset, .unset, .unset, .unset] [(.int f0), (.int (0 : Int32)), (.ref b86), (.ref b86)])) (fun _ ks_ => XS.iload X86.here hx rfl (hb hby at_217) rfl  ks_) ?_
          obtain ⟨T88, h88, X88, e88, W88, st88⟩ := own_iastore X86 hx hZ e86 Fa87 (j := (0 : Int32)) (x := f0)  (by decide) (by decide) (f := (mkF m 219 #[.val (.int p0), .val (.int p1), .val (.int p2), .val (.int p3), .val (.int p4), .val (.int f0), .val (.int t0), .val (.int f1), .val (.int t1), .val (.int f2), .val (.int t2), .val (.int cc), .unset, .unset, .unset, .unset, .unset] [(.int f0), (.int (0 : Int32)), (.ref b86), (.ref b86)])) rfl rfl (hb hby at_219)
          have N88 := Fr.snoc X88 N1 g_b86
          have K88 : Keep h0 h88 [] := K86.wr W88 (Or.inr sz_b86)
          have Z88 : n0 ≤ h88.size := Nat.le_trans Z86 (Keep.of_wr W88).1
          have Fa89 : PI Z h88 b86 .int 3 (own_l [f0, (0 : Int32), (0 : Int32)]) := Fa87.setL (by decide) W88 rfl (Nat.le_of_ble_eq_true rfl) rfl
          refine go (u' := T88.setTop (mkF m 220 #[.val (.int p0), .val (.int p1), .val (.int p2), .val (.int p3), .val (.int p4), .val (.int f0), .val (.int t0), .val (.int f1), .val (.int t1), .val (.int f2), .val (.int t2), .val (.int cc), .unset, .unset, .unset, .unset, .unset] [(.ref b86)])) st88 ?_
          refine go (u' := T88.setTop (mkF m 221 #[.val (.int p0), .val (.int p1), .val (.int p2), .val (.int p3), .val (.int p4), .val (.int f0), .val (.int t0), .val (.int f1), .val (.int t1), .val (.int f2), .val (.int t2), .val (.int cc), .unset, .unset, .unset, .unset, .unset] [(.ref b86), (.ref b86)])) (fun _ ks_ => XS.dup X88.here hx rfl (hb hby at_220) rfl rfl ks_) ?_
          refine go (u' := T88.setTop (mkF m 222 #[.val (.int p0), .val (.int p1), .val (.int p2), .val (.int p3), .val (.int p4), .val (.int f0), .val (.int t0), .val (.int f1), .val (.int t1), .val (.int f2), .val (.int t2), .val (.int cc), .unset, .unset, .unset, .unset, .unset] [(.int (1 : Int32)), (.ref b86), (.ref b86)])) (fun _ ks_ => XS.iconst X88.here hx rfl (hb hby at_221) ks_) ?_
          refine go (u' := T88.setTop (mkF m 224 #[.val (.int p0), .val (.int p1), .val (.int p2), .val (.int p3), .val (.int p4), .val (.int f0), .val (.int t0), .val (.int f1), .val (.int t1), .val (.int f2), .val (.int t2), .val (.int cc), .unset, .unset, .unset, .unset, .unset] [(.int f1), (.int (1 : Int32)), (.ref b86), (.ref b86)])) (fun _ ks_ => XS.iload X88.here hx rfl (hb hby at_222) rfl  ks_) ?_
          obtain ⟨T90, h90, X90, e90, W90, st90⟩ := own_iastore X88 hx hZ e88 Fa89 (j := (1 : Int32)) (x := f1)  (by decide) (by decide) (f := (mkF m 224 #[.val (.int p0), .val (.int p1), .val (.int p2), .val (.int p3), .val (.int p4), .val (.int f0), .val (.int t0), .val (.int f1), .val (.int t1), .val (.int f2), .val (.int t2), .val (.int cc), .unset, .unset, .unset, .unset, .unset] [(.int f1), (.int (1 : Int32)), (.ref b86), (.ref b86)])) rfl rfl (hb hby at_224)
          have N90 := Fr.snoc X90 N88 g_b86
          have K90 : Keep h0 h90 [] := K88.wr W90 (Or.inr sz_b86)
          have Z90 : n0 ≤ h90.size := Nat.le_trans Z88 (Keep.of_wr W90).1
          have Fa91 : PI Z h90 b86 .int 3 (own_l [f0, f1, (0 : Int32)]) := Fa89.setL (by decide) W90 rfl (Nat.le_of_ble_eq_true rfl) rfl
          refine go (u' := T90.setTop (mkF m 225 #[.val (.int p0), .val (.int p1), .val (.int p2), .val (.int p3), .val (.int p4), .val (.int f0), .val (.int t0), .val (.int f1), .val (.int t1), .val (.int f2), .val (.int t2), .val (.int cc), .unset, .unset, .unset, .unset, .unset] [(.ref b86)])) st90 ?_
          refine go (u' := T90.setTop (mkF m 226 #[.val (.int p0), .val (.int p1), .val (.int p2), .val (.int p3), .val (.int p4), .val (.int f0), .val (.int t0), .val (.int f1), .val (.int t1), .val (.int f2), .val (.int t2), .val (.int cc), .unset, .unset, .unset, .unset, .unset] [(.ref b86), (.ref b86)])) (fun _ ks_ => XS.dup X90.here hx rfl (hb hby at_225) rfl rfl ks_) ?_
          refine go (u' := T90.setTop (mkF m 227 #[.val (.int p0), .val (.int p1), .val (.int p2), .val (.int p3), .val (.int p4), .val (.int f0), .val (.int t0), .val (.int f1), .val (.int t1), .val (.int f2), .val (.int t2), .val (.int cc), .unset, .unset, .unset, .unset, .unset] [(.int (2 : Int32)), (.ref b86), (.ref b86)])) (fun _ ks_ => XS.iconst X90.here hx rfl (hb hby at_226) ks_) ?_
          refine go (u' := T90.setTop (mkF m 229 #[.val (.int p0), .val (.int p1), .val (.int p2), .val (.int p3), .val (.int p4), .val (.int f0), .val (.int t0), .val (.int f1), .val (.int t1), .val (.int f2), .val (.int t2), .val (.int cc), .unset, .unset, .unset, .unset, .unset] [(.int f2), (.int (2 : Int32)), (.ref b86), (.ref b86)])) (fun _ ks_ => XS.iload X90.here hx rfl (hb hby at_227) rfl  ks_) ?_
          obtain ⟨T92, h92, X92, e92, W92, st92⟩ := own_iastore X90 hx hZ e90 Fa91 (j := (2 : Int32)) (x := f2)  (by decide) (by decide) (f := (mkF m 229 #[.val (.int p0), .val (.int p1), .val (.int p2), .val (.int p3), .val (.int p4), .val (.int f0), .val (.int t0), .val (.int f1), .val (.int t1), .val (.int f2), .val (.int t2), .val (.int cc), .unset, .unset, .unset, .unset, .unset] [(.int f2), (.int (2 : Int32)), (.ref b86), (.ref b86)])) rfl rfl (hb hby at_229)
          have N92 := Fr.snoc X92 N90 g_b86
          have K92 : Keep h0 h92 [] := K90.wr W92 (Or.inr sz_b86)
          have Z92 : n0 ≤ h92.size := Nat.le_trans Z90 (Keep.of_wr W92).1
          have Fa93 : PI Z h92 b86 .int 3 (own_l [f0, f1, f2]) := Fa91.setL (by decide) W92 rfl (Nat.le_of_ble_eq_true rfl) rfl
          refine go (u' := T92.setTop (mkF m 230 #[.val (.int p0), .val (.int p1), .val (.int p2), .val (.int p3), .val (.int p4), .val (.int f0), .val (.int t0), .val (.int f1), .val (.int t1), .val (.int f2), .val (.int t2), .val (.int cc), .unset, .unset, .unset, .unset, .unset] [(.ref b86)])) st92 ?_
          refine go (u' := T92.setTop (mkF m 232 #[.val (.int p0), .val (.int p1), .val (.int p2), .val (.int p3), .val (.int p4), .val (.int f0), .val (.int t0), .val (.int f1), .val (.int t1), .val (.int f2), .val (.int t2), .val (.int cc), .val (.ref b86), .unset, .unset, .unset, .unset] [])) (fun _ ks_ => XS.astore X92.here hx rfl (hb hby at_230) rfl rfl (l' := #[.val (.int p0), .val (.int p1), .val (.int p2), .val (.int p3), .val (.int p4), .val (.int f0), .val (.int t0), .val (.int f1), .val (.int t1), .val (.int f2), .val (.int t2), .val (.int cc), .val (.ref b86), .unset, .unset, .unset, .unset]) rfl ks_) ?_
          refine go (u' := T92.setTop (mkF m 233 #[.val (.int p0), .val (.int p1), .val (.int p2), .val (.int p3), .val (.int p4), .val (.int f0), .val (.int t0), .val (.int f1), .val (.int t1), .val (.int f2), .val (.int t2), .val (.int cc), .val (.ref b86), .unset, .unset, .unset, .unset] [(.int (3 : Int32))])) (fun _ ks_ => XS.iconst X92.here hx rfl (hb hby at_232) ks_) ?_
          obtain ⟨T94, h94, k94, X94, e94, E94, A94, st94⟩ := newP X92 hx hZ (ww hw 0 rfl) e92 (g := (mkF m 233 #[.val (.int p0), .val (.int p1), .val (.int p2), .val (.int p3), .val (.int p4), .val (.int f0), .val (.int t0), .val (.int f1), .val (.int t1), .val (.int f2), .val (.int t2), .val (.int cc), .val (.ref b86), .unset, .unset, .unset, .unset] [(.int (3 : Int32))])) rfl (hb hby at_233) rfl (by decide) (cap := 3) (by decide) (by decide) (by decide) (by decide)
          obtain ⟨b94, g94⟩ : ∃ z, z = h92.size := ⟨_, rfl⟩
          rw [← g94] at A94 st94
          have ne_b86_b94 : b86 ≠ b94 := Nat.ne_of_lt (Nat.lt_of_lt_of_le Fa93.lt (Nat.le_of_eq g94.symm))
          have g_b94 : n0 ≤ b94 := Nat.le_trans Z92 (Nat.le_of_eq g94.symm)
          have sz_b94 : h0.size ≤ b94 := Nat.le_trans K92.1 (Nat.le_of_eq g94.symm)
          have K94 : Keep h0 h94 [] := K92.ext E94
          have Fa95 : PI Z h94 b86 .int 3 (own_l [f0, f1, f2]) := Fa93.ext E94
          have Z94 : n0 ≤ h94.size := Nat.le_trans Z92 E94.1
          have Fa96 : PI Z h94 b94 .int 3 (own_l [(0 : Int32), (0 : Int32), (0 : Int32)]) := PI.newL A94 (by decide) rfl rfl
          refine go (u' := T94.setTop (mkF m 235 #[.val (.int p0), .val (.int p1), .val (.int p2), .val (.int p3), .val (.int p4), .val (.int f0), .val (.int t0), .val (.int f1), .val (.int t1), .val (.int f2), .val (.int t2), .val (.int cc), .val (.ref b86), .unset, .unset, .unset, .unset] [(.ref b94)])) st94 ?_
          refine go (u' := T94.setTop (mkF m 236 #[.val (.int p0), .val (.int p1), .val (.int p2), .val (.int p3), .val (.int p4), .val (.int f0), .val (.int t0), .val (.int f1), .val (.int t1), .val (.int f2), .val (.int t2), .val (.int cc), .val (.ref b86), .unset, .unset, .unset, .unset] [(.ref b94), (.ref b94)])) (fun _ ks_ => XS.dup X94.here hx rfl (hb hby at_235) rfl rfl ks_) ?_
          refine go (u' := T94.setTop (mkF m 237 #[.val (.int p0), .val (.int p1), .val (.int p2), .val (.int p3), .val (.int p4), .val (.int f0), .val (.int t0), .val (.int f1), .val (.int t1), .val (.int f2), .val (.int t2), .val (.int cc), .val (.ref b86), .unset, .unset, .unset, .unset] [(.int (0 : Int32)), (.ref b94), (.ref b94)])) (fun _ ks_ => XS.iconst X94.here hx rfl (hb hby at_236) ks_) ?_
          refine go (u' := T94.setTop (mkF m 239 #[.val (.int p0), .val (.int p1), .val (.int p2), .val (.int p3), .val (.int p4), .val (.int f0), .val (.int t0), .val (.int f1), .val (.int t1), .val (.int f2), .val (.int t2), .val (.int cc), .val (.ref b86), .unset, .unset, .unset, .unset] [(.int t0), (.int (0 : Int32)), (.ref b94), (.ref b94)])) (fun _ ks_ => XS.iload X94.here hx rfl (hb hby at_237) rfl  ks_) ?_
          obtain ⟨T97, h97, X97, e97, W97, st97⟩ := own_iastore X94 hx hZ e94 Fa96 (j := (0 : Int32)) (x := t0)  (by decide) (by decide) (f := (mkF m 239 #[.val (.int p0), .val (.int p1), .val (.int p2), .val (.int p3), .val (.int p4), .val (.int f0), .val (.int t0), .val (.int f1), .val (.int t1), .val (.int f2), .val (.int t2), .val (.int cc), .val (.ref b86), .unset, .unset, .unset, .unset] [(.int t0), (.int (0 : Int32)), (.ref b94), (.ref b94)])) rfl rfl (hb hby at_239)
          have N97 := Fr.snoc X97 N92 g_b94
          have K97 : Keep h0 h97 [] := K94.wr W97 (Or.inr sz_b94)
          have Z97 : n0 ≤ h97.size := Nat.le_trans Z94 (Keep.of_wr W97).1
          have Fa98 : PI Z h97 b86 .int 3 (own_l [f0, f1, f2]) := Fa95.other W97 ne_b86_b94
          have Fa99 : PI Z h97 b94 .int 3 (own_l [t0, (0 : Int32), (0 : Int32)]) := Fa96.setL (by decide) W97 rfl (Nat.le_of_ble_eq_true rfl) rfl
          refine go (u' := T97.setTop (mkF m 240 #[.val (.int p0), .val (.int p1), .val (.int p2), .val (.int p3), .val (.int p4), .val (.int f0), .val (.int t0), .val (.int f1), .val (.int t1), .val (.int f2), .val (.int t2), .val (.int cc), .val (.ref b86), .unset, .unset, .unset, .unset] [(.ref b94)])) st97 ?_
          refine go (u' := T97.setTop (mkF m 241 #[.val (.int p0), .val (.int p1), .val (.int p2), .val (.int p3), .val (.int p4), .val (.int f0), .val (.int t0), .val (.int f1), .val (.int t1), .val (.int f2), .val (.int t2), .val (.int cc), .val (.ref b86), .unset, .unset, .unset, .unset] [(.ref b94), (.ref b94)])) (fun _ ks_ => XS.dup X97.here hx rfl (hb hby at_240) rfl rfl ks_) ?_
          refine go (u' := T97.setTop (mkF m 242 #[.val (.int p0), .val (.int p1), .val (.int p2), .val (.int p3), .val (.int p4), .val (.int f0), .val (.int t0), .val (.int f1), .val (.int t1), .val (.int f2), .val (.int t2), .val (.int cc), .val (.ref b86), .unset, .unset, .unset, .unset] [(.int (1 : Int32)), (.ref b94), (.ref b94)])) (fun _ ks_ => XS.iconst X97.here hx rfl (hb hby at_241) ks_) ?_
          refine go (u' := T97.setTop (mkF m 244 #[.val (.int p0), .val (.int p1), .val (.int p2), .val (.int p3), .val (.int p4), .val (.int f0), .val (.int t0), .val (.int f1), .val (.int t1), .val (.int f2), .val (.int t2), .val (.int cc), .val (.ref b86), .unset, .unset, .unset, .unset] [(.int t1), (.int (1 : Int32)), (.ref b94), (.ref b94)])) (fun _ ks_ => XS.iload X97.here hx rfl (hb hby at_242) rfl  ks_) ?_
          obtain ⟨T100, h100, X100, e100, W100, st100⟩ := own_iastore X97 hx hZ e97 Fa99 (j := (1 : Int32)) (x := t1)  (by decide) (by decide) (f := (mkF m 244 #[.val (.int p0), .val (.int p1), .val (.int p2), .val (.int p3), .val (.int p4), .val (.int f0), .val (.int t0), .val (.int f1), .val (.int t1), .val (.int f2), .val (.int t2), .val (.int cc), .val (.ref b86), .unset, .unset, .unset, .unset] [(.int t1), (.int (1 : Int32)), (.ref b94), (.ref b94)])) rfl rfl (hb hby at_244)
          have N100 := Fr.snoc X100 N97 g_b94
          have K100 : Keep h0 h100 [] := K97.wr W100 (Or.inr sz_b94)
          have Z100 : n0 ≤ h100.size := Nat.le_trans Z97 (Keep.of_wr W100).1
          have Fa101 : PI Z h100 b86 .int 3 (own_l [f0, f1, f2]) := Fa98.other W100 ne_b86_b94
          have Fa102 : PI Z h100 b94 .int 3 (own_l [t0, t1, (0 : Int32)]) := Fa99.setL (by decide) W100 rfl (Nat.le_of_ble_eq_true rfl) rfl
          refine go (u' := T100.setTop (mkF m 245 #[.val (.int p0), .val (.int p1), .val (.int p2), .val (.int p3), .val (.int p4), .val (.int f0), .val (.int t0), .val (.int f1), .val (.int t1), .val (.int f2), .val (.int t2), .val (.int cc), .val (.ref b86), .unset, .unset, .unset, .unset] [(.ref b94)])) st100 ?_
          refine go (u' := T100.setTop (mkF m 246 #[.val (.int p0), .val (.int p1), .val (.int p2), .val (.int p3), .val (.int p4), .val (.int f0), .val (.int t0), .val (.int f1), .val (.int t1), .val (.int f2), .val (.int t2), .val (.int cc), .val (.ref b86), .unset, .unset, .unset, .unset] [(.ref b94), (.ref b94)])) (fun _ ks_ => XS.dup X100.here hx rfl (hb hby at_245) rfl rfl ks_) ?_
          refine go (u' := T100.setTop (mkF m 247 #[.val (.int p0), .val (.int p1), .val (.int p2), .val (.int p3), .val (.int p4), .val (.int f0), .val (.int t0), .val (.int f1), .val (.int t1), .val (.int f2), .val (.int t2), .val (.int cc), .val (.ref b86), .unset, .unset, .unset, .unset] [(.int (2 : Int32)), (.ref b94), (.ref b94)])) (fun _ ks_ => XS.iconst X100.here hx rfl (hb hby at_246) ks_) ?_
          refine go (u' := T100.setTop (mkF m 249 #[.val (.int p0), .val (.int p1), .val (.int p2), .val (.int p3), .val (.int p4), .val (.int f0), .val (.int t0), .val (.int f1), .val (.int t1), .val (.int f2), .val (.int t2), .val (.int cc), .val (.ref b86), .unset, .unset, .unset, .unset] [(.int t2), (.int (2 : Int32)), (.ref b94), (.ref b94)])) (fun _ ks_ => XS.iload X100.here hx rfl (hb hby at_247) rfl  ks_) ?_
          obtain ⟨T103, h103, X103, e103, W103, st103⟩ := own_iastore X100 hx hZ e100 Fa102 (j := (2 : Int32)) (x := t2)  (by decide) (by decide) (f := (mkF m 249 #[.val (.int p0), .val (.int p1), .val (.int p2), .val (.int p3), .val (.int p4), .val (.int f0), .val (.int t0), .val (.int f1), .val (.int t1), .val (.int f2), .val (.int t2), .val (.int cc), .val (.ref b86), .unset, .unset, .unset, .unset] [(.int t2), (.int (2 : Int32)), (.ref b94), (.ref b94)])) rfl rfl (hb hby at_249)
          have N103 := Fr.snoc X103 N100 g_b94
          have K103 : Keep h0 h103 [] := K100.wr W103 (Or.inr sz_b94)
          have Z103 : n0 ≤ h103.size := Nat.le_trans Z100 (Keep.of_wr W103).1
          have Fa104 : PI Z h103 b86 .int 3 (own_l [f0, f1, f2]) := Fa101.other W103 ne_b86_b94
          have Fa105 : PI Z h103 b94 .int 3 (own_l [t0, t1, t2]) := Fa102.setL (by decide) W103 rfl (Nat.le_of_ble_eq_true rfl) rfl
          refine go (u' := T103.setTop (mkF m 250 #[.val (.int p0), .val (.int p1), .val (.int p2), .val (.int p3), .val (.int p4), .val (.int f0), .val (.int t0), .val (.int f1), .val (.int t1), .val (.int f2), .val (.int t2), .val (.int cc), .val (.ref b86), .unset, .unset, .unset, .unset] [(.ref b94)])) st103 ?_
          refine go (u' := T103.setTop (mkF m 252 #[.val (.int p0), .val (.int p1), .val (.int p2), .val (.int p3), .val (.int p4), .val (.int f0), .val (.int t0), .val (.int f1), .val (.int t1), .val (.int f2), .val (.int t2), .val (.int cc), .val (.ref b86), .val (.ref b94), .unset, .unset, .unset] [])) (fun _ ks_ => XS.astore X103.here hx rfl (hb hby at_250) rfl rfl (l' := #[.val (.int p0), .val (.int p1), .val (.int p2), .val (.int p3), .val (.int p4), .val (.int f0), .val (.int t0), .val (.int f1), .val (.int t1), .val (.int f2), .val (.int t2), .val (.int cc), .val (.ref b86), .val (.ref b94), .unset, .unset, .unset]) rfl ks_) ?_
          refine go (u' := T103.setTop (mkF m 254 #[.val (.int p0), .val (.int p1), .val (.int p2), .val (.int p3), .val (.int p4), .val (.int f0), .val (.int t0), .val (.int f1), .val (.int t1), .val (.int f2), .val (.int t2), .val (.int cc), .val (.ref b86), .val (.ref b94), .unset, .unset, .unset] [(.int p4)])) (fun _ ks_ => XS.iload X103.here hx rfl (hb hby at_252) rfl  ks_) ?_
          refine go (u' := T103.setTop (mkF m 256 #[.val (.int p0), .val (.int p1), .val (.int p2), .val (.int p3), .val (.int p4), .val (.int f0), .val (.int t0), .val (.int f1), .val (.int t1), .val (.int f2), .val (.int t2), .val (.int cc), .val (.ref b86), .val (.ref b94), .unset, .unset, .unset] [(.int (2147483647 : Int32)), (.int p4)])) (X103.ldcInt hx hown (mvT hZ (ww hw 1 rfl)) (g := (mkF m 254 #[.val (.int p0), .val (.int p1), .val (.int p2), .val (.int p3), .val (.int p4), .val (.int f0), .val (.int t0), .val (.int f1), .val (.int t1), .val (.int f2), .val (.int t2), .val (.int cc), .val (.ref b86), .val (.ref b94), .unset, .unset, .unset] [(.int p4)])) rfl (hb hby at_254)) ?_
          refine go (u' := T103.setTop (mkF m 257 #[.val (.int p0), .val (.int p1), .val (.int p2), .val (.int p3), .val (.int p4), .val (.int f0), .val (.int t0), .val (.int f1), .val (.int t1), .val (.int f2), .val (.int t2), .val (.int cc), .val (.ref b86), .val (.ref b94), .unset, .unset, .unset] [(.int (p4 &&& (2147483647 : Int32)))])) (fun _ ks_ => XS.iand X103.here hx rfl (hb hby at_256) rfl ks_) ?_
          refine go (u' := T103.setTop (mkF m 258 #[.val (.int p0), .val (.int p1), .val (.int p2), .val (.int p3), .val (.int p4), .val (.int f0), .val (.int t0), .val (.int f1), .val (.int t1), .val (.int f2), .val (.int t2), .val (.int cc), .val (.ref b86), .val (.ref b94), .unset, .unset, .unset] [(.int (5 : Int32)), (.int (p4 &&& (2147483647 : Int32)))])) (fun _ ks_ => XS.iconst X103.here hx rfl (hb hby at_257) ks_) ?_
          refine go (u' := T103.setTop (mkF m 259 #[.val (.int p0), .val (.int p1), .val (.int p2), .val (.int p3), .val (.int p4), .val (.int f0), .val (.int t0), .val (.int f1), .val (.int t1), .val (.int f2), .val (.int t2), .val (.int cc), .val (.ref b86), .val (.ref b94), .unset, .unset, .unset] [(.int ((p4 &&& (2147483647 : Int32)) % (5 : Int32)))])) (fun _ ks_ => iremM (g := (mkF m 258 #[.val (.int p0), .val (.int p1), .val (.int p2), .val (.int p3), .val (.int p4), .val (.int f0), .val (.int t0), .val (.int f1), .val (.int t1), .val (.int f2), .val (.int t2), .val (.int cc), .val (.ref b86), .val (.ref b94), .unset, .unset, .unset] [(.int (5 : Int32)), (.int (p4 &&& (2147483647 : Int32)))])) X103 hx rfl (hb hby at_258) rfl (by decide) ks_) ?_
          refine go (u' := T103.setTop (mkF m 260 #[.val (.int p0), .val (.int p1), .val (.int p2), .val (.int p3), .val (.int p4), .val (.int f0), .val (.int t0), .val (.int f1), .val (.int t1), .val (.int f2), .val (.int t2), .val (.int cc), .val (.ref b86), .val (.ref b94), .unset, .unset, .unset] [(.int (2 : Int32)), (.int ((p4 &&& (2147483647 : Int32)) % (5 : Int32)))])) (fun _ ks_ => XS.iconst X103.here hx rfl (hb hby at_259) ks_) ?_
          refine go (u' := T103.setTop (mkF m 261 #[.val (.int p0), .val (.int p1), .val (.int p2), .val (.int p3), .val (.int p4), .val (.int f0), .val (.int t0), .val (.int f1), .val (.int t1), .val (.int f2), .val (.int t2), .val (.int cc), .val (.ref b86), .val (.ref b94), .unset, .unset, .unset] [(.int (((p4 &&& (2147483647 : Int32)) % (5 : Int32)) - (2 : Int32)))])) (fun _ ks_ => XS.isub X103.here hx rfl (hb hby at_260) rfl ks_) ?_
          refine go (u' := T103.setTop (mkF m 263 #[.val (.int p0), .val (.int p1), .val (.int p2), .val (.int p3), .val (.int p4), .val (.int f0), .val (.int t0), .val (.int f1), .val (.int t1), .val (.int f2), .val (.int t2), .val (.int cc), .val (.ref b86), .val (.ref b94), .val (.int (((p4 &&& (2147483647 : Int32)) % (5 : Int32)) - (2 : Int32))), .unset, .unset] [])) (fun _ ks_ => XS.istore X103.here hx rfl (hb hby at_261) rfl  (l' := #[.val (.int p0), .val (.int p1), .val (.int p2), .val (.int p3), .val (.int p4), .val (.int f0), .val (.int t0), .val (.int f1), .val (.int t1), .val (.int f2), .val (.int t2), .val (.int cc), .val (.ref b86), .val (.ref b94), .val (.int (((p4 &&& (2147483647 : Int32)) % (5 : Int32)) - (2 : Int32))), .unset, .unset]) rfl ks_) ?_
          obtain ⟨ac, hac⟩ : ∃ z, z = (((p4 &&& (2147483647 : Int32)) % (5 : Int32)) - (2 : Int32)) := ⟨_, rfl⟩
          rw [← hac]
          have hac' := own_ac _ ac hac
          obtain ⟨T106, h106, X106, e106, E106, A106, D106, -, st106⟩ := newO X103 hx hZ hown (ww hw 2 rfl) (ww hw 3 rfl) (ww hw 4 rfl) e103 (g := (mkF m 263 #[.val (.int p0), .val (.int p1), .val (.int p2), .val (.int p3), .val (.int p4), .val (.int f0), .val (.int t0), .val (.int f1), .val (.int t1), .val (.int f2), .val (.int t2), .val (.int cc), .val (.ref b86), .val (.ref b94), .val (.int ac), .unset, .unset] [])) rfl (hb hby at_263) (by decide) (by decide)
          obtain ⟨b106, g106⟩ : ∃ z, z = h103.size := ⟨_, rfl⟩
          rw [← g106] at A106 D106 st106
          have ne_b86_b106 : b86 ≠ b106 := Nat.ne_of_lt (Nat.lt_of_lt_of_le Fa104.lt (Nat.le_of_eq g106.symm))
          have ne_b94_b106 : b94 ≠ b106 := Nat.ne_of_lt (Nat.lt_of_lt_of_le Fa105.lt (Nat.le_of_eq g106.symm))
          have g_b106 : n0 ≤ b106 := Nat.le_trans Z103 (Nat.le_of_eq g106.symm)
          have sz_b106 : h0.size ≤ b106 := Nat.le_trans K103.1 (Nat.le_of_eq g106.symm)
          have K106 : Keep h0 h106 [] := K103.ext E106
          have Fa107 : PI Z h106 b86 .int 3 (own_l [f0, f1, f2]) := Fa104.ext E106
          have Fa108 : PI Z h106 b94 .int 3 (own_l [t0, t1, t2]) := Fa105.ext E106
          have Z106 : n0 ≤ h106.size := Nat.le_trans Z103 E106.1
          have Fa109 : Fld Z h106 b106 "com/example/traceweave/traceweave/pattern/NumberedPattern" "activities" "I" (.int (0 : Int32)) := D106 (Or.inr (ww hw 37 rfl)) (ty := .int) (by decide)
          have Fa110 : Fld Z h106 b106 "com/example/traceweave/traceweave/pattern/NumberedPattern" "leaving" "Lcom/example/traceweave/traceweave/pattern/NumberedPattern$Adjacency;" .null := D106 (Or.inr (ww hw 78 rfl)) (ty := (.object "com/example/traceweave/traceweave/pattern/NumberedPattern$Adjacency")) (by decide)
          have Fa111 : Fld Z h106 b106 "com/example/traceweave/traceweave/pattern/NumberedPattern" "entering" "Lcom/example/traceweave/traceweave/pattern/NumberedPattern$Adjacency;" .null := D106 (Or.inr (ww hw 80 rfl)) (ty := (.object "com/example/traceweave/traceweave/pattern/NumberedPattern$Adjacency")) (by decide)
          have Fa112 : Fld Z h106 b106 "com/example/traceweave/traceweave/pattern/NumberedPattern" "openInputs" "Ljava/util/BitSet;" .null := D106 (Or.inr (ww hw 82 rfl)) (ty := (.object "java/util/BitSet")) (by decide)
          have Fa113 : Fld Z h106 b106 "com/example/traceweave/traceweave/pattern/NumberedPattern" "openOutputs" "Ljava/util/BitSet;" .null := D106 (Or.inr (ww hw 84 rfl)) (ty := (.object "java/util/BitSet")) (by decide)
          refine go (u' := T106.setTop (mkF m 266 #[.val (.int p0), .val (.int p1), .val (.int p2), .val (.int p3), .val (.int p4), .val (.int f0), .val (.int t0), .val (.int f1), .val (.int t1), .val (.int f2), .val (.int t2), .val (.int cc), .val (.ref b86), .val (.ref b94), .val (.int ac), .unset, .unset] [(.ref b106)])) st106 ?_
          refine go (u' := T106.setTop (mkF m 267 #[.val (.int p0), .val (.int p1), .val (.int p2), .val (.int p3), .val (.int p4), .val (.int f0), .val (.int t0), .val (.int f1), .val (.int t1), .val (.int f2), .val (.int t2), .val (.int cc), .val (.ref b86), .val (.ref b94), .val (.int ac), .unset, .unset] [(.ref b106), (.ref b106)])) (fun _ ks_ => XS.dup X106.here hx rfl (hb hby at_266) rfl rfl ks_) ?_
          refine go (u' := T106.setTop (mkF m 268 #[.val (.int p0), .val (.int p1), .val (.int p2), .val (.int p3), .val (.int p4), .val (.int f0), .val (.int t0), .val (.int f1), .val (.int t1), .val (.int f2), .val (.int t2), .val (.int cc), .val (.ref b86), .val (.ref b94), .val (.int ac), .unset, .unset] [(.int (3 : Int32)), (.ref b106), (.ref b106)])) (fun _ ks_ => XS.iconst X106.here hx rfl (hb hby at_267) ks_) ?_
          refine go (u' := T106.setTop (mkF m 270 #[.val (.int p0), .val (.int p1), .val (.int p2), .val (.int p3), .val (.int p4), .val (.int f0), .val (.int t0), .val (.int f1), .val (.int t1), .val (.int f2), .val (.int t2), .val (.int cc), .val (.ref b86), .val (.ref b94), .val (.int ac), .unset, .unset] [(.ref b86), (.int (3 : Int32)), (.ref b106), (.ref b106)])) (fun _ ks_ => XS.aload X106.here hx rfl (hb hby at_268) rfl rfl ks_) ?_
          refine go (u' := T106.setTop (mkF m 272 #[.val (.int p0), .val (.int p1), .val (.int p2), .val (.int p3), .val (.int p4), .val (.int f0), .val (.int t0), .val (.int f1), .val (.int t1), .val (.int f2), .val (.int t2), .val (.int cc), .val (.ref b86), .val (.ref b94), .val (.int ac), .unset, .unset] [(.ref b94), (.ref b86), (.int (3 : Int32)), (.ref b106), (.ref b106)])) (fun _ ks_ => XS.aload X106.here hx rfl (hb hby at_270) rfl rfl ks_) ?_
          obtain ⟨_, _, ⟨T114, L114, k114, n114⟩, -, X114, ⟨Lc114, hQ114, l114, y114, z114⟩, st114⟩ := X106.specialBack hx (y := (⟨"com/example/traceweave/traceweave/pattern/NumberedPattern", "<init>", "(I[I[I)V"⟩ : MethodName)) rfl hown (mvT hZ (ww hw 5 rfl)) (mvT hZ (ww hw 6 rfl)) (mvT hZ (ww hw 7 rfl)) (by decide) (backOf (W := 1) (rm1 l Z a0 hw [] b106 b86 b94 3 (own_l [f0, f1, f2]) (own_l [t0, t1, t2]) h106 n0 Z106 g_b106 ne_b86_b106 ne_b94_b106 A106 Fa109 Fa110 Fa111 Fa112 Fa113 Fa107 Fa108 (by decide) (own_hl3 hf0 hf1 hf2) (own_hl3 ht0 ht1 ht2)) hZ (ww hw 7 rfl) (ww hw 4 rfl) (by decide) (by decide)) (g := (mkF m 272 #[.val (.int p0), .val (.int p1), .val (.int p2), .val (.int p3), .val (.int p4), .val (.int f0), .val (.int t0), .val (.int f1), .val (.int t1), .val (.int f2), .val (.int t2), .val (.int cc), .val (.ref b86), .val (.ref b94), .val (.int ac), .unset, .unset] [(.ref b94), (.ref b86), (.int (3 : Int32)), (.ref b106), (.ref b106)])) rfl (by rw [hml]; rfl) (Steps.refl _) (a := b106) (argsL := [(.int (3 : Int32)), (.ref b86), (.ref b94)]) (rest := [(.ref b106)]) (lenOf pd__40_I_91_I_91_I_41_V rfl) rfl (by show 2 * 0 + _ ≤ _; exact Nat.le_of_eq rfl) (hb hby at_272) (fun _ _ => ⟨rfl, e106, (by decide : 3 + 12 ≤ _), (by decide : 11 + 32 ≤ _)⟩)
          dsimp only [Pt.U, Pt.locs, Pt.cells, Pt.slots] at X114 l114 y114 z114 st114 hQ114
          subst l114 y114 z114
          obtain ⟨ad114, fi114, rfl, N114q, Kq114, Fa115, Fa116, Fa117, Fa118, Fa119, gad_114, gfi_114, nad_114⟩ := hQ114
          have N114 := Fr.app N103 N114q
          have K114 : Keep h0 T114.heap [] := K106.trans Kq114 (allS (P := fun x => x ∈ [] ∨ h0.size ≤ x) (Or.inr sz_b106) all0)
          have Z114 : n0 ≤ T114.heap.size := Nat.le_trans Z106 Kq114.1
          have Fa120 : PI Z T114.heap b86 .int 3 (own_l [f0, f1, f2]) := Fa107.keep Kq114 (ninS ne_b86_b106 nin0)
          have Fa121 : PI Z T114.heap b94 .int 3 (own_l [t0, t1, t2]) := Fa108.keep Kq114 (ninS ne_b94_b106 nin0)
          have Fa122 : Exa Z T114.heap b106 "com/example/traceweave/traceweave/pattern/NumberedPattern" := A106.keep Kq114
          have ne_b86_ad114 : b86 ≠ ad114 := Nat.ne_of_lt (Nat.lt_of_lt_of_le Fa107.lt gad_114)
          have ne_b94_ad114 : b94 ≠ ad114 := Nat.ne_of_lt (Nat.lt_of_lt_of_le Fa108.lt gad_114)
          have ne_b106_ad114 : b106 ≠ ad114 := Nat.ne_of_lt (Nat.lt_of_lt_of_le A106.lt gad_114)
          have g_ad114 : n0 ≤ ad114 := Nat.le_trans Z106 gad_114
          have sz_ad114 : h0.size ≤ ad114 := Nat.le_trans K106.1 gad_114
          have ne_b86_fi114 : b86 ≠ fi114 := Nat.ne_of_lt (Nat.lt_of_lt_of_le Fa107.lt gfi_114)
          have ne_b94_fi114 : b94 ≠ fi114 := Nat.ne_of_lt (Nat.lt_of_lt_of_le Fa108.lt gfi_114)
          have ne_b106_fi114 : b106 ≠ fi114 := Nat.ne_of_lt (Nat.lt_of_lt_of_le A106.lt gfi_114)
          have g_fi114 : n0 ≤ fi114 := Nat.le_trans Z106 gfi_114
          have sz_fi114 : h0.size ≤ fi114 := Nat.le_trans K106.1 gfi_114
          refine goT (u' := T114.setTop (mkF m 275 #[.val (.int p0), .val (.int p1), .val (.int p2), .val (.int p3), .val (.int p4), .val (.int f0), .val (.int t0), .val (.int f1), .val (.int t1), .val (.int f2), .val (.int t2), .val (.int cc), .val (.ref b86), .val (.ref b94), .val (.int ac), .unset, .unset] [(.ref b106)])) st114 ?_
          refine go (u' := T114.setTop (mkF m 277 #[.val (.int p0), .val (.int p1), .val (.int p2), .val (.int p3), .val (.int p4), .val (.int f0), .val (.int t0), .val (.int f1), .val (.int t1), .val (.int f2), .val (.int t2), .val (.int cc), .val (.ref b86), .val (.ref b94), .val (.int ac), .val (.ref b106), .unset] [])) (fun _ ks_ => XS.astore X114.here hx rfl (hb hby at_275) rfl rfl (l' := #[.val (.int p0), .val (.int p1), .val (.int p2), .val (.int p3), .val (.int p4), .val (.int f0), .val (.int t0), .val (.int f1), .val (.int t1), .val (.int f2), .val (.int t2), .val (.int cc), .val (.ref b86), .val (.ref b94), .val (.int ac), .val (.ref b106), .unset]) rfl ks_) ?_
          refine go (u' := T114.setTop (mkF m 279 #[.val (.int p0), .val (.int p1), .val (.int p2), .val (.int p3), .val (.int p4), .val (.int f0), .val (.int t0), .val (.int f1), .val (.int t1), .val (.int f2), .val (.int t2), .val (.int cc), .val (.ref b86), .val (.ref b94), .val (.int ac), .val (.ref b106), .unset] [(.int ac)])) (fun _ ks_ => XS.iload X114.here hx rfl (hb hby at_277) rfl  ks_) ?_
          have J326_5 : ∀ v326_5 : Int32, v326_5 = (B ((¬ (ac < (0 : Int32))) ∧ (((cc < (1 : Int32)) ∧ (((cc < (2 : Int32)) ∧ ((¬ (cc < (3 : Int32))) ∧ (t2 = ac))) ∨ ((¬ (cc < (2 : Int32))) ∧ ((t1 = ac) ∨ ((¬ (cc < (3 : Int32))) ∧ (t2 = ac)))))) ∨ ((¬ (cc < (1 : Int32))) ∧ ((t0 = ac) ∨ (((cc < (2 : Int32)) ∧ ((¬ (cc < (3 : Int32))) ∧ (t2 = ac))) ∨ ((¬ (cc < (2 : Int32))) ∧ ((t1 = ac) ∨ ((¬ (cc < (3 : Int32))) ∧ (t2 = ac)))))))))) → Go p.tables e below G (T114.setTop (mkF m 326 #[.val (.int p0), .val (.int p1), .val (.int p2), .val (.int p3), .val (.int p4), .val (.int f0), .val (.int t0), .val (.int f1), .val (.int t1), .val (.int f2), .val (.int t2), .val (.int cc), .val (.ref b86), .val (.ref b94), .val (.int ac), .val (.ref b106), .unset] [(.int v326_5)])) := by
            intro v326_5 hv326_5
            subst hv326_5
            refine go (u' := T114.setTop (mkF m 328 #[.val (.int p0), .val (.int p1), .val (.int p2), .val (.int p3), .val (.int p4), .val (.int f0), .val (.int t0), .val (.int f1), .val (.int t1), .val (.int f2), .val (.int t2), .val (.int cc), .val (.ref b86), .val (.ref b94), .val (.int ac), .val (.ref b106), .val (.int (B ((¬ (ac < (0 : Int32))) ∧ (((cc < (1 : Int32)) ∧ (((cc < (2 : Int32)) ∧ ((¬ (cc < (3 : Int32))) ∧ (t2 = ac))) ∨ ((¬ (cc < (2 : Int32))) ∧ ((t1 = ac) ∨ ((¬ (cc < (3 : Int32))) ∧ (t2 = ac)))))) ∨ ((¬ (cc < (1 : Int32))) ∧ ((t0 = ac) ∨ (((cc < (2 : Int32)) ∧ ((¬ (cc < (3 : Int32))) ∧ (t2 = ac))) ∨ ((¬ (cc < (2 : Int32))) ∧ ((t1 = ac) ∨ ((¬ (cc < (3 : Int32))) ∧ (t2 = ac)))))))))))] [])) (fun _ ks_ => XS.istore X114.here hx rfl (hb hby at_326) rfl  (l' := #[.val (.int p0), .val (.int p1), .val (.int p2), .val (.int p3), .val (.int p4), .val (.int f0), .val (.int t0), .val (.int f1), .val (.int t1), .val (.int f2), .val (.int t2), .val (.int cc), .val (.ref b86), .val (.ref b94), .val (.int ac), .val (.ref b106), .val (.int (B ((¬ (ac < (0 : Int32))) ∧ (((cc < (1 : Int32)) ∧ (((cc < (2 : Int32)) ∧ ((¬ (cc < (3 : Int32))) ∧ (t2 = ac))) ∨ ((¬ (cc < (2 : Int32))) ∧ ((t1 = ac) ∨ ((¬ (cc < (3 : Int32))) ∧ (t2 = ac)))))) ∨ ((¬ (cc < (1 : Int32))) ∧ ((t0 = ac) ∨ (((cc < (2 : Int32)) ∧ ((¬ (cc < (3 : Int32))) ∧ (t2 = ac))) ∨ ((¬ (cc < (2 : Int32))) ∧ ((t1 = ac) ∨ ((¬ (cc < (3 : Int32))) ∧ (t2 = ac)))))))))))]) rfl ks_) ?_
            refine go (u' := T114.setTop (mkF m 330 #[.val (.int p0), .val (.int p1), .val (.int p2), .val (.int p3), .val (.int p4), .val (.int f0), .val (.int t0), .val (.int f1), .val (.int t1), .val (.int f2), .val (.int t2), .val (.int cc), .val (.ref b86), .val (.ref b94), .val (.int ac), .val (.ref b106), .val (.int (B ((¬ (ac < (0 : Int32))) ∧ (((cc < (1 : Int32)) ∧ (((cc < (2 : Int32)) ∧ ((¬ (cc < (3 : Int32))) ∧ (t2 = ac))) ∨ ((¬ (cc < (2 : Int32))) ∧ ((t1 = ac) ∨ ((¬ (cc < (3 : Int32))) ∧ (t2 = ac)))))) ∨ ((¬ (cc < (1 : Int32))) ∧ ((t0 = ac) ∨ (((cc < (2 : Int32)) ∧ ((¬ (cc < (3 : Int32))) ∧ (t2 = ac))) ∨ ((¬ (cc < (2 : Int32))) ∧ ((t1 = ac) ∨ ((¬ (cc < (3 : Int32))) ∧ (t2 = ac)))))))))))] [(.ref b106)])) (fun _ ks_ => XS.aload X114.here hx rfl (hb hby at_328) rfl rfl ks_) ?_
            refine go (u' := T114.setTop (mkF m 332 #[.val (.int p0), .val (.int p1), .val (.int p2), .val (.int p3), .val (.int p4), .val (.int f0), .val (.int t0), .val (.int f1), .val (.int t1), .val (.int f2), .val (.int t2), .val (.int cc), .val (.ref b86), .val (.ref b94), .val (.int ac), .val (.ref b106), .val (.int (B ((¬ (ac < (0 : Int32))) ∧ (((cc < (1 : Int32)) ∧ (((cc < (2 : Int32)) ∧ ((¬ (cc < (3 : Int32))) ∧ (t2 = ac))) ∨ ((¬ (cc < (2 : Int32))) ∧ ((t1 = ac) ∨ ((¬ (cc < (3 : Int32))) ∧ (t2 = ac)))))) ∨ ((¬ (cc < (1 : Int32))) ∧ ((t0 = ac) ∨ (((cc < (2 : Int32)) ∧ ((¬ (cc < (3 : Int32))) ∧ (t2 = ac))) ∨ ((¬ (cc < (2 : Int32))) ∧ ((t1 = ac) ∨ ((¬ (cc < (3 : Int32))) ∧ (t2 = ac)))))))))))] [(.int ac), (.ref b106)])) (fun _ ks_ => XS.iload X114.here hx rfl (hb hby at_330) rfl  ks_) ?_
            obtain ⟨cq123, kq123, q123a, q123b, q123c⟩ := isOf hZ (rfl : T114.heap = _) Fa115
            obtain ⟨_, _, ⟨T123, L123, k123, n123⟩, -, X123, ⟨Lc123, hQ123, l123, y123, z123⟩, st123⟩ := X114.virtualBack hx (y := (⟨"com/example/traceweave/traceweave/pattern/NumberedPattern", "isEntered", "(I)Z"⟩ : MethodName)) (z := (⟨"com/example/traceweave/traceweave/pattern/NumberedPattern", "isEntered", "(I)Z"⟩ : MethodName)) hown (mvT hZ (ww hw 85 rfl)) (mvT hZ (ww hw 86 rfl)) (notFace_of_selects (args := #[]) (mvT hZ (ww hw 88 rfl))) (mvT hZ (ww hw 88 rfl)) (mvT hZ (ww hw 87 rfl)) (by decide) (backOf (W := 0) (rm15 l Z a0 hw [] b106 ac ad114 fi114 (ps2 (cn1 (own_l [t0, t1, t2]) 3) 3) T114.heap n0 Z114 Fa116 Fa117 Fa118 Fa119 hac'.2) hZ (ww hw 89 rfl) (ww hw 4 rfl) (by decide) (by decide)) q123a q123c (g := (mkF m 332 #[.val (.int p0), .val (.int p1), .val (.int p2), .val (.int p3), .val (.int p4), .val (.int f0), .val (.int t0), .val (.int f1), .val (.int t1), .val (.int f2), .val (.int t2), .val (.int cc), .val (.ref b86), .val (.ref b94), .val (.int ac), .val (.ref b106), .val (.int (B ((¬ (ac < (0 : Int32))) ∧ (((cc < (1 : Int32)) ∧ (((cc < (2 : Int32)) ∧ ((¬ (cc < (3 : Int32))) ∧ (t2 = ac))) ∨ ((¬ (cc < (2 : Int32))) ∧ ((t1 = ac) ∨ ((¬ (cc < (3 : Int32))) ∧ (t2 = ac)))))) ∨ ((¬ (cc < (1 : Int32))) ∧ ((t0 = ac) ∨ (((cc < (2 : Int32)) ∧ ((¬ (cc < (3 : Int32))) ∧ (t2 = ac))) ∨ ((¬ (cc < (2 : Int32))) ∧ ((t1 = ac) ∨ ((¬ (cc < (3 : Int32))) ∧ (t2 = ac)))))))))))] [(.int ac), (.ref b106)])) rfl (by rw [hml]; rfl) (Steps.refl _) (argsL := [(.int ac)]) (rest := []) (lenOf pd__40_I_41_Z rfl) rfl (by show 2 * 0 + _ ≤ _; exact Nat.le_of_eq rfl) (hb hby at_332) (fun _ _ => ⟨rfl, (rfl : T114.heap = _), (by decide : 15 + 0 ≤ _), (by decide : 43 + 0 ≤ _)⟩)
            dsimp only [Pt.U, Pt.locs, Pt.cells, Pt.slots] at X123 l123 y123 z123 st123 hQ123
            subst l123 y123 z123
            obtain ⟨rfl, N123q, eq123⟩ := hQ123
            have N123 := Fr.app N114 N123q
            refine goT (u' := T123.setTop (mkF m 335 #[.val (.int p0), .val (.int p1), .val (.int p2), .val (.int p3), .val (.int p4), .val (.int f0), .val (.int t0), .val (.int f1), .val (.int t1), .val (.int f2), .val (.int t2), .val (.int cc), .val (.ref b86), .val (.ref b94), .val (.int ac), .val (.ref b106), .val (.int (B ((¬ (ac < (0 : Int32))) ∧ (((cc < (1 : Int32)) ∧ (((cc < (2 : Int32)) ∧ ((¬ (cc < (3 : Int32))) ∧ (t2 = ac))) ∨ ((¬ (cc < (2 : Int32))) ∧ ((t1 = ac) ∨ ((¬ (cc < (3 : Int32))) ∧ (t2 = ac)))))) ∨ ((¬ (cc < (1 : Int32))) ∧ ((t0 = ac) ∨ (((cc < (2 : Int32)) ∧ ((¬ (cc < (3 : Int32))) ∧ (t2 = ac))) ∨ ((¬ (cc < (2 : Int32))) ∧ ((t1 = ac) ∨ ((¬ (cc < (3 : Int32))) ∧ (t2 = ac)))))))))))] [(.int (B ((¬ (ac < (0 : Int32))) ∧ (¬ ((((ps2 (cn1 (own_l [t0, t1, t2]) 3) 3) ac.toNatClampNeg) = ((ps2 (cn1 (own_l [t0, t1, t2]) 3) 3) (ac + (1 : Int32)).toNatClampNeg)))))))])) st123 ?_
            refine go (u' := T123.setTop (mkF m 337 #[.val (.int p0), .val (.int p1), .val (.int p2), .val (.int p3), .val (.int p4), .val (.int f0), .val (.int t0), .val (.int f1), .val (.int t1), .val (.int f2), .val (.int t2), .val (.int cc), .val (.ref b86), .val (.ref b94), .val (.int ac), .val (.ref b106), .val (.int (B ((¬ (ac < (0 : Int32))) ∧ (((cc < (1 : Int32)) ∧ (((cc < (2 : Int32)) ∧ ((¬ (cc < (3 : Int32))) ∧ (t2 = ac))) ∨ ((¬ (cc < (2 : Int32))) ∧ ((t1 = ac) ∨ ((¬ (cc < (3 : Int32))) ∧ (t2 = ac)))))) ∨ ((¬ (cc < (1 : Int32))) ∧ ((t0 = ac) ∨ (((cc < (2 : Int32)) ∧ ((¬ (cc < (3 : Int32))) ∧ (t2 = ac))) ∨ ((¬ (cc < (2 : Int32))) ∧ ((t1 = ac) ∨ ((¬ (cc < (3 : Int32))) ∧ (t2 = ac)))))))))))] [(.int (B ((¬ (ac < (0 : Int32))) ∧ (((cc < (1 : Int32)) ∧ (((cc < (2 : Int32)) ∧ ((¬ (cc < (3 : Int32))) ∧ (t2 = ac))) ∨ ((¬ (cc < (2 : Int32))) ∧ ((t1 = ac) ∨ ((¬ (cc < (3 : Int32))) ∧ (t2 = ac)))))) ∨ ((¬ (cc < (1 : Int32))) ∧ ((t0 = ac) ∨ (((cc < (2 : Int32)) ∧ ((¬ (cc < (3 : Int32))) ∧ (t2 = ac))) ∨ ((¬ (cc < (2 : Int32))) ∧ ((t1 = ac) ∨ ((¬ (cc < (3 : Int32))) ∧ (t2 = ac))))))))))), (.int (B ((¬ (ac < (0 : Int32))) ∧ (¬ ((((ps2 (cn1 (own_l [t0, t1, t2]) 3) 3) ac.toNatClampNeg) = ((ps2 (cn1 (own_l [t0, t1, t2]) 3) 3) (ac + (1 : Int32)).toNatClampNeg)))))))])) (fun _ ks_ => XS.iload X123.here hx rfl (hb hby at_335) rfl  ks_) ?_
            refine go (u' := T123.setTop (mkF m 340 #[.val (.int p0), .val (.int p1), .val (.int p2), .val (.int p3), .val (.int p4), .val (.int f0), .val (.int t0), .val (.int f1), .val (.int t1), .val (.int f2), .val (.int t2), .val (.int cc), .val (.ref b86), .val (.ref b94), .val (.int ac), .val (.ref b106), .val (.int (B ((¬ (ac < (0 : Int32))) ∧ (((cc < (1 : Int32)) ∧ (((cc < (2 : Int32)) ∧ ((¬ (cc < (3 : Int32))) ∧ (t2 = ac))) ∨ ((¬ (cc < (2 : Int32))) ∧ ((t1 = ac) ∨ ((¬ (cc < (3 : Int32))) ∧ (t2 = ac)))))) ∨ ((¬ (cc < (1 : Int32))) ∧ ((t0 = ac) ∨ (((cc < (2 : Int32)) ∧ ((¬ (cc < (3 : Int32))) ∧ (t2 = ac))) ∨ ((¬ (cc < (2 : Int32))) ∧ ((t1 = ac) ∨ ((¬ (cc < (3 : Int32))) ∧ (t2 = ac)))))))))))] [])) (fun _ ks_ => XS.icmpNo X123.here hx rfl (hb hby at_337) rfl (teq (show (B ((¬ (ac < (0 : Int32))) ∧ (¬ ((((ps2 (cn1 (own_l [t0, t1, t2]) 3) 3) ac.toNatClampNeg) = ((ps2 (cn1 (own_l [t0, t1, t2]) 3) 3) (ac + (1 : Int32)).toNatClampNeg)))))) = (B ((¬ (ac < (0 : Int32))) ∧ (((cc < (1 : Int32)) ∧ (((cc < (2 : Int32)) ∧ ((¬ (cc < (3 : Int32))) ∧ (t2 = ac))) ∨ ((¬ (cc < (2 : Int32))) ∧ ((t1 = ac) ∨ ((¬ (cc < (3 : Int32))) ∧ (t2 = ac)))))) ∨ ((¬ (cc < (1 : Int32))) ∧ ((t0 = ac) ∨ (((cc < (2 : Int32)) ∧ ((¬ (cc < (3 : Int32))) ∧ (t2 = ac))) ∨ ((¬ (cc < (2 : Int32))) ∧ ((t1 = ac) ∨ ((¬ (cc < (3 : Int32))) ∧ (t2 = ac)))))))))) from (B_iff (own_fin3 cc ac f0 t0 f1 t1 f2 t2 (own_cc3 p3 cc hcc c128_1 c147_17 c176_33) hac' ht0 ht1 ht2)))).2 ks_) ?_
            refine go (u' := T123.setTop (mkF m 341 #[.val (.int p0), .val (.int p1), .val (.int p2), .val (.int p3), .val (.int p4), .val (.int f0), .val (.int t0), .val (.int f1), .val (.int t1), .val (.int f2), .val (.int t2), .val (.int cc), .val (.ref b86), .val (.ref b94), .val (.int ac), .val (.ref b106), .val (.int (B ((¬ (ac < (0 : Int32))) ∧ (((cc < (1 : Int32)) ∧ (((cc < (2 : Int32)) ∧ ((¬ (cc < (3 : Int32))) ∧ (t2 = ac))) ∨ ((¬ (cc < (2 : Int32))) ∧ ((t1 = ac) ∨ ((¬ (cc < (3 : Int32))) ∧ (t2 = ac)))))) ∨ ((¬ (cc < (1 : Int32))) ∧ ((t0 = ac) ∨ (((cc < (2 : Int32)) ∧ ((¬ (cc < (3 : Int32))) ∧ (t2 = ac))) ∨ ((¬ (cc < (2 : Int32))) ∧ ((t1 = ac) ∨ ((¬ (cc < (3 : Int32))) ∧ (t2 = ac)))))))))))] [(.int (1 : Int32))])) (fun _ ks_ => XS.iconst X123.here hx rfl (hb hby at_340) ks_) ?_
            refine go (u' := T123.setTop (mkF m 345 #[.val (.int p0), .val (.int p1), .val (.int p2), .val (.int p3), .val (.int p4), .val (.int f0), .val (.int t0), .val (.int f1), .val (.int t1), .val (.int f2), .val (.int t2), .val (.int cc), .val (.ref b86), .val (.ref b94), .val (.int ac), .val (.ref b106), .val (.int (B ((¬ (ac < (0 : Int32))) ∧ (((cc < (1 : Int32)) ∧ (((cc < (2 : Int32)) ∧ ((¬ (cc < (3 : Int32))) ∧ (t2 = ac))) ∨ ((¬ (cc < (2 : Int32))) ∧ ((t1 = ac) ∨ ((¬ (cc < (3 : Int32))) ∧ (t2 = ac)))))) ∨ ((¬ (cc < (1 : Int32))) ∧ ((t0 = ac) ∨ (((cc < (2 : Int32)) ∧ ((¬ (cc < (3 : Int32))) ∧ (t2 = ac))) ∨ ((¬ (cc < (2 : Int32))) ∧ ((t1 = ac) ∨ ((¬ (cc < (3 : Int32))) ∧ (t2 = ac)))))))))))] [(.int (1 : Int32))])) (fun _ ks_ => XS.goto X123.here hx rfl (pc0 := 341) (pc' := 345) rfl (hb hby at_341) (by decide) (by decide) ks_) ?_
            rw [hG]
            refine gN X123 hx hlk (t := .boolean) hret (by simp) rfl (hb hby at_345) ?_ (Nat.le_of_ble_eq_true rfl) (Nat.le_of_ble_eq_true rfl)
            show Q_rm0 Z p0 p1 p2 p3 p4 h0 n0 (some (.int (1 : Int32))) T123.heap _
            rw [eq123]
            exact ⟨rfl, N123⟩
          by_cases c279_49 : ac < (0 : Int32)
          ·
            refine go (u' := T114.setTop (mkF m 325 #[.val (.int p0), .val (.int p1), .val (.int p2), .val (.int p3), .val (.int p4), .val (.int f0), .val (.int t0), .val (.int f1), .val (.int t1), .val (.int f2), .val (.int t2), .val (.int cc), .val (.ref b86), .val (.ref b94), .val (.int ac), .val (.ref b106), .unset] [])) (fun _ ks_ => XS.ifYes X114.here hx rfl (pc0 := 279) (pc' := 325) rfl (hb hby at_279) rfl ((if0 _ _).trans (tlt c279_49).1) (by decide) (by decide) ks_) ?_
            refine go (u' := T114.setTop (mkF m 326 #[.val (.int p0), .val (.int p1), .val (.int p2), .val (.int p3), .val (.int p4), .val (.int f0), .val (.int t0), .val (.int f1), .val (.int t1), .val (.int f2), .val (.int t2), .val (.int cc), .val (.ref b86), .val (.ref b94), .val (.int ac), .val (.ref b106), .unset] [(.int (0 : Int32))])) (fun _ ks_ => XS.iconst X114.here hx rfl (hb hby at_325) ks_) ?_
            exact J326_5 _ (B0 (fun q => (fun q => q c279_49) q.1))
          ·
            refine go (u' := T114.setTop (mkF m 282 #[.val (.int p0), .val (.int p1), .val (.int p2), .val (.int p3), .val (.int p4), .val (.int f0), .val (.int t0), .val (.int f1), .val (.int t1), .val (.int f2), .val (.int t2), .val (.int cc), .val (.ref b86), .val (.ref b94), .val (.int ac), .val (.ref b106), .unset] [])) (fun _ ks_ => XS.ifNo X114.here hx rfl (hb hby at_279) rfl ((if0 _ _).trans (flt c279_49).1) ks_) ?_
            refine go (u' := T114.setTop (mkF m 284 #[.val (.int p0), .val (.int p1), .val (.int p2), .val (.int p3), .val (.int p4), .val (.int f0), .val (.int t0), .val (.int f1), .val (.int t1), .val (.int f2), .val (.int t2), .val (.int cc), .val (.ref b86), .val (.ref b94), .val (.int ac), .val (.ref b106), .unset] [(.int cc)])) (fun _ ks_ => XS.iload X114.here hx rfl (hb hby at_282) rfl  ks_) ?_
            refine go (u' := T114.setTop (mkF m 285 #[.val (.int p0), .val (.int p1), .val (.int p2), .val (.int p3), .val (.int p4), .val (.int f0), .val (.int t0), .val (.int f1), .val (.int t1), .val (.int f2), .val (.int t2), .val (.int cc), .val (.ref b86), .val (.ref b94), .val (.int ac), .val (.ref b106), .unset] [(.int (1 : Int32)), (.int cc)])) (fun _ ks_ => XS.iconst X114.here hx rfl (hb hby at_284) ks_) ?_
            by_cases c285_50 : cc < (1 : Int32)
            ·
              refine go (u' := T114.setTop (mkF m 295 #[.val (.int p0), .val (.int p1), .val (.int p2), .val (.int p3), .val (.int p4), .val (.int f0), .val (.int t0), .val (.int f1), .val (.int t1), .val (.int f2), .val (.int t2), .val (.int cc), .val (.ref b86), .val (.ref b94), .val (.int ac), .val (.ref b106), .unset] [])) (fun _ ks_ => XS.icmpYes X114.here hx rfl (pc0 := 285) (pc' := 295) rfl (hb hby at_285) rfl (tlt c285_50).1 (by decide) (by decide) ks_) ?_
              refine go (u' := T114.setTop (mkF m 297 #[.val (.int p0), .val (.int p1), .val (.int p2), .val (.int p3), .val (.int p4), .val (.int f0), .val (.int t0), .val (.int f1), .val (.int t1), .val (.int f2), .val (.int t2), .val (.int cc), .val (.ref b86), .val (.ref b94), .val (.int ac), .val (.ref b106), .unset] [(.int cc)])) (fun _ ks_ => XS.iload X114.here hx rfl (hb hby at_295) rfl  ks_) ?_
              refine go (u' := T114.setTop (mkF m 298 #[.val (.int p0), .val (.int p1), .val (.int p2), .val (.int p3), .val (.int p4), .val (.int f0), .val (.int t0), .val (.int f1), .val (.int t1), .val (.int f2), .val (.int t2), .val (.int cc), .val (.ref b86), .val (.ref b94), .val (.int ac), .val (.ref b106), .unset] [(.int (2 : Int32)), (.int cc)])) (fun _ ks_ => XS.iconst X114.here hx rfl (hb hby at_297) ks_) ?_
              by_cases c298_51 : cc < (2 : Int32)
              ·
                refine go (u' := T114.setTop (mkF m 308 #[.val (.int p0), .val (.int p1), .val (.int p2), .val (.int p3), .val (.int p4), .val (.int f0), .val (.int t0), .val (.int f1), .val (.int t1), .val (.int f2), .val (.int t2), .val (.int cc), .val (.ref b86), .val (.ref b94), .val (.int ac), .val (.ref b106), .unset] [])) (fun _ ks_ => XS.icmpYes X114.here hx rfl (pc0 := 298) (pc' := 308) rfl (hb hby at_298) rfl (tlt c298_51).1 (by decide) (by decide) ks_) ?_
                refine go (u' := T114.setTop (mkF m 310 #[.val (.int p0), .val (.int p1), .val (.int p2), .val (.int p3), .val (.int p4), .val (.int f0), .val (.int t0), .val (.int f1), .val (.int t1), .val (.int f2), .val (.int t2), .val (.int cc), .val (.ref b86), .val (.ref b94), .val (.int ac), .val (.ref b106), .unset] [(.int cc)])) (fun _ ks_ => XS.iload X114.here hx rfl (hb hby at_308) rfl  ks_) ?_
                refine go (u' := T114.setTop (mkF m 311 #[.val (.int p0), .val (.int p1), .val (.int p2), .val (.int p3), .val (.int p4), .val (.int f0), .val (.int t0), .val (.int f1), .val (.int t1), .val (.int f2), .val (.int t2), .val (.int cc), .val (.ref b86), .val (.ref b94), .val (.int ac), .val (.ref b106), .unset] [(.int (3 : Int32)), (.int cc)])) (fun _ ks_ => XS.iconst X114.here hx rfl (hb hby at_310) ks_) ?_
                by_cases c311_52 : cc < (3 : Int32)
                ·
                  refine go (u' := T114.setTop (mkF m 325 #[.val (.int p0), .val (.int p1), .val (.int p2), .val (.int p3), .val (.int p4), .val (.int f0), .val (.int t0), .val (.int f1), .val (.int t1), .val (.int f2), .val (.int t2), .val (.int cc), .val (.ref b86), .val (.ref b94), .val (.int ac), .val (.ref b106), .unset] [])) (fun _ ks_ => XS.icmpYes X114.here hx rfl (pc0 := 311) (pc' := 325) rfl (hb hby at_311) rfl (tlt c311_52).1 (by decide) (by decide) ks_) ?_
                  refine go (u' := T114.setTop (mkF m 326 #[.val (.int p0), .val (.int p1), .val (.int p2), .val (.int p3), .val (.int p4), .val (.int f0), .val (.int t0), .val (.int f1), .val (.int t1), .val (.int f2), .val (.int t2), .val (.int cc), .val (.ref b86), .val (.ref b94), .val (.int ac), .val (.ref b106), .unset] [(.int (0 : Int32))])) (fun _ ks_ => XS.iconst X114.here hx rfl (hb hby at_325) ks_) ?_
                  exact J326_5 _ (B0 (fun q => (fun q => q.elim (fun q => (fun q => q.elim (fun q => (fun q => (fun q => q c311_52) q.1) q.2) (fun q => (fun q => q c298_51) q.1)) q.2) (fun q => (fun q => q c285_50) q.1)) q.2))
                ·
                  refine go (u' := T114.setTop (mkF m 314 #[.val (.int p0), .val (.int p1), .val (.int p2), .val (.int p3), .val (.int p4), .val (.int f0), .val (.int t0), .val (.int f1), .val (.int t1), .val (.int f2), .val (.int t2), .val (.int cc), .val (.ref b86), .val (.ref b94), .val (.int ac), .val (.ref b106), .unset] [])) (fun _ ks_ => XS.icmpNo X114.here hx rfl (hb hby at_311) rfl (flt c311_52).1 ks_) ?_
                  refine go (u' := T114.setTop (mkF m 316 #[.val (.int p0), .val (.int p1), .val (.int p2), .val (.int p3), .val (.int p4), .val (.int f0), .val (.int t0), .val (.int f1), .val (.int t1), .val (.int f2), .val (.int t2), .val (.int cc), .val (.ref b86), .val (.ref b94), .val (.int ac), .val (.ref b106), .unset] [(.int t2)])) (fun _ ks_ => XS.iload X114.here hx rfl (hb hby at_314) rfl  ks_) ?_
                  refine go (u' := T114.setTop (mkF m 318 #[.val (.int p0), .val (.int p1), .val (.int p2), .val (.int p3), .val (.int p4), .val (.int f0), .val (.int t0), .val (.int f1), .val (.int t1), .val (.int f2), .val (.int t2), .val (.int cc), .val (.ref b86), .val (.ref b94), .val (.int ac), .val (.ref b106), .unset] [(.int ac), (.int t2)])) (fun _ ks_ => XS.iload X114.here hx rfl (hb hby at_316) rfl  ks_) ?_
                  by_cases c318_53 : t2 = ac
                  ·
                    refine go (u' := T114.setTop (mkF m 321 #[.val (.int p0), .val (.int p1), .val (.int p2), .val (.int p3), .val (.int p4), .val (.int f0), .val (.int t0), .val (.int f1), .val (.int t1), .val (.int f2), .val (.int t2), .val (.int cc), .val (.ref b86), .val (.ref b94), .val (.int ac), .val (.ref b106), .unset] [])) (fun _ ks_ => XS.icmpNo X114.here hx rfl (hb hby at_318) rfl (teq c318_53).2 ks_) ?_
                    refine go (u' := T114.setTop (mkF m 322 #[.val (.int p0), .val (.int p1), .val (.int p2), .val (.int p3), .val (.int p4), .val (.int f0), .val (.int t0), .val (.int f1), .val (.int t1), .val (.int f2), .val (.int t2), .val (.int cc), .val (.ref b86), .val (.ref b94), .val (.int ac), .val (.ref b106), .unset] [(.int (1 : Int32))])) (fun _ ks_ => XS.iconst X114.here hx rfl (hb hby at_321) ks_) ?_
                    refine go (u' := T114.setTop (mkF m 326 #[.val (.int p0), .val (.int p1), .val (.int p2), .val (.int p3), .val (.int p4), .val (.int f0), .val (.int t0), .val (.int f1), .val (.int t1), .val (.int f2), .val (.int t2), .val (.int cc), .val (.ref b86), .val (.ref b94), .val (.int ac), .val (.ref b106), .unset] [(.int (1 : Int32))])) (fun _ ks_ => XS.goto X114.here hx rfl (pc0 := 322) (pc' := 326) rfl (hb hby at_322) (by decide) (by decide) ks_) ?_
                    exact J326_5 _ (B1 ⟨c279_49, (Or.inl ⟨c285_50, (Or.inl ⟨c298_51, ⟨c311_52, c318_53⟩⟩)⟩)⟩)
                  ·
                    refine go (u' := T114.setTop (mkF m 325 #[.val (.int p0), .val (.int p1), .val (.int p2), .val (.int p3), .val (.int p4), .val (.int f0), .val (.int t0), .val (.int f1), .val (.int t1), .val (.int f2), .val (.int t2), .val (.int cc), .val (.ref b86), .val (.ref b94), .val (.int ac), .val (.ref b106), .unset] [])) (fun _ ks_ => XS.icmpYes X114.here hx rfl (pc0 := 318) (pc' := 325) rfl (hb hby at_318) rfl (feq c318_53).2 (by decide) (by decide) ks_) ?_
                    refine go (u' := T114.setTop (mkF m 326 #[.val (.int p0), .val (.int p1), .val (.int p2), .val (.int p3), .val (.int p4), .val (.int f0), .val (.int t0), .val (.int f1), .val (.int t1), .val (.int f2), .val (.int t2), .val (.int cc), .val (.ref b86), .val (.ref b94), .val (.int ac), .val (.ref b106), .unset] [(.int (0 : Int32))])) (fun _ ks_ => XS.iconst X114.here hx rfl (hb hby at_325) ks_) ?_
                    exact J326_5 _ (B0 (fun q => (fun q => q.elim (fun q => (fun q => q.elim (fun q => (fun q => c318_53 q.2) q.2) (fun q => (fun q => q c298_51) q.1)) q.2) (fun q => (fun q => q c285_50) q.1)) q.2))
              ·
                refine go (u' := T114.setTop (mkF m 301 #[.val (.int p0), .val (.int p1), .val (.int p2), .val (.int p3), .val (.int p4), .val (.int f0), .val (.int t0), .val (.int f1), .val (.int t1), .val (.int f2), .val (.int t2), .val (.int cc), .val (.ref b86), .val (.ref b94), .val (.int ac), .val (.ref b106), .unset] [])) (fun _ ks_ => XS.icmpNo X114.here hx rfl (hb hby at_298) rfl (flt c298_51).1 ks_) ?_
                refine go (u' := T114.setTop (mkF m 303 #[.val (.int p0), .val (.int p1), .val (.int p2), .val (.int p3), .val (.int p4), .val (.int f0), .val (.int t0), .val (.int f1), .val (.int t1), .val (.int f2), .val (.int t2), .val (.int cc), .val (.ref b86), .val (.ref b94), .val (.int ac), .val (.ref b106), .unset] [(.int t1)])) (fun _ ks_ => XS.iload X114.here hx rfl (hb hby at_301) rfl  ks_) ?_
                refine go (u' := T114.setTop (mkF m 305 #[.val (.int p0), .val (.int p1), .val (.int p2), .val (.int p3), .val (.int p4), .val (.int f0), .val (.int t0), .val (.int f1), .val (.int t1), .val (.int f2), .val (.int t2), .val (.int cc), .val (.ref b86), .val (.ref b94), .val (.int ac), .val (.ref b106), .unset] [(.int ac), (.int t1)])) (fun _ ks_ => XS.iload X114.here hx rfl (hb hby at_303) rfl  ks_) ?_
                by_cases c305_54 : t1 = ac
                ·
                  refine go (u' := T114.setTop (mkF m 321 #[.val (.int p0), .val (.int p1), .val (.int p2), .val (.int p3), .val (.int p4), .val (.int f0), .val (.int t0), .val (.int f1), .val (.int t1), .val (.int f2), .val (.int t2), .val (.int cc), .val (.ref b86), .val (.ref b94), .val (.int ac), .val (.ref b106), .unset] [])) (fun _ ks_ => XS.icmpYes X114.here hx rfl (pc0 := 305) (pc' := 321) rfl (hb hby at_305) rfl (teq c305_54).1 (by decide) (by decide) ks_) ?_
                  refine go (u' := T114.setTop (mkF m 322 #[.val (.int p0), .val (.int p1), .val (.int p2), .val (.int p3), .val (.int p4), .val (.int f0), .val (.int t0), .val (.int f1), .val (.int t1), .val (.int f2), .val (.int t2), .val (.int cc), .val (.ref b86), .val (.ref b94), .val (.int ac), .val (.ref b106), .unset] [(.int (1 : Int32))])) (fun _ ks_ => XS.iconst X114.here hx rfl (hb hby at_321) ks_) ?_
                  refine go (u' := T114.setTop (mkF m 326 #[.val (.int p0), .val (.int p1), .val (.int p2), .val (.int p3), .val (.int p4), .val (.int f0), .val (.int t0), .val (.int f1), .val (.int t1), .val (.int f2), .val (.int t2), .val (.int cc), .val (.ref b86), .val (.ref b94), .val (.int ac), .val (.ref b106), .unset] [(.int (1 : Int32))])) (fun _ ks_ => XS.goto X114.here hx rfl (pc0 := 322) (pc' := 326) rfl (hb hby at_322) (by decide) (by decide) ks_) ?_
                  exact J326_5 _ (B1 ⟨c279_49, (Or.inl ⟨c285_50, (Or.inr ⟨c298_51, (Or.inl c305_54)⟩)⟩)⟩)
                ·
                  refine go (u' := T114.setTop (mkF m 308 #[.val (.int p0), .val (.int p1), .val (.int p2), .val (.int p3), .val (.int p4), .val (.int f0), .val (.int t0), .val (.int f1), .val (.int t1), .val (.int f2), .val (.int t2), .val (.int cc), .val (.ref b86), .val (.ref b94), .val (.int ac), .val (.ref b106), .unset] [])) (fun _ ks_ => XS.icmpNo X114.here hx rfl (hb hby at_305) rfl (feq c305_54).1 ks_) ?_
                  refine go (u' := T114.setTop (mkF m 310 #[.val (.int p0), .val (.int p1), .val (.int p2), .val (.int p3), .val (.int p4), .val (.int f0), .val (.int t0), .val (.int f1), .val (.int t1), .val (.int f2), .val (.int t2), .val (.int cc), .val (.ref b86), .val (.ref b94), .val (.int ac), .val (.ref b106), .unset] [(.int cc)])) (fun _ ks_ => XS.iload X114.here hx rfl (hb hby at_308) rfl  ks_) ?_
                  refine go (u' := T114.setTop (mkF m 311 #[.val (.int p0), .val (.int p1), .val (.int p2), .val (.int p3), .val (.int p4), .val (.int f0), .val (.int t0), .val (.int f1), .val (.int t1), .val (.int f2), .val (.int t2), .val (.int cc), .val (.ref b86), .val (.ref b94), .val (.int ac), .val (.ref b106), .unset] [(.int (3 : Int32)), (.int cc)])) (fun _ ks_ => XS.iconst X114.here hx rfl (hb hby at_310) ks_) ?_
                  by_cases c311_55 : cc < (3 : Int32)
                  ·
                    refine go (u' := T114.setTop (mkF m 325 #[.val (.int p0), .val (.int p1), .val (.int p2), .val (.int p3), .val (.int p4), .val (.int f0), .val (.int t0), .val (.int f1), .val (.int t1), .val (.int f2), .val (.int t2), .val (.int cc), .val (.ref b86), .val (.ref b94), .val (.int ac), .val (.ref b106), .unset] [])) (fun _ ks_ => XS.icmpYes X114.here hx rfl (pc0 := 311) (pc' := 325) rfl (hb hby at_311) rfl (tlt c311_55).1 (by decide) (by decide) ks_) ?_
                    refine go (u' := T114.setTop (mkF m 326 #[.val (.int p0), .val (.int p1), .val (.int p2), .val (.int p3), .val (.int p4), .val (.int f0), .val (.int t0), .val (.int f1), .val (.int t1), .val (.int f2), .val (.int t2), .val (.int cc), .val (.ref b86), .val (.ref b94), .val (.int ac), .val (.ref b106), .unset] [(.int (0 : Int32))])) (fun _ ks_ => XS.iconst X114.here hx rfl (hb hby at_325) ks_) ?_
                    exact J326_5 _ (B0 (fun q => (fun q => q.elim (fun q => (fun q => q.elim (fun q => c298_51 q.1) (fun q => (fun q => q.elim c305_54 (fun q => (fun q => q c311_55) q.1)) q.2)) q.2) (fun q => (fun q => q c285_50) q.1)) q.2))
                  ·
                    refine go (u' := T114.setTop (mkF m 314 #[.val (.int p0), .val (.int p1), .val (.int p2), .val (.int p3), .val (.int p4), .val (.int f0), .val (.int t0), .val (.int f1), .val (.int t1), .val (.int f2), .val (.int t2), .val (.int cc), .val (.ref b86), .val (.ref b94), .val (.int ac), .val (.ref b106), .unset] [])) (fun _ ks_ => XS.icmpNo X114.here hx rfl (hb hby at_311) rfl (flt c311_55).1 ks_) ?_
                    refine go (u' := T114.setTop (mkF m 316 #[.val (.int p0), .val (.int p1), .val (.int p2), .val (.int p3), .val (.int p4), .val (.int f0), .val (.int t0), .val (.int f1), .val (.int t1), .val (.int f2), .val (.int t2), .val (.int cc), .val (.ref b86), .val (.ref b94), .val (.int ac), .val (.ref b106), .unset] [(.int t2)])) (fun _ ks_ => XS.iload X114.here hx rfl (hb hby at_314) rfl  ks_) ?_
                    refine go (u' := T114.setTop (mkF m 318 #[.val (.int p0), .val (.int p1), .val (.int p2), .val (.int p3), .val (.int p4), .val (.int f0), .val (.int t0), .val (.int f1), .val (.int t1), .val (.int f2), .val (.int t2), .val (.int cc), .val (.ref b86), .val (.ref b94), .val (.int ac), .val (.ref b106), .unset] [(.int ac), (.int t2)])) (fun _ ks_ => XS.iload X114.here hx rfl (hb hby at_316) rfl  ks_) ?_
                    by_cases c318_56 : t2 = ac
                    ·
                      refine go (u' := T114.setTop (mkF m 321 #[.val (.int p0), .val (.int p1), .val (.int p2), .val (.int p3), .val (.int p4), .val (.int f0), .val (.int t0), .val (.int f1), .val (.int t1), .val (.int f2), .val (.int t2), .val (.int cc), .val (.ref b86), .val (.ref b94), .val (.int ac), .val (.ref b106), .unset] [])) (fun _ ks_ => XS.icmpNo X114.here hx rfl (hb hby at_318) rfl (teq c318_56).2 ks_) ?_
                      refine go (u' := T114.setTop (mkF m 322 #[.val (.int p0), .val (.int p1), .val (.int p2), .val (.int p3), .val (.int p4), .val (.int f0), .val (.int t0), .val (.int f1), .val (.int t1), .val (.int f2), .val (.int t2), .val (.int cc), .val (.ref b86), .val (.ref b94), .val (.int ac), .val (.ref b106), .unset] [(.int (1 : Int32))])) (fun _ ks_ => XS.iconst X114.here hx rfl (hb hby at_321) ks_) ?_
                      refine go (u' := T114.setTop (mkF m 326 #[.val (.int p0), .val (.int p1), .val (.int p2), .val (.int p3), .val (.int p4), .val (.int f0), .val (.int t0), .val (.int f1), .val (.int t1), .val (.int f2), .val (.int t2), .val (.int cc), .val (.ref b86), .val (.ref b94), .val (.int ac), .val (.ref b106), .unset] [(.int (1 : Int32))])) (fun _ ks_ => XS.goto X114.here hx rfl (pc0 := 322) (pc' := 326) rfl (hb hby at_322) (by decide) (by decide) ks_) ?_
                      exact J326_5 _ (B1 ⟨c279_49, (Or.inl ⟨c285_50, (Or.inr ⟨c298_51, (Or.inr ⟨c311_55, c318_56⟩)⟩)⟩)⟩)
                    ·
                      refine go (u' := T114.setTop (mkF m 325 #[.val (.int p0), .val (.int p1), .val (.int p2), .val (.int p3), .val (.int p4), .val (.int f0), .val (.int t0), .val (.int f1), .val (.int t1), .val (.int f2), .val (.int t2), .val (.int cc), .val (.ref b86), .val (.ref b94), .val (.int ac), .val (.ref b106), .unset] [])) (fun _ ks_ => XS.icmpYes X114.here hx rfl (pc0 := 318) (pc' := 325) rfl (hb hby at_318) rfl (feq c318_56).2 (by decide) (by decide) ks_) ?_
                      refine go (u' := T114.setTop (mkF m 326 #[.val (.int p0), .val (.int p1), .val (.int p2), .val (.int p3), .val (.int p4), .val (.int f0), .val (.int t0), .val (.int f1), .val (.int t1), .val (.int f2), .val (.int t2), .val (.int cc), .val (.ref b86), .val (.ref b94), .val (.int ac), .val (.ref b106), .unset] [(.int (0 : Int32))])) (fun _ ks_ => XS.iconst X114.here hx rfl (hb hby at_325) ks_) ?_
                      exact J326_5 _ (B0 (fun q => (fun q => q.elim (fun q => (fun q => q.elim (fun q => c298_51 q.1) (fun q => (fun q => q.elim c305_54 (fun q => c318_56 q.2)) q.2)) q.2) (fun q => (fun q => q c285_50) q.1)) q.2))
            ·
              refine go (u' := T114.setTop (mkF m 288 #[.val (.int p0), .val (.int p1), .val (.int p2), .val (.int p3), .val (.int p4), .val (.int f0), .val (.int t0), .val (.int f1), .val (.int t1), .val (.int f2), .val (.int t2), .val (.int cc), .val (.ref b86), .val (.ref b94), .val (.int ac), .val (.ref b106), .unset] [])) (fun _ ks_ => XS.icmpNo X114.here hx rfl (hb hby at_285) rfl (flt c285_50).1 ks_) ?_
              refine go (u' := T114.setTop (mkF m 290 #[.val (.int p0), .val (.int p1), .val (.int p2), .val (.int p3), .val (.int p4), .val (.int f0), .val (.int t0), .val (.int f1), .val (.int t1), .val (.int f2), .val (.int t2), .val (.int cc), .val (.ref b86), .val (.ref b94), .val (.int ac), .val (.ref b106), .unset] [(.int t0)])) (fun _ ks_ => XS.iload X114.here hx rfl (hb hby at_288) rfl  ks_) ?_
              refine go (u' := T114.setTop (mkF m 292 #[.val (.int p0), .val (.int p1), .val (.int p2), .val (.int p3), .val (.int p4), .val (.int f0), .val (.int t0), .val (.int f1), .val (.int t1), .val (.int f2), .val (.int t2), .val (.int cc), .val (.ref b86), .val (.ref b94), .val (.int ac), .val (.ref b106), .unset] [(.int ac), (.int t0)])) (fun _ ks_ => XS.iload X114.here hx rfl (hb hby at_290) rfl  ks_) ?_
              by_cases c292_57 : t0 = ac
              ·
                refine go (u' := T114.setTop (mkF m 321 #[.val (.int p0), .val (.int p1), .val (.int p2), .val (.int p3), .val (.int p4), .val (.int f0), .val (.int t0), .val (.int f1), .val (.int t1), .val (.int f2), .val (.int t2), .val (.int cc), .val (.ref b86), .val (.ref b94), .val (.int ac), .val (.ref b106), .unset] [])) (fun _ ks_ => XS.icmpYes X114.here hx rfl (pc0 := 292) (pc' := 321) rfl (hb hby at_292) rfl (teq c292_57).1 (by decide) (by decide) ks_) ?_
                refine go (u' := T114.setTop (mkF m 322 #[.val (.int p0), .val (.int p1), .val (.int p2), .val (.int p3), .val (.int p4), .val (.int f0), .val (.int t0), .val (.int f1), .val (.int t1), .val (.int f2), .val (.int t2), .val (.int cc), .val (.ref b86), .val (.ref b94), .val (.int ac), .val (.ref b106), .unset] [(.int (1 : Int32))])) (fun _ ks_ => XS.iconst X114.here hx rfl (hb hby at_321) ks_) ?_
                refine go (u' := T114.setTop (mkF m 326 #[.val (.int p0), .val (.int p1), .val (.int p2), .val (.int p3), .val (.int p4), .val (.int f0), .val (.int t0), .val (.int f1), .val (.int t1), .val (.int f2), .val (.int t2), .val (.int cc), .val (.ref b86), .val (.ref b94), .val (.int ac), .val (.ref b106), .unset] [(.int (1 : Int32))])) (fun _ ks_ => XS.goto X114.here hx rfl (pc0 := 322) (pc' := 326) rfl (hb hby at_322) (by decide) (by decide) ks_) ?_
                exact J326_5 _ (B1 ⟨c279_49, (Or.inr ⟨c285_50, (Or.inl c292_57)⟩)⟩)
              ·
                refine go (u' := T114.setTop (mkF m 295 #[.val (.int p0), .val (.int p1), .val (.int p2), .val (.int p3), .val (.int p4), .val (.int f0), .val (.int t0), .val (.int f1), .val (.int t1), .val (.int f2), .val (.int t2), .val (.int cc), .val (.ref b86), .val (.ref b94), .val (.int ac), .val (.ref b106), .unset] [])) (fun _ ks_ => XS.icmpNo X114.here hx rfl (hb hby at_292) rfl (feq c292_57).1 ks_) ?_
                refine go (u' := T114.setTop (mkF m 297 #[.val (.int p0), .val (.int p1), .val (.int p2), .val (.int p3), .val (.int p4), .val (.int f0), .val (.int t0), .val (.int f1), .val (.int t1), .val (.int f2), .val (.int t2), .val (.int cc), .val (.ref b86), .val (.ref b94), .val (.int ac), .val (.ref b106), .unset] [(.int cc)])) (fun _ ks_ => XS.iload X114.here hx rfl (hb hby at_295) rfl  ks_) ?_
                refine go (u' := T114.setTop (mkF m 298 #[.val (.int p0), .val (.int p1), .val (.int p2), .val (.int p3), .val (.int p4), .val (.int f0), .val (.int t0), .val (.int f1), .val (.int t1), .val (.int f2), .val (.int t2), .val (.int cc), .val (.ref b86), .val (.ref b94), .val (.int ac), .val (.ref b106), .unset] [(.int (2 : Int32)), (.int cc)])) (fun _ ks_ => XS.iconst X114.here hx rfl (hb hby at_297) ks_) ?_
                by_cases c298_58 : cc < (2 : Int32)
                ·
                  refine go (u' := T114.setTop (mkF m 308 #[.val (.int p0), .val (.int p1), .val (.int p2), .val (.int p3), .val (.int p4), .val (.int f0), .val (.int t0), .val (.int f1), .val (.int t1), .val (.int f2), .val (.int t2), .val (.int cc), .val (.ref b86), .val (.ref b94), .val (.int ac), .val (.ref b106), .unset] [])) (fun _ ks_ => XS.icmpYes X114.here hx rfl (pc0 := 298) (pc' := 308) rfl (hb hby at_298) rfl (tlt c298_58).1 (by decide) (by decide) ks_) ?_
                  refine go (u' := T114.setTop (mkF m 310 #[.val (.int p0), .val (.int p1), .val (.int p2), .val (.int p3), .val (.int p4), .val (.int f0), .val (.int t0), .val (.int f1), .val (.int t1), .val (.int f2), .val (.int t2), .val (.int cc), .val (.ref b86), .val (.ref b94), .val (.int ac), .val (.ref b106), .unset] [(.int cc)])) (fun _ ks_ => XS.iload X114.here hx rfl (hb hby at_308) rfl  ks_) ?_
                  refine go (u' := T114.setTop (mkF m 311 #[.val (.int p0), .val (.int p1), .val (.int p2), .val (.int p3), .val (.int p4), .val (.int f0), .val (.int t0), .val (.int f1), .val (.int t1), .val (.int f2), .val (.int t2), .val (.int cc), .val (.ref b86), .val (.ref b94), .val (.int ac), .val (.ref b106), .unset] [(.int (3 : Int32)), (.int cc)])) (fun _ ks_ => XS.iconst X114.here hx rfl (hb hby at_310) ks_) ?_
                  by_cases c311_59 : cc < (3 : Int32)
                  ·
                    refine go (u' := T114.setTop (mkF m 325 #[.val (.int p0), .val (.int p1), .val (.int p2), .val (.int p3), .val (.int p4), .val (.int f0), .val (.int t0), .val (.int f1), .val (.int t1), .val (.int f2), .val (.int t2), .val (.int cc), .val (.ref b86), .val (.ref b94), .val (.int ac), .val (.ref b106), .unset] [])) (fun _ ks_ => XS.icmpYes X114.here hx rfl (pc0 := 311) (pc' := 325) rfl (hb hby at_311) rfl (tlt c311_59).1 (by decide) (by decide) ks_) ?_
                    refine go (u' := T114.setTop (mkF m 326 #[.val (.int p0), .val (.int p1), .val (.int p2), .val (.int p3), .val (.int p4), .val (.int f0), .val (.int t0), .val (.int f1), .val (.int t1), .val (.int f2), .val (.int t2), .val (.int cc), .val (.ref b86), .val (.ref b94), .val (.int ac), .val (.ref b106), .unset] [(.int (0 : Int32))])) (fun _ ks_ => XS.iconst X114.here hx rfl (hb hby at_325) ks_) ?_
                    exact J326_5 _ (B0 (fun q => (fun q => q.elim (fun q => c285_50 q.1) (fun q => (fun q => q.elim c292_57 (fun q => q.elim (fun q => (fun q => (fun q => q c311_59) q.1) q.2) (fun q => (fun q => q c298_58) q.1))) q.2)) q.2))
                  ·
                    refine go (u' := T114.setTop (mkF m 314 #[.val (.int p0), .val (.int p1), .val (.int p2), .val (.int p3), .val (.int p4), .val (.int f0), .val (.int t0), .val (.int f1), .val (.int t1), .val (.int f2), .val (.int t2), .val (.int cc), .val (.ref b86), .val (.ref b94), .val (.int ac), .val (.ref b106), .unset] [])) (fun _ ks_ => XS.icmpNo X114.here hx rfl (hb hby at_311) rfl (flt c311_59).1 ks_) ?_
                    refine go (u' := T114.setTop (mkF m 316 #[.val (.int p0), .val (.int p1), .val (.int p2), .val (.int p3), .val (.int p4), .val (.int f0), .val (.int t0), .val (.int f1), .val (.int t1), .val (.int f2), .val (.int t2), .val (.int cc), .val (.ref b86), .val (.ref b94), .val (.int ac), .val (.ref b106), .unset] [(.int t2)])) (fun _ ks_ => XS.iload X114.here hx rfl (hb hby at_314) rfl  ks_) ?_
                    refine go (u' := T114.setTop (mkF m 318 #[.val (.int p0), .val (.int p1), .val (.int p2), .val (.int p3), .val (.int p4), .val (.int f0), .val (.int t0), .val (.int f1), .val (.int t1), .val (.int f2), .val (.int t2), .val (.int cc), .val (.ref b86), .val (.ref b94), .val (.int ac), .val (.ref b106), .unset] [(.int ac), (.int t2)])) (fun _ ks_ => XS.iload X114.here hx rfl (hb hby at_316) rfl  ks_) ?_
                    by_cases c318_60 : t2 = ac
                    ·
                      refine go (u' := T114.setTop (mkF m 321 #[.val (.int p0), .val (.int p1), .val (.int p2), .val (.int p3), .val (.int p4), .val (.int f0), .val (.int t0), .val (.int f1), .val (.int t1), .val (.int f2), .val (.int t2), .val (.int cc), .val (.ref b86), .val (.ref b94), .val (.int ac), .val (.ref b106), .unset] [])) (fun _ ks_ => XS.icmpNo X114.here hx rfl (hb hby at_318) rfl (teq c318_60).2 ks_) ?_
                      refine go (u' := T114.setTop (mkF m 322 #[.val (.int p0), .val (.int p1), .val (.int p2), .val (.int p3), .val (.int p4), .val (.int f0), .val (.int t0), .val (.int f1), .val (.int t1), .val (.int f2), .val (.int t2), .val (.int cc), .val (.ref b86), .val (.ref b94), .val (.int ac), .val (.ref b106), .unset] [(.int (1 : Int32))])) (fun _ ks_ => XS.iconst X114.here hx rfl (hb hby at_321) ks_) ?_
                      refine go (u' := T114.setTop (mkF m 326 #[.val (.int p0), .val (.int p1), .val (.int p2), .val (.int p3), .val (.int p4), .val (.int f0), .val (.int t0), .val (.int f1), .val (.int t1), .val (.int f2), .val (.int t2), .val (.int cc), .val (.ref b86), .val (.ref b94), .val (.int ac), .val (.ref b106), .unset] [(.int (1 : Int32))])) (fun _ ks_ => XS.goto X114.here hx rfl (pc0 := 322) (pc' := 326) rfl (hb hby at_322) (by decide) (by decide) ks_) ?_
                      exact J326_5 _ (B1 ⟨c279_49, (Or.inr ⟨c285_50, (Or.inr (Or.inl ⟨c298_58, ⟨c311_59, c318_60⟩⟩))⟩)⟩)
                    ·
                      refine go (u' := T114.setTop (mkF m 325 #[.val (.int p0), .val (.int p1), .val (.int p2), .val (.int p3), .val (.int p4), .val (.int f0), .val (.int t0), .val (.int f1), .val (.int t1), .val (.int f2), .val (.int t2), .val (.int cc), .val (.ref b86), .val (.ref b94), .val (.int ac), .val (.ref b106), .unset] [])) (fun _ ks_ => XS.icmpYes X114.here hx rfl (pc0 := 318) (pc' := 325) rfl (hb hby at_318) rfl (feq c318_60).2 (by decide) (by decide) ks_) ?_
                      refine go (u' := T114.setTop (mkF m 326 #[.val (.int p0), .val (.int p1), .val (.int p2), .val (.int p3), .val (.int p4), .val (.int f0), .val (.int t0), .val (.int f1), .val (.int t1), .val (.int f2), .val (.int t2), .val (.int cc), .val (.ref b86), .val (.ref b94), .val (.int ac), .val (.ref b106), .unset] [(.int (0 : Int32))])) (fun _ ks_ => XS.iconst X114.here hx rfl (hb hby at_325) ks_) ?_
                      exact J326_5 _ (B0 (fun q => (fun q => q.elim (fun q => c285_50 q.1) (fun q => (fun q => q.elim c292_57 (fun q => q.elim (fun q => (fun q => c318_60 q.2) q.2) (fun q => (fun q => q c298_58) q.1))) q.2)) q.2))
                ·
                  refine go (u' := T114.setTop (mkF m 301 #[.val (.int p0), .val (.int p1), .val (.int p2), .val (.int p3), .val (.int p4), .val (.int f0), .val (.int t0), .val (.int f1), .val (.int t1), .val (.int f2), .val (.int t2), .val (.int cc), .val (.ref b86), .val (.ref b94), .val (.int ac), .val (.ref b106), .unset] [])) (fun _ ks_ => XS.icmpNo X114.here hx rfl (hb hby at_298) rfl (flt c298_58).1 ks_) ?_
                  refine go (u' := T114.setTop (mkF m 303 #[.val (.int p0), .val (.int p1), .val (.int p2), .val (.int p3), .val (.int p4), .val (.int f0), .val (.int t0), .val (.int f1), .val (.int t1), .val (.int f2), .val (.int t2), .val (.int cc), .val (.ref b86), .val (.ref b94), .val (.int ac), .val (.ref b106), .unset] [(.int t1)])) (fun _ ks_ => XS.iload X114.here hx rfl (hb hby at_301) rfl  ks_) ?_
                  refine go (u' := T114.setTop (mkF m 305 #[.val (.int p0), .val (.int p1), .val (.int p2), .val (.int p3), .val (.int p4), .val (.int f0), .val (.int t0), .val (.int f1), .val (.int t1), .val (.int f2), .val (.int t2), .val (.int cc), .val (.ref b86), .val (.ref b94), .val (.int ac), .val (.ref b106), .unset] [(.int ac), (.int t1)])) (fun _ ks_ => XS.iload X114.here hx rfl (hb hby at_303) rfl  ks_) ?_
                  by_cases c305_61 : t1 = ac
                  ·
                    refine go (u' := T114.setTop (mkF m 321 #[.val (.int p0), .val (.int p1), .val (.int p2), .val (.int p3), .val (.int p4), .val (.int f0), .val (.int t0), .val (.int f1), .val (.int t1), .val (.int f2), .val (.int t2), .val (.int cc), .val (.ref b86), .val (.ref b94), .val (.int ac), .val (.ref b106), .unset] [])) (fun _ ks_ => XS.icmpYes X114.here hx rfl (pc0 := 305) (pc' := 321) rfl (hb hby at_305) rfl (teq c305_61).1 (by decide) (by decide) ks_) ?_
                    refine go (u' := T114.setTop (mkF m 322 #[.val (.int p0), .val (.int p1), .val (.int p2), .val (.int p3), .val (.int p4), .val (.int f0), .val (.int t0), .val (.int f1), .val (.int t1), .val (.int f2), .val (.int t2), .val (.int cc), .val (.ref b86), .val (.ref b94), .val (.int ac), .val (.ref b106), .unset] [(.int (1 : Int32))])) (fun _ ks_ => XS.iconst X114.here hx rfl (hb hby at_321) ks_) ?_
                    refine go (u' := T114.setTop (mkF m 326 #[.val (.int p0), .val (.int p1), .val (.int p2), .val (.int p3), .val (.int p4), .val (.int f0), .val (.int t0), .val (.int f1), .val (.int t1), .val (.int f2), .val (.int t2), .val (.int cc), .val (.ref b86), .val (.ref b94), .val (.int ac), .val (.ref b106), .unset] [(.int (1 : Int32))])) (fun _ ks_ => XS.goto X114.here hx rfl (pc0 := 322) (pc' := 326) rfl (hb hby at_322) (by decide) (by decide) ks_) ?_
                    exact J326_5 _ (B1 ⟨c279_49, (Or.inr ⟨c285_50, (Or.inr (Or.inr ⟨c298_58, (Or.inl c305_61)⟩))⟩)⟩)
                  ·
                    refine go (u' := T114.setTop (mkF m 308 #[.val (.int p0), .val (.int p1), .val (.int p2), .val (.int p3), .val (.int p4), .val (.int f0), .val (.int t0), .val (.int f1), .val (.int t1), .val (.int f2), .val (.int t2), .val (.int cc), .val (.ref b86), .val (.ref b94), .val (.int ac), .val (.ref b106), .unset] [])) (fun _ ks_ => XS.icmpNo X114.here hx rfl (hb hby at_305) rfl (feq c305_61).1 ks_) ?_
                    refine go (u' := T114.setTop (mkF m 310 #[.val (.int p0), .val (.int p1), .val (.int p2), .val (.int p3), .val (.int p4), .val (.int f0), .val (.int t0), .val (.int f1), .val (.int t1), .val (.int f2), .val (.int t2), .val (.int cc), .val (.ref b86), .val (.ref b94), .val (.int ac), .val (.ref b106), .unset] [(.int cc)])) (fun _ ks_ => XS.iload X114.here hx rfl (hb hby at_308) rfl  ks_) ?_
                    refine go (u' := T114.setTop (mkF m 311 #[.val (.int p0), .val (.int p1), .val (.int p2), .val (.int p3), .val (.int p4), .val (.int f0), .val (.int t0), .val (.int f1), .val (.int t1), .val (.int f2), .val (.int t2), .val (.int cc), .val (.ref b86), .val (.ref b94), .val (.int ac), .val (.ref b106), .unset] [(.int (3 : Int32)), (.int cc)])) (fun _ ks_ => XS.iconst X114.here hx rfl (hb hby at_310) ks_) ?_
                    by_cases c311_62 : cc < (3 : Int32)
                    ·
                      refine go (u' := T114.setTop (mkF m 325 #[.val (.int p0), .val (.int p1), .val (.int p2), .val (.int p3), .val (.int p4), .val (.int f0), .val (.int t0), .val (.int f1), .val (.int t1), .val (.int f2), .val (.int t2), .val (.int cc), .val (.ref b86), .val (.ref b94), .val (.int ac), .val (.ref b106), .unset] [])) (fun _ ks_ => XS.icmpYes X114.here hx rfl (pc0 := 311) (pc' := 325) rfl (hb hby at_311) rfl (tlt c311_62).1 (by decide) (by decide) ks_) ?_
                      refine go (u' := T114.setTop (mkF m 326 #[.val (.int p0), .val (.int p1), .val (.int p2), .val (.int p3), .val (.int p4), .val (.int f0), .val (.int t0), .val (.int f1), .val (.int t1), .val (.int f2), .val (.int t2), .val (.int cc), .val (.ref b86), .val (.ref b94), .val (.int ac), .val (.ref b106), .unset] [(.int (0 : Int32))])) (fun _ ks_ => XS.iconst X114.here hx rfl (hb hby at_325) ks_) ?_
                      exact J326_5 _ (B0 (fun q => (fun q => q.elim (fun q => c285_50 q.1) (fun q => (fun q => q.elim c292_57 (fun q => q.elim (fun q => c298_58 q.1) (fun q => (fun q => q.elim c305_61 (fun q => (fun q => q c311_62) q.1)) q.2))) q.2)) q.2))
                    ·
                      refine go (u' := T114.setTop (mkF m 314 #[.val (.int p0), .val (.int p1), .val (.int p2), .val (.int p3), .val (.int p4), .val (.int f0), .val (.int t0), .val (.int f1), .val (.int t1), .val (.int f2), .val (.int t2), .val (.int cc), .val (.ref b86), .val (.ref b94), .val (.int ac), .val (.ref b106), .unset] [])) (fun _ ks_ => XS.icmpNo X114.here hx rfl (hb hby at_311) rfl (flt c311_62).1 ks_) ?_
                      refine go (u' := T114.setTop (mkF m 316 #[.val (.int p0), .val (.int p1), .val (.int p2), .val (.int p3), .val (.int p4), .val (.int f0), .val (.int t0), .val (.int f1), .val (.int t1), .val (.int f2), .val (.int t2), .val (.int cc), .val (.ref b86), .val (.ref b94), .val (.int ac), .val (.ref b106), .unset] [(.int t2)])) (fun _ ks_ => XS.iload X114.here hx rfl (hb hby at_314) rfl  ks_) ?_
                      refine go (u' := T114.setTop (mkF m 318 #[.val (.int p0), .val (.int p1), .val (.int p2), .val (.int p3), .val (.int p4), .val (.int f0), .val (.int t0), .val (.int f1), .val (.int t1), .val (.int f2), .val (.int t2), .val (.int cc), .val (.ref b86), .val (.ref b94), .val (.int ac), .val (.ref b106), .unset] [(.int ac), (.int t2)])) (fun _ ks_ => XS.iload X114.here hx rfl (hb hby at_316) rfl  ks_) ?_
                      by_cases c318_63 : t2 = ac
                      ·
                        refine go (u' := T114.setTop (mkF m 321 #[.val (.int p0), .val (.int p1), .val (.int p2), .val (.int p3), .val (.int p4), .val (.int f0), .val (.int t0), .val (.int f1), .val (.int t1), .val (.int f2), .val (.int t2), .val (.int cc), .val (.ref b86), .val (.ref b94), .val (.int ac), .val (.ref b106), .unset] [])) (fun _ ks_ => XS.icmpNo X114.here hx rfl (hb hby at_318) rfl (teq c318_63).2 ks_) ?_
                        refine go (u' := T114.setTop (mkF m 322 #[.val (.int p0), .val (.int p1), .val (.int p2), .val (.int p3), .val (.int p4), .val (.int f0), .val (.int t0), .val (.int f1), .val (.int t1), .val (.int f2), .val (.int t2), .val (.int cc), .val (.ref b86), .val (.ref b94), .val (.int ac), .val (.ref b106), .unset] [(.int (1 : Int32))])) (fun _ ks_ => XS.iconst X114.here hx rfl (hb hby at_321) ks_) ?_
                        refine go (u' := T114.setTop (mkF m 326 #[.val (.int p0), .val (.int p1), .val (.int p2), .val (.int p3), .val (.int p4), .val (.int f0), .val (.int t0), .val (.int f1), .val (.int t1), .val (.int f2), .val (.int t2), .val (.int cc), .val (.ref b86), .val (.ref b94), .val (.int ac), .val (.ref b106), .unset] [(.int (1 : Int32))])) (fun _ ks_ => XS.goto X114.here hx rfl (pc0 := 322) (pc' := 326) rfl (hb hby at_322) (by decide) (by decide) ks_) ?_
                        exact J326_5 _ (B1 ⟨c279_49, (Or.inr ⟨c285_50, (Or.inr (Or.inr ⟨c298_58, (Or.inr ⟨c311_62, c318_63⟩)⟩))⟩)⟩)
                      ·
                        refine go (u' := T114.setTop (mkF m 325 #[.val (.int p0), .val (.int p1), .val (.int p2), .val (.int p3), .val (.int p4), .val (.int f0), .val (.int t0), .val (.int f1), .val (.int t1), .val (.int f2), .val (.int t2), .val (.int cc), .val (.ref b86), .val (.ref b94), .val (.int ac), .val (.ref b106), .unset] [])) (fun _ ks_ => XS.icmpYes X114.here hx rfl (pc0 := 318) (pc' := 325) rfl (hb hby at_318) rfl (feq c318_63).2 (by decide) (by decide) ks_) ?_
                        refine go (u' := T114.setTop (mkF m 326 #[.val (.int p0), .val (.int p1), .val (.int p2), .val (.int p3), .val (.int p4), .val (.int f0), .val (.int t0), .val (.int f1), .val (.int t1), .val (.int f2), .val (.int t2), .val (.int cc), .val (.ref b86), .val (.ref b94), .val (.int ac), .val (.ref b106), .unset] [(.int (0 : Int32))])) (fun _ ks_ => XS.iconst X114.here hx rfl (hb hby at_325) ks_) ?_
                        exact J326_5 _ (B0 (fun q => (fun q => q.elim (fun q => c285_50 q.1) (fun q => (fun q => q.elim c292_57 (fun q => q.elim (fun q => c298_58 q.1) (fun q => (fun q => q.elim c305_61 (fun q => c318_63 q.2)) q.2))) q.2)) q.2))
  refine go (u' := s₁.setTop (mkF m 70 #[.val (.int p0), .val (.int p1), .val (.int p2), .val (.int p3), .val (.int p4), .val (.int f0), .val (.int t0), .val (.int f1), .val (.int t1), .val (.int f2), .val (.int t2), .val (.int cc), .unset, .unset, .unset, .unset, .unset] [(.int cc)])) (fun _ ks_ => XS.iload X0.here hx rfl (hb hby at_68) rfl  ks_) ?_
  refine go (u' := s₁.setTop (mkF m 71 #[.val (.int p0), .val (.int p1), .val (.int p2), .val (.int p3), .val (.int p4), .val (.int f0), .val (.int t0), .val (.int f1), .val (.int t1), .val (.int f2), .val (.int t2), .val (.int cc), .unset, .unset, .unset, .unset, .unset] [(.int (2 : Int32)), (.int cc)])) (fun _ ks_ => XS.iconst X0.here hx rfl (hb hby at_70) ks_) ?_
  by_cases c71_64 : cc < (2 : Int32)
  ·
    refine go (u' := s₁.setTop (mkF m 90 #[.val (.int p0), .val (.int p1), .val (.int p2), .val (.int p3), .val (.int p4), .val (.int f0), .val (.int t0), .val (.int f1), .val (.int t1), .val (.int f2), .val (.int t2), .val (.int cc), .unset, .unset, .unset, .unset, .unset] [])) (fun _ ks_ => XS.icmpYes X0.here hx rfl (pc0 := 71) (pc' := 90) rfl (hb hby at_71) rfl (tlt c71_64).1 (by decide) (by decide) ks_) ?_
    refine go (u' := s₁.setTop (mkF m 92 #[.val (.int p0), .val (.int p1), .val (.int p2), .val (.int p3), .val (.int p4), .val (.int f0), .val (.int t0), .val (.int f1), .val (.int t1), .val (.int f2), .val (.int t2), .val (.int cc), .unset, .unset, .unset, .unset, .unset] [(.int cc)])) (fun _ ks_ => XS.iload X0.here hx rfl (hb hby at_90) rfl  ks_) ?_
    refine go (u' := s₁.setTop (mkF m 93 #[.val (.int p0), .val (.int p1), .val (.int p2), .val (.int p3), .val (.int p4), .val (.int f0), .val (.int t0), .val (.int f1), .val (.int t1), .val (.int f2), .val (.int t2), .val (.int cc), .unset, .unset, .unset, .unset, .unset] [(.int (3 : Int32)), (.int cc)])) (fun _ ks_ => XS.iconst X0.here hx rfl (hb hby at_92) ks_) ?_
    by_cases c93_65 : cc = (3 : Int32)
    ·
      refine go (u' := s₁.setTop (mkF m 96 #[.val (.int p0), .val (.int p1), .val (.int p2), .val (.int p3), .val (.int p4), .val (.int f0), .val (.int t0), .val (.int f1), .val (.int t1), .val (.int f2), .val (.int t2), .val (.int cc), .unset, .unset, .unset, .unset, .unset] [])) (fun _ ks_ => XS.icmpNo X0.here hx rfl (hb hby at_93) rfl (teq c93_65).2 ks_) ?_
      refine go (u' := s₁.setTop (mkF m 98 #[.val (.int p0), .val (.int p1), .val (.int p2), .val (.int p3), .val (.int p4), .val (.int f0), .val (.int t0), .val (.int f1), .val (.int t1), .val (.int f2), .val (.int t2), .val (.int cc), .unset, .unset, .unset, .unset, .unset] [(.int f0)])) (fun _ ks_ => XS.iload X0.here hx rfl (hb hby at_96) rfl  ks_) ?_
      refine go (u' := s₁.setTop (mkF m 100 #[.val (.int p0), .val (.int p1), .val (.int p2), .val (.int p3), .val (.int p4), .val (.int f0), .val (.int t0), .val (.int f1), .val (.int t1), .val (.int f2), .val (.int t2), .val (.int cc), .unset, .unset, .unset, .unset, .unset] [(.int t0), (.int f0)])) (fun _ ks_ => XS.iload X0.here hx rfl (hb hby at_98) rfl  ks_) ?_
      refine go (u' := s₁.setTop (mkF m 102 #[.val (.int p0), .val (.int p1), .val (.int p2), .val (.int p3), .val (.int p4), .val (.int f0), .val (.int t0), .val (.int f1), .val (.int t1), .val (.int f2), .val (.int t2), .val (.int cc), .unset, .unset, .unset, .unset, .unset] [(.int f2), (.int t0), (.int f0)])) (fun _ ks_ => XS.iload X0.here hx rfl (hb hby at_100) rfl  ks_) ?_
      refine go (u' := s₁.setTop (mkF m 104 #[.val (.int p0), .val (.int p1), .val (.int p2), .val (.int p3), .val (.int p4), .val (.int f0), .val (.int t0), .val (.int f1), .val (.int t1), .val (.int f2), .val (.int t2), .val (.int cc), .unset, .unset, .unset, .unset, .unset] [(.int t2), (.int f2), (.int t0), (.int f0)])) (fun _ ks_ => XS.iload X0.here hx rfl (hb hby at_102) rfl  ks_) ?_
      obtain ⟨_, _, ⟨T124, L124, k124, n124⟩, -, X124, ⟨Lc124, hQ124, l124, y124, z124⟩, st124⟩ := Jvm.LawKit.callS X0 hx (y := (⟨"com/example/traceweave/traceweave/pattern/NumberedPatternIsEnteredPinLaw", "same", "(IIII)Z"⟩ : MethodName)) hown (mvT hZ (ww hw 90 rfl)) (mvT hZ (ww hw 91 rfl)) (mvT hZ (ww hw 92 rfl)) (mvT hZ (ww hw 93 rfl)) (by decide) (backOf (W := 0) (rm16 l Z a0 hw [] f0 t0 f2 t2 h0 n0 Z0) hZ (ww hw 93 rfl) (ww hw 92 rfl) (by decide) (by decide)) (g := (mkF m 104 #[.val (.int p0), .val (.int p1), .val (.int p2), .val (.int p3), .val (.int p4), .val (.int f0), .val (.int t0), .val (.int f1), .val (.int t1), .val (.int f2), .val (.int t2), .val (.int cc), .unset, .unset, .unset, .unset, .unset] [(.int t2), (.int f2), (.int t0), (.int f0)])) rfl (by rw [hml]; rfl) (argsL := [(.int f0), (.int t0), (.int f2), (.int t2)]) (rest := []) (lenOf pd__40_IIII_41_Z rfl) rfl (by show 2 * 0 + _ ≤ _; exact Nat.le_of_eq rfl) (hb hby at_104) (fun _ _ => ⟨rfl, e0, (by decide : 0 + 0 ≤ _), (by decide : 0 + 0 ≤ _)⟩)
      dsimp only [Pt.U, Pt.locs, Pt.cells, Pt.slots] at X124 l124 y124 z124 st124 hQ124
      subst l124 y124 z124
      obtain ⟨rfl, N124q, eq124⟩ := hQ124
      have N124 := Fr.app N0 N124q
      refine go (u' := T124.setTop (mkF m 107 #[.val (.int p0), .val (.int p1), .val (.int p2), .val (.int p3), .val (.int p4), .val (.int f0), .val (.int t0), .val (.int f1), .val (.int t1), .val (.int f2), .val (.int t2), .val (.int cc), .unset, .unset, .unset, .unset, .unset] [(.int (B ((f0 = f2) ∧ (t0 = t2))))])) st124 ?_
      by_cases c107_66 : ((f0 = f2) ∧ (t0 = t2))
      ·
        refine go (u' := T124.setTop (mkF m 124 #[.val (.int p0), .val (.int p1), .val (.int p2), .val (.int p3), .val (.int p4), .val (.int f0), .val (.int t0), .val (.int f1), .val (.int t1), .val (.int f2), .val (.int t2), .val (.int cc), .unset, .unset, .unset, .unset, .unset] [])) (fun _ ks_ => XS.ifYes X124.here hx rfl (pc0 := 107) (pc' := 124) rfl (hb hby at_107) rfl (bT c107_66).1 (by decide) (by decide) ks_) ?_
        refine go (u' := T124.setTop (mkF m 125 #[.val (.int p0), .val (.int p1), .val (.int p2), .val (.int p3), .val (.int p4), .val (.int f0), .val (.int t0), .val (.int f1), .val (.int t1), .val (.int f2), .val (.int t2), .val (.int cc), .unset, .unset, .unset, .unset, .unset] [(.int (1 : Int32))])) (fun _ ks_ => XS.iconst X124.here hx rfl (hb hby at_124) ks_) ?_
        rw [hG]
        refine gN X124 hx hlk (t := .boolean) hret (by simp) rfl (hb hby at_125) ?_ (Nat.le_of_ble_eq_true rfl) (Nat.le_of_ble_eq_true rfl)
        show Q_rm0 Z p0 p1 p2 p3 p4 h0 n0 (some (.int (1 : Int32))) T124.heap _
        rw [eq124]
        exact ⟨rfl, N124⟩
      ·
        refine go (u' := T124.setTop (mkF m 110 #[.val (.int p0), .val (.int p1), .val (.int p2), .val (.int p3), .val (.int p4), .val (.int f0), .val (.int t0), .val (.int f1), .val (.int t1), .val (.int f2), .val (.int t2), .val (.int cc), .unset, .unset, .unset, .unset, .unset] [])) (fun _ ks_ => XS.ifNo X124.here hx rfl (hb hby at_107) rfl (bF c107_66).1 ks_) ?_
        refine go (u' := T124.setTop (mkF m 112 #[.val (.int p0), .val (.int p1), .val (.int p2), .val (.int p3), .val (.int p4), .val (.int f0), .val (.int t0), .val (.int f1), .val (.int t1), .val (.int f2), .val (.int t2), .val (.int cc), .unset, .unset, .unset, .unset, .unset] [(.int f1)])) (fun _ ks_ => XS.iload X124.here hx rfl (hb hby at_110) rfl  ks_) ?_
        refine go (u' := T124.setTop (mkF m 114 #[.val (.int p0), .val (.int p1), .val (.int p2), .val (.int p3), .val (.int p4), .val (.int f0), .val (.int t0), .val (.int f1), .val (.int t1), .val (.int f2), .val (.int t2), .val (.int cc), .unset, .unset, .unset, .unset, .unset] [(.int t1), (.int f1)])) (fun _ ks_ => XS.iload X124.here hx rfl (hb hby at_112) rfl  ks_) ?_
        refine go (u' := T124.setTop (mkF m 116 #[.val (.int p0), .val (.int p1), .val (.int p2), .val (.int p3), .val (.int p4), .val (.int f0), .val (.int t0), .val (.int f1), .val (.int t1), .val (.int f2), .val (.int t2), .val (.int cc), .unset, .unset, .unset, .unset, .unset] [(.int f2), (.int t1), (.int f1)])) (fun _ ks_ => XS.iload X124.here hx rfl (hb hby at_114) rfl  ks_) ?_
        refine go (u' := T124.setTop (mkF m 118 #[.val (.int p0), .val (.int p1), .val (.int p2), .val (.int p3), .val (.int p4), .val (.int f0), .val (.int t0), .val (.int f1), .val (.int t1), .val (.int f2), .val (.int t2), .val (.int cc), .unset, .unset, .unset, .unset, .unset] [(.int t2), (.int f2), (.int t1), (.int f1)])) (fun _ ks_ => XS.iload X124.here hx rfl (hb hby at_116) rfl  ks_) ?_
        obtain ⟨_, _, ⟨T125, L125, k125, n125⟩, -, X125, ⟨Lc125, hQ125, l125, y125, z125⟩, st125⟩ := Jvm.LawKit.callS X124 hx (y := (⟨"com/example/traceweave/traceweave/pattern/NumberedPatternIsEnteredPinLaw", "same", "(IIII)Z"⟩ : MethodName)) hown (mvT hZ (ww hw 90 rfl)) (mvT hZ (ww hw 91 rfl)) (mvT hZ (ww hw 92 rfl)) (mvT hZ (ww hw 93 rfl)) (by decide) (backOf (W := 0) (rm16 l Z a0 hw [] f1 t1 f2 t2 h0 n0 Z0) hZ (ww hw 93 rfl) (ww hw 92 rfl) (by decide) (by decide)) (g := (mkF m 118 #[.val (.int p0), .val (.int p1), .val (.int p2), .val (.int p3), .val (.int p4), .val (.int f0), .val (.int t0), .val (.int f1), .val (.int t1), .val (.int f2), .val (.int t2), .val (.int cc), .unset, .unset, .unset, .unset, .unset] [(.int t2), (.int f2), (.int t1), (.int f1)])) rfl (by rw [hml]; rfl) (argsL := [(.int f1), (.int t1), (.int f2), (.int t2)]) (rest := []) (lenOf pd__40_IIII_41_Z rfl) rfl (by show 2 * 0 + _ ≤ _; exact Nat.le_of_eq rfl) (hb hby at_118) (fun _ _ => ⟨rfl, eq124, (by decide : 0 + 0 ≤ _), (by decide : 0 + 0 ≤ _)⟩)
        dsimp only [Pt.U, Pt.locs, Pt.cells, Pt.slots] at X125 l125 y125 z125 st125 hQ125
        subst l125 y125 z125
        obtain ⟨rfl, N125q, eq125⟩ := hQ125
        have N125 := Fr.app N124 N125q
        refine go (u' := T125.setTop (mkF m 121 #[.val (.int p0), .val (.int p1), .val (.int p2), .val (.int p3), .val (.int p4), .val (.int f0), .val (.int t0), .val (.int f1), .val (.int t1), .val (.int f2), .val (.int t2), .val (.int cc), .unset, .unset, .unset, .unset, .unset] [(.int (B ((f1 = f2) ∧ (t1 = t2))))])) st125 ?_
        by_cases c121_67 : ((f1 = f2) ∧ (t1 = t2))
        ·
          refine go (u' := T125.setTop (mkF m 124 #[.val (.int p0), .val (.int p1), .val (.int p2), .val (.int p3), .val (.int p4), .val (.int f0), .val (.int t0), .val (.int f1), .val (.int t1), .val (.int f2), .val (.int t2), .val (.int cc), .unset, .unset, .unset, .unset, .unset] [])) (fun _ ks_ => XS.ifNo X125.here hx rfl (hb hby at_121) rfl (bT c121_67).2 ks_) ?_
          refine go (u' := T125.setTop (mkF m 125 #[.val (.int p0), .val (.int p1), .val (.int p2), .val (.int p3), .val (.int p4), .val (.int f0), .val (.int t0), .val (.int f1), .val (.int t1), .val (.int f2), .val (.int t2), .val (.int cc), .unset, .unset, .unset, .unset, .unset] [(.int (1 : Int32))])) (fun _ ks_ => XS.iconst X125.here hx rfl (hb hby at_124) ks_) ?_
          rw [hG]
          refine gN X125 hx hlk (t := .boolean) hret (by simp) rfl (hb hby at_125) ?_ (Nat.le_of_ble_eq_true rfl) (Nat.le_of_ble_eq_true rfl)
          show Q_rm0 Z p0 p1 p2 p3 p4 h0 n0 (some (.int (1 : Int32))) T125.heap _
          rw [eq125]
          exact ⟨rfl, N125⟩
        ·
          refine go (u' := T125.setTop (mkF m 126 #[.val (.int p0), .val (.int p1), .val (.int p2), .val (.int p3), .val (.int p4), .val (.int f0), .val (.int t0), .val (.int f1), .val (.int t1), .val (.int f2), .val (.int t2), .val (.int cc), .unset, .unset, .unset, .unset, .unset] [])) (fun _ ks_ => XS.ifYes X125.here hx rfl (pc0 := 121) (pc' := 126) rfl (hb hby at_121) rfl (bF c121_67).2 (by decide) (by decide) ks_) ?_
          exact C126_1 _ _ _ X125 eq125 N125 Z0 (Keep.refl h0 [])
    ·
      refine go (u' := s₁.setTop (mkF m 126 #[.val (.int p0), .val (.int p1), .val (.int p2), .val (.int p3), .val (.int p4), .val (.int f0), .val (.int t0), .val (.int f1), .val (.int t1), .val (.int f2), .val (.int t2), .val (.int cc), .unset, .unset, .unset, .unset, .unset] [])) (fun _ ks_ => XS.icmpYes X0.here hx rfl (pc0 := 93) (pc' := 126) rfl (hb hby at_93) rfl (feq c93_65).2 (by decide) (by decide) ks_) ?_
      exact C126_1 _ _ _ X0 e0 N0 Z0 (Keep.refl h0 [])
  ·
    refine go (u' := s₁.setTop (mkF m 74 #[.val (.int p0), .val (.int p1), .val (.int p2), .val (.int p3), .val (.int p4), .val (.int f0), .val (.int t0), .val (.int f1), .val (.int t1), .val (.int f2), .val (.int t2), .val (.int cc), .unset, .unset, .unset, .unset, .unset] [])) (fun _ ks_ => XS.icmpNo X0.here hx rfl (hb hby at_71) rfl (flt c71_64).1 ks_) ?_
    refine go (u' := s₁.setTop (mkF m 76 #[.val (.int p0), .val (.int p1), .val (.int p2), .val (.int p3), .val (.int p4), .val (.int f0), .val (.int t0), .val (.int f1), .val (.int t1), .val (.int f2), .val (.int t2), .val (.int cc), .unset, .unset, .unset, .unset, .unset] [(.int f0)])) (fun _ ks_ => XS.iload X0.here hx rfl (hb hby at_74) rfl  ks_) ?_
    refine go (u' := s₁.setTop (mkF m 78 #[.val (.int p0), .val (.int p1), .val (.int p2), .val (.int p3), .val (.int p4), .val (.int f0), .val (.int t0), .val (.int f1), .val (.int t1), .val (.int f2), .val (.int t2), .val (.int cc), .unset, .unset, .unset, .unset, .unset] [(.int t0), (.int f0)])) (fun _ ks_ => XS.iload X0.here hx rfl (hb hby at_76) rfl  ks_) ?_
    refine go (u' := s₁.setTop (mkF m 80 #[.val (.int p0), .val (.int p1), .val (.int p2), .val (.int p3), .val (.int p4), .val (.int f0), .val (.int t0), .val (.int f1), .val (.int t1), .val (.int f2), .val (.int t2), .val (.int cc), .unset, .unset, .unset, .unset, .unset] [(.int f1), (.int t0), (.int f0)])) (fun _ ks_ => XS.iload X0.here hx rfl (hb hby at_78) rfl  ks_) ?_
    refine go (u' := s₁.setTop (mkF m 82 #[.val (.int p0), .val (.int p1), .val (.int p2), .val (.int p3), .val (.int p4), .val (.int f0), .val (.int t0), .val (.int f1), .val (.int t1), .val (.int f2), .val (.int t2), .val (.int cc), .unset, .unset, .unset, .unset, .unset] [(.int t1), (.int f1), (.int t0), (.int f0)])) (fun _ ks_ => XS.iload X0.here hx rfl (hb hby at_80) rfl  ks_) ?_
    obtain ⟨_, _, ⟨T126, L126, k126, n126⟩, -, X126, ⟨Lc126, hQ126, l126, y126, z126⟩, st126⟩ := Jvm.LawKit.callS X0 hx (y := (⟨"com/example/traceweave/traceweave/pattern/NumberedPatternIsEnteredPinLaw", "same", "(IIII)Z"⟩ : MethodName)) hown (mvT hZ (ww hw 90 rfl)) (mvT hZ (ww hw 91 rfl)) (mvT hZ (ww hw 92 rfl)) (mvT hZ (ww hw 93 rfl)) (by decide) (backOf (W := 0) (rm16 l Z a0 hw [] f0 t0 f1 t1 h0 n0 Z0) hZ (ww hw 93 rfl) (ww hw 92 rfl) (by decide) (by decide)) (g := (mkF m 82 #[.val (.int p0), .val (.int p1), .val (.int p2), .val (.int p3), .val (.int p4), .val (.int f0), .val (.int t0), .val (.int f1), .val (.int t1), .val (.int f2), .val (.int t2), .val (.int cc), .unset, .unset, .unset, .unset, .unset] [(.int t1), (.int f1), (.int t0), (.int f0)])) rfl (by rw [hml]; rfl) (argsL := [(.int f0), (.int t0), (.int f1), (.int t1)]) (rest := []) (lenOf pd__40_IIII_41_Z rfl) rfl (by show 2 * 0 + _ ≤ _; exact Nat.le_of_eq rfl) (hb hby at_82) (fun _ _ => ⟨rfl, e0, (by decide : 0 + 0 ≤ _), (by decide : 0 + 0 ≤ _)⟩)
    dsimp only [Pt.U, Pt.locs, Pt.cells, Pt.slots] at X126 l126 y126 z126 st126 hQ126
    subst l126 y126 z126
    obtain ⟨rfl, N126q, eq126⟩ := hQ126
    have N126 := Fr.app N0 N126q
    refine go (u' := T126.setTop (mkF m 85 #[.val (.int p0), .val (.int p1), .val (.int p2), .val (.int p3), .val (.int p4), .val (.int f0), .val (.int t0), .val (.int f1), .val (.int t1), .val (.int f2), .val (.int t2), .val (.int cc), .unset, .unset, .unset, .unset, .unset] [(.int (B ((f0 = f1) ∧ (t0 = t1))))])) st126 ?_
    by_cases c85_68 : ((f0 = f1) ∧ (t0 = t1))
    ·
      refine go (u' := T126.setTop (mkF m 88 #[.val (.int p0), .val (.int p1), .val (.int p2), .val (.int p3), .val (.int p4), .val (.int f0), .val (.int t0), .val (.int f1), .val (.int t1), .val (.int f2), .val (.int t2), .val (.int cc), .unset, .unset, .unset, .unset, .unset] [])) (fun _ ks_ => XS.ifNo X126.here hx rfl (hb hby at_85) rfl (bT c85_68).2 ks_) ?_
      refine go (u' := T126.setTop (mkF m 89 #[.val (.int p0), .val (.int p1), .val (.int p2), .val (.int p3), .val (.int p4), .val (.int f0), .val (.int t0), .val (.int f1), .val (.int t1), .val (.int f2), .val (.int t2), .val (.int cc), .unset, .unset, .unset, .unset, .unset] [(.int (1 : Int32))])) (fun _ ks_ => XS.iconst X126.here hx rfl (hb hby at_88) ks_) ?_
      rw [hG]
      refine gN X126 hx hlk (t := .boolean) hret (by simp) rfl (hb hby at_89) ?_ (Nat.le_of_ble_eq_true rfl) (Nat.le_of_ble_eq_true rfl)
      show Q_rm0 Z p0 p1 p2 p3 p4 h0 n0 (some (.int (1 : Int32))) T126.heap _
      rw [eq126]
      exact ⟨rfl, N126⟩
    ·
      refine go (u' := T126.setTop (mkF m 90 #[.val (.int p0), .val (.int p1), .val (.int p2), .val (.int p3), .val (.int p4), .val (.int f0), .val (.int t0), .val (.int f1), .val (.int t1), .val (.int f2), .val (.int t2), .val (.int cc), .unset, .unset, .unset, .unset, .unset] [])) (fun _ ks_ => XS.ifYes X126.here hx rfl (pc0 := 85) (pc' := 90) rfl (hb hby at_85) rfl (bF c85_68).2 (by decide) (by decide) ks_) ?_
      refine go (u' := T126.setTop (mkF m 92 #[.val (.int p0), .val (.int p1), .val (.int p2), .val (.int p3), .val (.int p4), .val (.int f0), .val (.int t0), .val (.int f1), .val (.int t1), .val (.int f2), .val (.int t2), .val (.int cc), .unset, .unset, .unset, .unset, .unset] [(.int cc)])) (fun _ ks_ => XS.iload X126.here hx rfl (hb hby at_90) rfl  ks_) ?_
      refine go (u' := T126.setTop (mkF m 93 #[.val (.int p0), .val (.int p1), .val (.int p2), .val (.int p3), .val (.int p4), .val (.int f0), .val (.int t0), .val (.int f1), .val (.int t1), .val (.int f2), .val (.int t2), .val (.int cc), .unset, .unset, .unset, .unset, .unset] [(.int (3 : Int32)), (.int cc)])) (fun _ ks_ => XS.iconst X126.here hx rfl (hb hby at_92) ks_) ?_
      by_cases c93_69 : cc = (3 : Int32)
      ·
        refine go (u' := T126.setTop (mkF m 96 #[.val (.int p0), .val (.int p1), .val (.int p2), .val (.int p3), .val (.int p4), .val (.int f0), .val (.int t0), .val (.int f1), .val (.int t1), .val (.int f2), .val (.int t2), .val (.int cc), .unset, .unset, .unset, .unset, .unset] [])) (fun _ ks_ => XS.icmpNo X126.here hx rfl (hb hby at_93) rfl (teq c93_69).2 ks_) ?_
        refine go (u' := T126.setTop (mkF m 98 #[.val (.int p0), .val (.int p1), .val (.int p2), .val (.int p3), .val (.int p4), .val (.int f0), .val (.int t0), .val (.int f1), .val (.int t1), .val (.int f2), .val (.int t2), .val (.int cc), .unset, .unset, .unset, .unset, .unset] [(.int f0)])) (fun _ ks_ => XS.iload X126.here hx rfl (hb hby at_96) rfl  ks_) ?_
        refine go (u' := T126.setTop (mkF m 100 #[.val (.int p0), .val (.int p1), .val (.int p2), .val (.int p3), .val (.int p4), .val (.int f0), .val (.int t0), .val (.int f1), .val (.int t1), .val (.int f2), .val (.int t2), .val (.int cc), .unset, .unset, .unset, .unset, .unset] [(.int t0), (.int f0)])) (fun _ ks_ => XS.iload X126.here hx rfl (hb hby at_98) rfl  ks_) ?_
        refine go (u' := T126.setTop (mkF m 102 #[.val (.int p0), .val (.int p1), .val (.int p2), .val (.int p3), .val (.int p4), .val (.int f0), .val (.int t0), .val (.int f1), .val (.int t1), .val (.int f2), .val (.int t2), .val (.int cc), .unset, .unset, .unset, .unset, .unset] [(.int f2), (.int t0), (.int f0)])) (fun _ ks_ => XS.iload X126.here hx rfl (hb hby at_100) rfl  ks_) ?_
        refine go (u' := T126.setTop (mkF m 104 #[.val (.int p0), .val (.int p1), .val (.int p2), .val (.int p3), .val (.int p4), .val (.int f0), .val (.int t0), .val (.int f1), .val (.int t1), .val (.int f2), .val (.int t2), .val (.int cc), .unset, .unset, .unset, .unset, .unset] [(.int t2), (.int f2), (.int t0), (.int f0)])) (fun _ ks_ => XS.iload X126.here hx rfl (hb hby at_102) rfl  ks_) ?_
        obtain ⟨_, _, ⟨T127, L127, k127, n127⟩, -, X127, ⟨Lc127, hQ127, l127, y127, z127⟩, st127⟩ := Jvm.LawKit.callS X126 hx (y := (⟨"com/example/traceweave/traceweave/pattern/NumberedPatternIsEnteredPinLaw", "same", "(IIII)Z"⟩ : MethodName)) hown (mvT hZ (ww hw 90 rfl)) (mvT hZ (ww hw 91 rfl)) (mvT hZ (ww hw 92 rfl)) (mvT hZ (ww hw 93 rfl)) (by decide) (backOf (W := 0) (rm16 l Z a0 hw [] f0 t0 f2 t2 h0 n0 Z0) hZ (ww hw 93 rfl) (ww hw 92 rfl) (by decide) (by decide)) (g := (mkF m 104 #[.val (.int p0), .val (.int p1), .val (.int p2), .val (.int p3), .val (.int p4), .val (.int f0), .val (.int t0), .val (.int f1), .val (.int t1), .val (.int f2), .val (.int t2), .val (.int cc), .unset, .unset, .unset, .unset, .unset] [(.int t2), (.int f2), (.int t0), (.int f0)])) rfl (by rw [hml]; rfl) (argsL := [(.int f0), (.int t0), (.int f2), (.int t2)]) (rest := []) (lenOf pd__40_IIII_41_Z rfl) rfl (by show 2 * 0 + _ ≤ _; exact Nat.le_of_eq rfl) (hb hby at_104) (fun _ _ => ⟨rfl, eq126, (by decide : 0 + 0 ≤ _), (by decide : 0 + 0 ≤ _)⟩)
        dsimp only [Pt.U, Pt.locs, Pt.cells, Pt.slots] at X127 l127 y127 z127 st127 hQ127
        subst l127 y127 z127
        obtain ⟨rfl, N127q, eq127⟩ := hQ127
        have N127 := Fr.app N126 N127q
        refine go (u' := T127.setTop (mkF m 107 #[.val (.int p0), .val (.int p1), .val (.int p2), .val (.int p3), .val (.int p4), .val (.int f0), .val (.int t0), .val (.int f1), .val (.int t1), .val (.int f2), .val (.int t2), .val (.int cc), .unset, .unset, .unset, .unset, .unset] [(.int (B ((f0 = f2) ∧ (t0 = t2))))])) st127 ?_
        by_cases c107_70 : ((f0 = f2) ∧ (t0 = t2))
        ·
          refine go (u' := T127.setTop (mkF m 124 #[.val (.int p0), .val (.int p1), .val (.int p2), .val (.int p3), .val (.int p4), .val (.int f0), .val (.int t0), .val (.int f1), .val (.int t1), .val (.int f2), .val (.int t2), .val (.int cc), .unset, .unset, .unset, .unset, .unset] [])) (fun _ ks_ => XS.ifYes X127.here hx rfl (pc0 := 107) (pc' := 124) rfl (hb hby at_107) rfl (bT c107_70).1 (by decide) (by decide) ks_) ?_
          refine go (u' := T127.setTop (mkF m 125 #[.val (.int p0), .val (.int p1), .val (.int p2), .val (.int p3), .val (.int p4), .val (.int f0), .val (.int t0), .val (.int f1), .val (.int t1), .val (.int f2), .val (.int t2), .val (.int cc), .unset, .unset, .unset, .unset, .unset] [(.int (1 : Int32))])) (fun _ ks_ => XS.iconst X127.here hx rfl (hb hby at_124) ks_) ?_
          rw [hG]
          refine gN X127 hx hlk (t := .boolean) hret (by simp) rfl (hb hby at_125) ?_ (Nat.le_of_ble_eq_true rfl) (Nat.le_of_ble_eq_true rfl)
          show Q_rm0 Z p0 p1 p2 p3 p4 h0 n0 (some (.int (1 : Int32))) T127.heap _
          rw [eq127]
          exact ⟨rfl, N127⟩
        ·
          refine go (u' := T127.setTop (mkF m 110 #[.val (.int p0), .val (.int p1), .val (.int p2), .val (.int p3), .val (.int p4), .val (.int f0), .val (.int t0), .val (.int f1), .val (.int t1), .val (.int f2), .val (.int t2), .val (.int cc), .unset, .unset, .unset, .unset, .unset] [])) (fun _ ks_ => XS.ifNo X127.here hx rfl (hb hby at_107) rfl (bF c107_70).1 ks_) ?_
          refine go (u' := T127.setTop (mkF m 112 #[.val (.int p0), .val (.int p1), .val (.int p2), .val (.int p3), .val (.int p4), .val (.int f0), .val (.int t0), .val (.int f1), .val (.int t1), .val (.int f2), .val (.int t2), .val (.int cc), .unset, .unset, .unset, .unset, .unset] [(.int f1)])) (fun _ ks_ => XS.iload X127.here hx rfl (hb hby at_110) rfl  ks_) ?_
          refine go (u' := T127.setTop (mkF m 114 #[.val (.int p0), .val (.int p1), .val (.int p2), .val (.int p3), .val (.int p4), .val (.int f0), .val (.int t0), .val (.int f1), .val (.int t1), .val (.int f2), .val (.int t2), .val (.int cc), .unset, .unset, .unset, .unset, .unset] [(.int t1), (.int f1)])) (fun _ ks_ => XS.iload X127.here hx rfl (hb hby at_112) rfl  ks_) ?_
          refine go (u' := T127.setTop (mkF m 116 #[.val (.int p0), .val (.int p1), .val (.int p2), .val (.int p3), .val (.int p4), .val (.int f0), .val (.int t0), .val (.int f1), .val (.int t1), .val (.int f2), .val (.int t2), .val (.int cc), .unset, .unset, .unset, .unset, .unset] [(.int f2), (.int t1), (.int f1)])) (fun _ ks_ => XS.iload X127.here hx rfl (hb hby at_114) rfl  ks_) ?_
          refine go (u' := T127.setTop (mkF m 118 #[.val (.int p0), .val (.int p1), .val (.int p2), .val (.int p3), .val (.int p4), .val (.int f0), .val (.int t0), .val (.int f1), .val (.int t1), .val (.int f2), .val (.int t2), .val (.int cc), .unset, .unset, .unset, .unset, .unset] [(.int t2), (.int f2), (.int t1), (.int f1)])) (fun _ ks_ => XS.iload X127.here hx rfl (hb hby at_116) rfl  ks_) ?_
          obtain ⟨_, _, ⟨T128, L128, k128, n128⟩, -, X128, ⟨Lc128, hQ128, l128, y128, z128⟩, st128⟩ := Jvm.LawKit.callS X127 hx (y := (⟨"com/example/traceweave/traceweave/pattern/NumberedPatternIsEnteredPinLaw", "same", "(IIII)Z"⟩ : MethodName)) hown (mvT hZ (ww hw 90 rfl)) (mvT hZ (ww hw 91 rfl)) (mvT hZ (ww hw 92 rfl)) (mvT hZ (ww hw 93 rfl)) (by decide) (backOf (W := 0) (rm16 l Z a0 hw [] f1 t1 f2 t2 h0 n0 Z0) hZ (ww hw 93 rfl) (ww hw 92 rfl) (by decide) (by decide)) (g := (mkF m 118 #[.val (.int p0), .val (.int p1), .val (.int p2), .val (.int p3), .val (.int p4), .val (.int f0), .val (.int t0), .val (.int f1), .val (.int t1), .val (.int f2), .val (.int t2), .val (.int cc), .unset, .unset, .unset, .unset, .unset] [(.int t2), (.int f2), (.int t1), (.int f1)])) rfl (by rw [hml]; rfl) (argsL := [(.int f1), (.int t1), (.int f2), (.int t2)]) (rest := []) (lenOf pd__40_IIII_41_Z rfl) rfl (by show 2 * 0 + _ ≤ _; exact Nat.le_of_eq rfl) (hb hby at_118) (fun _ _ => ⟨rfl, eq127, (by decide : 0 + 0 ≤ _), (by decide : 0 + 0 ≤ _)⟩)
          dsimp only [Pt.U, Pt.locs, Pt.cells, Pt.slots] at X128 l128 y128 z128 st128 hQ128
          subst l128 y128 z128
          obtain ⟨rfl, N128q, eq128⟩ := hQ128
          have N128 := Fr.app N127 N128q
          refine go (u' := T128.setTop (mkF m 121 #[.val (.int p0), .val (.int p1), .val (.int p2), .val (.int p3), .val (.int p4), .val (.int f0), .val (.int t0), .val (.int f1), .val (.int t1), .val (.int f2), .val (.int t2), .val (.int cc), .unset, .unset, .unset, .unset, .unset] [(.int (B ((f1 = f2) ∧ (t1 = t2))))])) st128 ?_
          by_cases c121_71 : ((f1 = f2) ∧ (t1 = t2))
          ·
            refine go (u' := T128.setTop (mkF m 124 #[.val (.int p0), .val (.int p1), .val (.int p2), .val (.int p3), .val (.int p4), .val (.int f0), .val (.int t0), .val (.int f1), .val (.int t1), .val (.int f2), .val (.int t2), .val (.int cc), .unset, .unset, .unset, .unset, .unset] [])) (fun _ ks_ => XS.ifNo X128.here hx rfl (hb hby at_121) rfl (bT c121_71).2 ks_) ?_
            refine go (u' := T128.setTop (mkF m 125 #[.val (.int p0), .val (.int p1), .val (.int p2), .val (.int p3), .val (.int p4), .val (.int f0), .val (.int t0), .val (.int f1), .val (.int t1), .val (.int f2), .val (.int t2), .val (.int cc), .unset, .unset, .unset, .unset, .unset] [(.int (1 : Int32))])) (fun _ ks_ => XS.iconst X128.here hx rfl (hb hby at_124) ks_) ?_
            rw [hG]
            refine gN X128 hx hlk (t := .boolean) hret (by simp) rfl (hb hby at_125) ?_ (Nat.le_of_ble_eq_true rfl) (Nat.le_of_ble_eq_true rfl)
            show Q_rm0 Z p0 p1 p2 p3 p4 h0 n0 (some (.int (1 : Int32))) T128.heap _
            rw [eq128]
            exact ⟨rfl, N128⟩
          ·
            refine go (u' := T128.setTop (mkF m 126 #[.val (.int p0), .val (.int p1), .val (.int p2), .val (.int p3), .val (.int p4), .val (.int f0), .val (.int t0), .val (.int f1), .val (.int t1), .val (.int f2), .val (.int t2), .val (.int cc), .unset, .unset, .unset, .unset, .unset] [])) (fun _ ks_ => XS.ifYes X128.here hx rfl (pc0 := 121) (pc' := 126) rfl (hb hby at_121) rfl (bF c121_71).2 (by decide) (by decide) ks_) ?_
            exact C126_1 _ _ _ X128 eq128 N128 Z0 (Keep.refl h0 [])
      ·
        refine go (u' := T126.setTop (mkF m 126 #[.val (.int p0), .val (.int p1), .val (.int p2), .val (.int p3), .val (.int p4), .val (.int f0), .val (.int t0), .val (.int f1), .val (.int t1), .val (.int f2), .val (.int t2), .val (.int cc), .unset, .unset, .unset, .unset, .unset] [])) (fun _ ks_ => XS.icmpYes X126.here hx rfl (pc0 := 93) (pc' := 126) rfl (hb hby at_93) rfl (feq c93_69).2 (by decide) (by decide) ks_) ?_
        exact C126_1 _ _ _ X126 eq126 N126 Z0 (Keep.refl h0 [])
set_option maxRecDepth 65536 in
set_option maxHeartbeats 40000000 in
theorem comes_1 {Post : Tables → Env → Array Value → State → Outcome → State → Prop} (hpost : ∀ tb e args s v u, (limb_1_1.after args s (.returned v) u = true ∧ limb_1_2.after args s (.returned v) u = true ∧ True) → FrameEnd s (.returned v) u (Jvm.fieldLocs frame_1_writes args s ++ Jvm.arrayLocs frame_1_arrays args s ++ Jvm.staticLocs frame_1_statics s) 40 192 → Post tb e args s (.returned v) u) :
    ArmFor flags0 classFile x code maxLocals ret World_1 tables_1 room_1 Calls_1 rest_1 Pre_1 Post := by
  intro l hfl _ _ p e ha hc hk s m args below hf hA hF happ hP
  obtain ⟨hcalls, hrest, hpre⟩ := hP
  obtain ⟨-, -, -, hnamed, -, -, -, hat⟩ := (Spec.applies_iff hf).mp happ
  obtain ⟨hg, hn⟩ := and_e (Cond.before_iff.mp (show (Jvm.Cond.and given_1 narrow_1).before args s = true from hpre))
  obtain ⟨hcount, r0⟩ := and_e hg
  obtain ⟨a0, r1⟩ := and_e r0
  obtain ⟨a1, r2⟩ := and_e r1
  obtain ⟨a2, r3⟩ := and_e r2
  obtain ⟨a3, r4⟩ := and_e r3
  obtain ⟨w0, w1, w2, w3, w4, rfl⟩ : ∃ w0 w1 w2 w3 w4 : Value, args = #[w0, w1, w2, w3, w4] := by
    have hs : args.size = 5 := by simpa [Cond.value, given_1] using hcount
    obtain ⟨L⟩ := args
    match L, hs with
    | [w0, w1, w2, w3, w4], _ => exact ⟨w0, w1, w2, w3, w4, rfl⟩
  have hw := fun d (hd : d ∈ tables_1) => atoms_spec (ws := Jvm.Cond.code x code maxLocals ret :: tables_1) hat d (List.mem_cons_of_mem _ hd)
  have hfit : Fit s := fun {y c} hc i hi => by
    obtain ⟨ha, rfl⟩ := Array.getElem?_eq_some_iff.mp hc
    have q := List.all_eq_true.mp ((Array.all_eq_true_iff_forall_mem.mp hF) _ (Array.getElem_mem ha)) i (List.mem_range.mpr hi)
    simpa [Array.getElem?_eq_getElem hi] using q
  obtain ⟨x0, e0⟩ := is_v a0
  obtain rfl : w0 = (.int x0) := Option.some.inj e0
  obtain ⟨x1, e1⟩ := is_v a1
  obtain rfl : w1 = (.int x1) := Option.some.inj e1
  obtain ⟨x2, e2⟩ := is_v a2
  obtain rfl : w2 = (.int x2) := Option.some.inj e2
  obtain ⟨x3, e3⟩ := is_v a3
  obtain rfl : w3 = (.int x3) := Option.some.inj e3
  obtain ⟨x4, e4⟩ := is_v r4
  obtain rfl : w4 = (.int x4) := Option.some.inj e4
  obtain ⟨n, o, h1, h2, h3, _, L, rfl, ⟨rfl, N⟩, hq⟩ := rm0 l s _ hw tables_1 x0 x1 x2 x3 x4 s.heap s.heap.size (Nat.le_refl _)  p e ha hc hk s m _ below hf ((Spec.applies_iff_loose hf).mp happ).1 ⟨rfl, State.Warmed39.refl s, rfl⟩ trivial
  refine ⟨n, _, h1, h2, h3, hpost _ _ _ _ _ _ ⟨Cond.after_iff.mpr rfl, Cond.after_iff.mpr (eq_i res_at (Term.int_eval (1)) rfl), trivial⟩ ⟨hq.1, hq.2.1, (hq.2.2.sift fun y hy => Or.inr (N y hy)).mono (by decide) (by decide)⟩⟩
theorem main_1_1 : Claimed_1_1 := comes_1 fun _ _ _ _ _ _ h hF => ⟨h.1, hF⟩
theorem main_1_2 : Claimed_1_2 := comes_1 fun _ _ _ _ _ _ h hF => ⟨h.2.1, hF⟩
end Jvm.Pilot.@@N@@
namespace Jvm.Pilot.@@N@@
open Jvm Jvm.ClassFile Sem Op Lib Jvm.Free Jvm.Stand Jvm.Pilot.@@N@@.Jvm.D
/-! MADE BY PROGRAM (witnessworld.py) out of the Statement's table words and the real class files: 17 classes; the members and pool entries that the words name. The judged class is class 1, her method 2. -/
namespace start1
open Jvm.ClassFile
def u (s : String) : CpInfo := .utf8 (stringToUtf16 s)
/-- a pool by its gaps: so many unusable entries, then the entry; so many at the end -/
def gap : Nat → List CpInfo → List CpInfo
  | 0, r => r
  | n + 1, r => .unusable :: gap n r
def poolList (es : List (Nat × CpInfo)) (last : Nat) : List CpInfo := es.foldr (fun e r => gap e.1 (e.2 :: r)) (gap last [])
def pool (es : List (Nat × CpInfo)) (last : Nat) : Array CpInfo := ⟨poolList es last⟩
def fileOf (pool : Array CpInfo) (this : Nat) (attrs : Array Attribute := #[]) (ms : Array MethodInfo := #[]) (fl : Nat := 33) (sup : Nat := 0) (ifs : Array Nat := #[]) (fds : Array FieldInfo := #[]) : ClassFile where
  minorVersion := 0
  majorVersion := 65
  constantPool := pool
  accessFlags := fl
  thisClass := this
  superClass := sup
  interfaces := ifs
  fields := fds
  methods := ms
  attributes := attrs
def plain (name : String) (sup : Option ClassId) : Class where
  name := name
  kind := .ordinary
  loader := none
  accessFlags := 33
  super := sup
  interfaces := #[]
  cf := none
  fields := #[]
  methods := #[]
  instanceTypes := #[]
  staticTypes := #[]
  resolved := #[]
  callSites := []
  init := .initialized
  statics := none
  mirror := none

def pool0 : Array CpInfo := pool [(5, u "<init>"), (0, u "()V"), (1, .class_ 10), (1, u "java/lang/Object")] 113

def k0c0 : Code := { maxStack := 0, maxLocals := 1, code := object_method_1_code, exceptionTable := #[], attributes := #[] }
def k0m0 : Method := { name := "<init>", desc := "()V", sig := { parameters := [], returnType := none }, accessFlags := 1, code := some k0c0 }
/-- java/lang/Object -/
def k0 : Class := { plain "java/lang/Object" none with
  accessFlags := 33
  interfaces := #[]
  cf := some (fileOf pool0 8 #[] #[{ accessFlags := 1, nameIndex := 5, descriptorIndex := 6, attributes := #[] }] 33 0 #[] #[])
  fields := #[]
  methods := #[k0m0]
  instanceTypes := #[]
  staticTypes := #[]
  resolved := Array.replicate 124 none
  statics := none }

def pool1 : Array CpInfo := pool [(2, .class_ 4), (1, u "java/lang/Object"), (0, u "<init>"), (0, u "()V"), (0, .methodref 8 9), (0, .class_ 10), (0, .nameAndType 11 12), (0, u "com/example/traceweave/traceweave/pattern/NumberedPatternIsEnteredPinLaw"), (0, u "same"), (0, u "(IIII)Z"), (0, .integer 2147483647), (0, .class_ 15), (0, u "com/example/traceweave/traceweave/pattern/NumberedPattern"), (0, .methodref 14 17), (0, .nameAndType 5 18), (0, u "(I[I[I)V"), (0, .methodref 14 20), (0, .nameAndType 21 22), (0, u "isEntered"), (0, u "(I)Z"), (3, u "law"), (0, u "(IIIII)Z")] 4

def k1m0 : Method := { name := "<init>", desc := "()V", sig := { parameters := [], returnType := none }, accessFlags := 1, code := none }
def k1c1 : Code := { maxStack := 2, maxLocals := 4, code := method_2_code, exceptionTable := #[], attributes := #[] }
def k1m1 : Method := { name := "same", desc := "(IIII)Z", sig := { parameters := [.int, .int, .int, .int], returnType := some .boolean }, accessFlags := 10, code := some k1c1 }
def k1c2 : Code := { maxStack := 5, maxLocals := 17, code := code, exceptionTable := #[], attributes := #[] }
def k1m2 : Method := { name := "law", desc := "(IIIII)Z", sig := { parameters := [.int, .int, .int, .int, .int], returnType := some .boolean }, accessFlags := 9, code := some k1c2 }
/-- com/example/traceweave/traceweave/pattern/NumberedPatternIsEnteredPinLaw -/
def k1 : Class := { plain "com/example/traceweave/traceweave/pattern/NumberedPatternIsEnteredPinLaw" (some 0) with
  accessFlags := 49
  interfaces := #[]
  cf := some (fileOf pool1 8 #[] #[{ accessFlags := 1, nameIndex := 5, descriptorIndex := 6, attributes := #[] }, { accessFlags := 10, nameIndex := 11, descriptorIndex := 12, attributes := #[] }, { accessFlags := 9, nameIndex := 26, descriptorIndex := 27, attributes := #[] }] 49 2 #[] #[])
  fields := #[]
  methods := #[k1m0, k1m1, k1m2]
  instanceTypes := #[]
  staticTypes := #[]
  resolved := Array.replicate 32 none
  statics := none }

def pool2 : Array CpInfo := pool [(1, .class_ 2), (0, u "java/util/BitSet"), (0, .methodref 1 4), (0, .nameAndType 5 6), (0, u "<init>"), (0, u "()V"), (0, .methodref 8 9), (0, .class_ 10), (0, .nameAndType 5 11), (0, u "com/example/traceweave/traceweave/pattern/NumberedPattern"), (0, u "(I[I[ILjava/util/BitSet;Ljava/util/BitSet;)V"), (0, .methodref 13 4), (0, .class_ 14), (0, u "java/lang/Object"), (0, .fieldref 8 16), (0, .nameAndType 17 18), (0, u "activities"), (0, u "I"), (0, .class_ 20), (0, u "com/example/traceweave/traceweave/pattern/NumberedPattern$Adjacency"), (0, .methodref 19 22), (0, .nameAndType 5 23), (0, u "(I[I[I)V"), (0, .fieldref 8 25), (0, .nameAndType 26 27), (0, u "leaving"), (0, u "Lcom/example/traceweave/traceweave/pattern/NumberedPattern$Adjacency;"), (0, .fieldref 8 29), (0, .nameAndType 30 27), (0, u "entering"), (0, .fieldref 8 32), (0, .nameAndType 33 34), (0, u "openInputs"), (0, u "Ljava/util/BitSet;"), (0, .fieldref 8 36), (0, .nameAndType 37 34), (0, u "openOutputs"), (40, u "isEmpty"), (22, u "isEntered"), (0, u "(I)Z"), (46, .methodref 19 150), (0, .nameAndType 78 102), (0, u "ABSENT"), (2, u "JOINABLE")] 50

def k2c0 : Code := { maxStack := 7, maxLocals := 4, code := prog_42_method_1_code, exceptionTable := #[], attributes := #[] }
def k2m0 : Method := { name := "<init>", desc := "(I[I[I)V", sig := { parameters := [.int, (.array .int), (.array .int)], returnType := none }, accessFlags := 1, code := some k2c0 }
def k2c1 : Code := { maxStack := 6, maxLocals := 6, code := prog_42_method_2_code, exceptionTable := #[], attributes := #[] }
def k2m1 : Method := { name := "<init>", desc := "(I[I[ILjava/util/BitSet;Ljava/util/BitSet;)V", sig := { parameters := [.int, (.array .int), (.array .int), (.object "java/util/BitSet"), (.object "java/util/BitSet")], returnType := none }, accessFlags := 1, code := some k2c1 }
def k2c2 : Code := { maxStack := 2, maxLocals := 2, code := prog_42_method_8_code, exceptionTable := #[], attributes := #[] }
def k2m2 : Method := { name := "isEntered", desc := "(I)Z", sig := { parameters := [.int], returnType := some .boolean }, accessFlags := 0, code := some k2c2 }
/-- com/example/traceweave/traceweave/pattern/NumberedPattern -/
def k2 : Class := { plain "com/example/traceweave/traceweave/pattern/NumberedPattern" (some 0) with
  accessFlags := 49
  interfaces := #[]
  cf := some (fileOf pool2 8 #[.nestMembers #[19]] #[{ accessFlags := 1, nameIndex := 5, descriptorIndex := 23, attributes := #[] }, { accessFlags := 1, nameIndex := 5, descriptorIndex := 11, attributes := #[] }, { accessFlags := 0, nameIndex := 101, descriptorIndex := 102, attributes := #[] }] 49 13 #[] #[{ accessFlags := 25, nameIndex := 151, descriptorIndex := 18, attributes := #[] }, { accessFlags := 25, nameIndex := 154, descriptorIndex := 18, attributes := #[] }, { accessFlags := 18, nameIndex := 17, descriptorIndex := 18, attributes := #[] }, { accessFlags := 18, nameIndex := 26, descriptorIndex := 27, attributes := #[] }, { accessFlags := 18, nameIndex := 30, descriptorIndex := 27, attributes := #[] }, { accessFlags := 18, nameIndex := 33, descriptorIndex := 34, attributes := #[] }, { accessFlags := 18, nameIndex := 37, descriptorIndex := 34, attributes := #[] }])
  fields := #[{ name := "ABSENT", type := .int, accessFlags := 25, slot := 0, constantValue := 0 }, { name := "JOINABLE", type := .int, accessFlags := 25, slot := 1, constantValue := 0 }, { name := "activities", type := .int, accessFlags := 18, slot := 0, constantValue := 0 }, { name := "leaving", type := (.object "com/example/traceweave/traceweave/pattern/NumberedPattern$Adjacency"), accessFlags := 18, slot := 1, constantValue := 0 }, { name := "entering", type := (.object "com/example/traceweave/traceweave/pattern/NumberedPattern$Adjacency"), accessFlags := 18, slot := 2, constantValue := 0 }, { name := "openInputs", type := (.object "java/util/BitSet"), accessFlags := 18, slot := 3, constantValue := 0 }, { name := "openOutputs", type := (.object "java/util/BitSet"), accessFlags := 18, slot := 4, constantValue := 0 }]
  methods := #[k2m0, k2m1, k2m2]
  instanceTypes := #[.int, (.object "com/example/traceweave/traceweave/pattern/NumberedPattern$Adjacency"), (.object "com/example/traceweave/traceweave/pattern/NumberedPattern$Adjacency"), (.object "java/util/BitSet"), (.object "java/util/BitSet")]
  staticTypes := #[.int, .int]
  resolved := Array.replicate 205 none
  statics := none }

def pool3 : Array CpInfo := pool [(1, .class_ 2), (0, u "java/lang/Cloneable"), (0, .class_ 4), (0, u "java/lang/Object")] 2

/-- java/lang/Cloneable -/
def k3 : Class := { plain "java/lang/Cloneable" (some 0) with
  accessFlags := 1537
  interfaces := #[]
  cf := some (fileOf pool3 1 #[] #[] 1537 3 #[] #[])
  fields := #[]
  methods := #[]
  instanceTypes := #[]
  staticTypes := #[]
  resolved := Array.replicate 7 none
  statics := none }

def pool4 : Array CpInfo := pool [(1, .class_ 2), (0, u "java/io/Serializable"), (0, .class_ 4), (0, u "java/lang/Object")] 2

/-- java/io/Serializable -/
def k4 : Class := { plain "java/io/Serializable" (some 0) with
  accessFlags := 1537
  interfaces := #[]
  cf := some (fileOf pool4 1 #[] #[] 1537 3 #[] #[])
  fields := #[]
  methods := #[]
  instanceTypes := #[]
  staticTypes := #[]
  resolved := Array.replicate 7 none
  statics := none }

def pool5 : Array CpInfo := pool [(1, .class_ 2), (0, u "java/util/BitSet"), (2, u "$assertionsDisabled"), (0, u "Z"), (0, .fieldref 1 8), (0, .nameAndType 9 10), (0, u "wordsInUse"), (0, u "I"), (0, .fieldref 1 12), (0, .nameAndType 13 14), (0, u "words"), (0, u "[J"), (3, .nameAndType 19 20), (0, u "<init>"), (0, u "()V"), (0, .methodref 22 18), (0, .class_ 23), (0, u "java/lang/Object"), (0, .fieldref 1 25), (0, .nameAndType 26 6), (0, u "sizeIsSticky"), (0, .methodref 1 28), (0, .nameAndType 29 30), (0, u "initWords"), (0, u "(I)V"), (21, .methodref 1 53), (0, .nameAndType 54 55), (0, u "wordIndex"), (0, u "(I)I"), (213, .class_ 270), (0, u "java/util/BitSet$1BitSetSpliterator"), (22, u "serialPersistentFields"), (0, u "[Ljava/io/ObjectStreamField;"), (0, .class_ 296), (0, u "java/lang/Cloneable"), (0, .class_ 298), (0, u "java/io/Serializable"), (0, u "ADDRESS_BITS_PER_WORD"), (2, u "BITS_PER_WORD"), (1, u "BIT_INDEX_MASK"), (1, u "WORD_MASK"), (0, u "J"), (0, u "serialVersionUID")] 108

def k5c0 : Code := { maxStack := 2, maxLocals := 1, code := jdk_92_method_1_code, exceptionTable := #[], attributes := #[] }
def k5m0 : Method := { name := "wordIndex", desc := "(I)I", sig := { parameters := [.int], returnType := some .int }, accessFlags := 10, code := some k5c0 }
def k5c1 : Code := { maxStack := 2, maxLocals := 1, code := jdk_92_method_4_code, exceptionTable := #[], attributes := #[] }
def k5m1 : Method := { name := "<init>", desc := "()V", sig := { parameters := [], returnType := none }, accessFlags := 1, code := some k5c1 }
def k5c2 : Code := { maxStack := 3, maxLocals := 2, code := jdk_92_method_6_code, exceptionTable := #[], attributes := #[] }
def k5m2 : Method := { name := "initWords", desc := "(I)V", sig := { parameters := [.int], returnType := none }, accessFlags := 2, code := some k5c2 }
/-- java/util/BitSet -/
def k5 : Class := { plain "java/util/BitSet" (some 0) with
  accessFlags := 33
  interfaces := #[3, 4]
  cf := some (fileOf pool5 1 #[.nestMembers #[269]] #[{ accessFlags := 10, nameIndex := 54, descriptorIndex := 55, attributes := #[] }, { accessFlags := 1, nameIndex := 19, descriptorIndex := 20, attributes := #[] }, { accessFlags := 2, nameIndex := 29, descriptorIndex := 30, attributes := #[] }] 33 22 #[295, 297] #[{ accessFlags := 26, nameIndex := 299, descriptorIndex := 10, attributes := #[] }, { accessFlags := 26, nameIndex := 302, descriptorIndex := 10, attributes := #[] }, { accessFlags := 26, nameIndex := 304, descriptorIndex := 10, attributes := #[] }, { accessFlags := 26, nameIndex := 306, descriptorIndex := 307, attributes := #[] }, { accessFlags := 26, nameIndex := 293, descriptorIndex := 294, attributes := #[] }, { accessFlags := 2, nameIndex := 13, descriptorIndex := 14, attributes := #[] }, { accessFlags := 130, nameIndex := 9, descriptorIndex := 10, attributes := #[] }, { accessFlags := 130, nameIndex := 26, descriptorIndex := 6, attributes := #[] }, { accessFlags := 26, nameIndex := 308, descriptorIndex := 307, attributes := #[] }, { accessFlags := 4120, nameIndex := 5, descriptorIndex := 6, attributes := #[] }])
  fields := #[{ name := "ADDRESS_BITS_PER_WORD", type := .int, accessFlags := 26, slot := 0, constantValue := 0 }, { name := "BITS_PER_WORD", type := .int, accessFlags := 26, slot := 1, constantValue := 0 }, { name := "BIT_INDEX_MASK", type := .int, accessFlags := 26, slot := 2, constantValue := 0 }, { name := "WORD_MASK", type := .long, accessFlags := 26, slot := 3, constantValue := 0 }, { name := "serialPersistentFields", type := (.array (.object "java/io/ObjectStreamField")), accessFlags := 26, slot := 4, constantValue := 0 }, { name := "words", type := (.array .long), accessFlags := 2, slot := 0, constantValue := 0 }, { name := "wordsInUse", type := .int, accessFlags := 130, slot := 1, constantValue := 0 }, { name := "sizeIsSticky", type := .boolean, accessFlags := 130, slot := 2, constantValue := 0 }, { name := "serialVersionUID", type := .long, accessFlags := 26, slot := 5, constantValue := 0 }, { name := "$assertionsDisabled", type := .boolean, accessFlags := 4120, slot := 6, constantValue := 0 }]
  methods := #[k5m0, k5m1, k5m2]
  instanceTypes := #[(.array .long), .int, .boolean]
  staticTypes := #[.int, .int, .int, .long, (.array (.object "java/io/ObjectStreamField")), .long, .boolean]
  resolved := Array.replicate 417 none
  statics := none }

def pool6 : Array CpInfo := pool [(1, .methodref 2 3), (0, .class_ 4), (0, .nameAndType 5 6), (0, u "java/lang/Object"), (0, u "<init>"), (0, u "()V"), (0, .fieldref 8 9), (0, .class_ 10), (0, .nameAndType 11 12), (0, u "com/example/traceweave/traceweave/pattern/NumberedPattern$Adjacency"), (0, u "first"), (0, u "[I"), (0, .fieldref 8 14), (0, .nameAndType 15 12), (0, u "otherEnd"), (0, .methodref 17 18), (0, .class_ 19), (0, .nameAndType 20 21), (0, u "java/util/Arrays"), (0, u "copyOf"), (0, u "([II)[I"), (0, .methodref 17 23), (0, .nameAndType 24 25), (0, u "sort"), (0, u "([III)V"), (10, u "(I[I[I)V"), (8, u "isEmpty"), (0, u "(I)Z"), (5, .class_ 53), (0, u "com/example/traceweave/traceweave/pattern/NumberedPattern")] 2

def k6c0 : Code := { maxStack := 6, maxLocals := 8, code := prog_43_method_1_code, exceptionTable := #[], attributes := #[] }
def k6m0 : Method := { name := "<init>", desc := "(I[I[I)V", sig := { parameters := [.int, (.array .int), (.array .int)], returnType := none }, accessFlags := 0, code := some k6c0 }
def k6c1 : Code := { maxStack := 4, maxLocals := 2, code := prog_43_method_4_code, exceptionTable := #[], attributes := #[] }
def k6m1 : Method := { name := "isEmpty", desc := "(I)Z", sig := { parameters := [.int], returnType := some .boolean }, accessFlags := 0, code := some k6c1 }
/-- com/example/traceweave/traceweave/pattern/NumberedPattern$Adjacency -/
def k6 : Class := { plain "com/example/traceweave/traceweave/pattern/NumberedPattern$Adjacency" (some 0) with
  accessFlags := 48
  interfaces := #[]
  cf := some (fileOf pool6 8 #[.nestHost 52] #[{ accessFlags := 0, nameIndex := 5, descriptorIndex := 36, attributes := #[] }, { accessFlags := 0, nameIndex := 45, descriptorIndex := 46, attributes := #[] }] 48 2 #[] #[{ accessFlags := 18, nameIndex := 11, descriptorIndex := 12, attributes := #[] }, { accessFlags := 18, nameIndex := 15, descriptorIndex := 12, attributes := #[] }])
  fields := #[{ name := "first", type := (.array .int), accessFlags := 18, slot := 0, constantValue := 0 }, { name := "otherEnd", type := (.array .int), accessFlags := 18, slot := 1, constantValue := 0 }]
  methods := #[k6m0, k6m1]
  instanceTypes := #[(.array .int), (.array .int)]
  staticTypes := #[]
  resolved := Array.replicate 56 none
  statics := none }

def pool7 : Array CpInfo := pool [(2, .class_ 4), (1, u "java/lang/Object"), (0, u "<init>"), (0, u "()V"), (0, .methodref 8 9), (0, .class_ 10), (0, .nameAndType 11 12), (0, u "java/util/DualPivotQuicksort"), (0, u "sort"), (0, u "([IIII)V"), (0, .methodref 14 15), (0, .class_ 16), (0, .nameAndType 17 18), (0, u "java/util/Arrays"), (0, u "rangeCheck"), (0, u "(III)V"), (55, .class_ 76), (1, u "java/util/Arrays$NaturalOrder"), (36, .class_ 115), (1, u "java/util/Arrays$LegacyMergeSort"), (1, u "Z"), (32, .methodref 151 152), (0, .class_ 153), (0, .nameAndType 154 155), (0, u "java/lang/System"), (0, u "arraycopy"), (0, u "(Ljava/lang/Object;ILjava/lang/Object;II)V"), (146, u "copyOf"), (1, .methodref 305 306), (0, .class_ 307), (0, .nameAndType 308 309), (0, u "java/lang/Math"), (0, u "min"), (0, u "(II)I"), (65, .class_ 376), (0, u "java/util/Arrays$ArrayList"), (68, u "$assertionsDisabled"), (269, u "MIN_ARRAY_SORT_GRAN"), (0, u "I"), (2, u "INSERTIONSORT_THRESHOLD"), (8, u "([III)V"), (142, u "([II)[I"), (103, .class_ 976), (0, u "java/util/Arrays$ArrayItr")] 52

def k7m0 : Method := { name := "<init>", desc := "()V", sig := { parameters := [], returnType := none }, accessFlags := 2, code := none }
def k7c1 : Code := { maxStack := 4, maxLocals := 3, code := jdk_65_method_3_code, exceptionTable := #[], attributes := #[] }
def k7m1 : Method := { name := "sort", desc := "([III)V", sig := { parameters := [(.array .int), .int, .int], returnType := none }, accessFlags := 9, code := some k7c1 }
def k7c2 : Code := { maxStack := 4, maxLocals := 3, code := jdk_65_method_30_code, exceptionTable := #[], attributes := #[] }
def k7m2 : Method := { name := "rangeCheck", desc := "(III)V", sig := { parameters := [.int, .int, .int], returnType := none }, accessFlags := 8, code := some k7c2 }
def k7c3 : Code := { maxStack := 6, maxLocals := 3, code := jdk_65_method_123_code, exceptionTable := #[], attributes := #[] }
def k7m3 : Method := { name := "copyOf", desc := "([II)[I", sig := { parameters := [(.array .int), .int], returnType := some (.array .int) }, accessFlags := 9, code := some k7c3 }
/-- java/util/Arrays -/
def k7 : Class := { plain "java/util/Arrays" (some 0) with
  accessFlags := 49
  interfaces := #[]
  cf := some (fileOf pool7 14 #[.nestMembers #[975, 375, 113, 74]] #[{ accessFlags := 2, nameIndex := 5, descriptorIndex := 6, attributes := #[] }, { accessFlags := 9, nameIndex := 11, descriptorIndex := 728, attributes := #[] }, { accessFlags := 8, nameIndex := 17, descriptorIndex := 18, attributes := #[] }, { accessFlags := 9, nameIndex := 302, descriptorIndex := 871, attributes := #[] }] 49 2 #[] #[{ accessFlags := 26, nameIndex := 715, descriptorIndex := 716, attributes := #[] }, { accessFlags := 26, nameIndex := 719, descriptorIndex := 716, attributes := #[] }, { accessFlags := 4120, nameIndex := 445, descriptorIndex := 117, attributes := #[] }])
  fields := #[{ name := "MIN_ARRAY_SORT_GRAN", type := .int, accessFlags := 26, slot := 0, constantValue := 0 }, { name := "INSERTIONSORT_THRESHOLD", type := .int, accessFlags := 26, slot := 1, constantValue := 0 }, { name := "$assertionsDisabled", type := .boolean, accessFlags := 4120, slot := 2, constantValue := 0 }]
  methods := #[k7m0, k7m1, k7m2, k7m3]
  instanceTypes := #[]
  staticTypes := #[.int, .int, .boolean]
  resolved := Array.replicate 1029 none
  statics := none }

def pool8 : Array CpInfo := pool [(1, .class_ 2), (0, u "java/lang/Math"), (1, .class_ 6), (1, u "java/lang/Object"), (0, u "<init>"), (0, u "()V"), (89, .class_ 100), (1, u "java/lang/Math$RandomNumberGeneratorHolder"), (71, u "negativeZeroFloatBits"), (0, u "J"), (2, u "negativeZeroDoubleBits"), (24, u "min"), (43, u "$assertionsDisabled"), (0, u "Z"), (88, u "(II)I"), (2, u "twoToTheDoubleScaleDown"), (0, u "D"), (4, u "twoToTheDoubleScaleUp"), (9, u "E"), (3, u "PI"), (2, u "TAU"), (2, u "DEGREES_TO_RADIANS"), (0, u "RADIANS_TO_DEGREES")] 94

def k8m0 : Method := { name := "<init>", desc := "()V", sig := { parameters := [], returnType := none }, accessFlags := 2, code := none }
def k8c1 : Code := { maxStack := 2, maxLocals := 2, code := jdk_29_method_69_code, exceptionTable := #[], attributes := #[] }
def k8m1 : Method := { name := "min", desc := "(II)I", sig := { parameters := [.int, .int], returnType := some .int }, accessFlags := 9, code := some k8c1 }
/-- java/lang/Math -/
def k8 : Class := { plain "java/lang/Math" (some 0) with
  accessFlags := 49
  interfaces := #[]
  cf := some (fileOf pool8 1 #[.nestMembers #[98]] #[{ accessFlags := 2, nameIndex := 7, descriptorIndex := 8, attributes := #[] }, { accessFlags := 9, nameIndex := 201, descriptorIndex := 335, attributes := #[] }] 49 4 #[] #[{ accessFlags := 25, nameIndex := 354, descriptorIndex := 339, attributes := #[] }, { accessFlags := 25, nameIndex := 358, descriptorIndex := 339, attributes := #[] }, { accessFlags := 25, nameIndex := 361, descriptorIndex := 339, attributes := #[] }, { accessFlags := 26, nameIndex := 364, descriptorIndex := 339, attributes := #[] }, { accessFlags := 26, nameIndex := 365, descriptorIndex := 339, attributes := #[] }, { accessFlags := 26, nameIndex := 172, descriptorIndex := 173, attributes := #[] }, { accessFlags := 26, nameIndex := 176, descriptorIndex := 173, attributes := #[] }, { accessFlags := 8, nameIndex := 344, descriptorIndex := 339, attributes := #[] }, { accessFlags := 8, nameIndex := 338, descriptorIndex := 339, attributes := #[] }, { accessFlags := 4120, nameIndex := 245, descriptorIndex := 246, attributes := #[] }])
  fields := #[{ name := "E", type := .double, accessFlags := 25, slot := 0, constantValue := 0 }, { name := "PI", type := .double, accessFlags := 25, slot := 1, constantValue := 0 }, { name := "TAU", type := .double, accessFlags := 25, slot := 2, constantValue := 0 }, { name := "DEGREES_TO_RADIANS", type := .double, accessFlags := 26, slot := 3, constantValue := 0 }, { name := "RADIANS_TO_DEGREES", type := .double, accessFlags := 26, slot := 4, constantValue := 0 }, { name := "negativeZeroFloatBits", type := .long, accessFlags := 26, slot := 5, constantValue := 0 }, { name := "negativeZeroDoubleBits", type := .long, accessFlags := 26, slot := 6, constantValue := 0 }, { name := "twoToTheDoubleScaleUp", type := .double, accessFlags := 8, slot := 7, constantValue := 0 }, { name := "twoToTheDoubleScaleDown", type := .double, accessFlags := 8, slot := 8, constantValue := 0 }, { name := "$assertionsDisabled", type := .boolean, accessFlags := 4120, slot := 9, constantValue := 0 }]
  methods := #[k8m0, k8m1]
  instanceTypes := #[]
  staticTypes := #[.double, .double, .double, .double, .double, .long, .long, .double, .double, .boolean]
  resolved := Array.replicate 460 none
  statics := none }

def pool9 : Array CpInfo := pool [(2, .class_ 4), (1, u "java/lang/Object"), (0, u "<init>"), (0, u "()V"), (1, .class_ 10), (1, u "java/lang/System"), (0, u "allowSecurityManager"), (0, u "I"), (16, u "cons"), (0, u "Ljava/io/Console;"), (77, .class_ 110), (1, u "java/lang/System$CallersHolder"), (43, u "initialErrStream"), (0, u "Ljava/io/PrintStream;"), (19, u "security"), (0, u "Ljava/lang/SecurityManager;"), (31, .class_ 209), (0, u "java/lang/System$1"), (7, u "props"), (0, u "Ljava/util/Properties;"), (2, u "lineSeparator"), (0, u "Ljava/lang/String;"), (96, .class_ 321), (1, u "java/lang/System$LoggerFinder"), (5, .class_ 328), (0, u "java/lang/System$Logger"), (67, u "err"), (2, u "out"), (91, u "notSupportedJnuEncoding"), (15, u "in"), (17, u "initialIn"), (0, u "Ljava/io/InputStream;"), (35, u "bootLayer"), (0, u "Ljava/lang/ModuleLayer;"), (99, .class_ 664), (0, u "java/lang/System$2"), (9, u "NEVER"), (2, u "MAYBE"), (49, u "arraycopy"), (0, u "(Ljava/lang/Object;ILjava/lang/Object;II)V"), (72, .class_ 802), (0, u "java/lang/System$Logger$Level")] 31

def k9m0 : Method := { name := "<init>", desc := "()V", sig := { parameters := [], returnType := none }, accessFlags := 2, code := none }
def k9m1 : Method := { name := "arraycopy", desc := "(Ljava/lang/Object;ILjava/lang/Object;II)V", sig := { parameters := [(.object "java/lang/Object"), .int, (.object "java/lang/Object"), .int, .int], returnType := none }, accessFlags := 265, code := none }
/-- java/lang/System -/
def k9 : Class := { plain "java/lang/System" (some 0) with
  accessFlags := 49
  interfaces := #[]
  cf := some (fileOf pool9 8 #[.nestMembers #[319, 327, 801, 108, 663, 208]] #[{ accessFlags := 2, nameIndex := 5, descriptorIndex := 6, attributes := #[] }, { accessFlags := 265, nameIndex := 727, descriptorIndex := 728, attributes := #[] }] 49 2 #[] #[{ accessFlags := 25, nameIndex := 507, descriptorIndex := 526, attributes := #[] }, { accessFlags := 25, nameIndex := 399, descriptorIndex := 155, attributes := #[] }, { accessFlags := 25, nameIndex := 396, descriptorIndex := 155, attributes := #[] }, { accessFlags := 10, nameIndex := 525, descriptorIndex := 526, attributes := #[] }, { accessFlags := 26, nameIndex := 674, descriptorIndex := 12, attributes := #[] }, { accessFlags := 26, nameIndex := 677, descriptorIndex := 12, attributes := #[] }, { accessFlags := 10, nameIndex := 11, descriptorIndex := 12, attributes := #[] }, { accessFlags := 74, nameIndex := 175, descriptorIndex := 176, attributes := #[] }, { accessFlags := 10, nameIndex := 491, descriptorIndex := 222, attributes := #[] }, { accessFlags := 74, nameIndex := 29, descriptorIndex := 30, attributes := #[] }, { accessFlags := 74, nameIndex := 154, descriptorIndex := 155, attributes := #[] }, { accessFlags := 10, nameIndex := 217, descriptorIndex := 218, attributes := #[] }, { accessFlags := 10, nameIndex := 221, descriptorIndex := 222, attributes := #[] }, { accessFlags := 8, nameIndex := 562, descriptorIndex := 563, attributes := #[] }])
  fields := #[{ name := "in", type := (.object "java/io/InputStream"), accessFlags := 25, slot := 0, constantValue := 0 }, { name := "out", type := (.object "java/io/PrintStream"), accessFlags := 25, slot := 1, constantValue := 0 }, { name := "err", type := (.object "java/io/PrintStream"), accessFlags := 25, slot := 2, constantValue := 0 }, { name := "initialIn", type := (.object "java/io/InputStream"), accessFlags := 10, slot := 3, constantValue := 0 }, { name := "NEVER", type := .int, accessFlags := 26, slot := 4, constantValue := 0 }, { name := "MAYBE", type := .int, accessFlags := 26, slot := 5, constantValue := 0 }, { name := "allowSecurityManager", type := .int, accessFlags := 10, slot := 6, constantValue := 0 }, { name := "security", type := (.object "java/lang/SecurityManager"), accessFlags := 74, slot := 7, constantValue := 0 }, { name := "notSupportedJnuEncoding", type := (.object "java/lang/String"), accessFlags := 10, slot := 8, constantValue := 0 }, { name := "cons", type := (.object "java/io/Console"), accessFlags := 74, slot := 9, constantValue := 0 }, { name := "initialErrStream", type := (.object "java/io/PrintStream"), accessFlags := 74, slot := 10, constantValue := 0 }, { name := "props", type := (.object "java/util/Properties"), accessFlags := 10, slot := 11, constantValue := 0 }, { name := "lineSeparator", type := (.object "java/lang/String"), accessFlags := 10, slot := 12, constantValue := 0 }, { name := "bootLayer", type := (.object "java/lang/ModuleLayer"), accessFlags := 8, slot := 13, constantValue := 0 }]
  methods := #[k9m0, k9m1]
  instanceTypes := #[]
  staticTypes := #[(.object "java/io/InputStream"), (.object "java/io/PrintStream"), (.object "java/io/PrintStream"), (.object "java/io/InputStream"), .int, .int, .int, (.object "java/lang/SecurityManager"), (.object "java/lang/String"), (.object "java/io/Console"), (.object "java/io/PrintStream"), (.object "java/util/Properties"), (.object "java/lang/String"), (.object "java/lang/ModuleLayer")]
  resolved := Array.replicate 834 none
  statics := none }

def pool10 : Array CpInfo := pool [(1, .class_ 2), (0, u "java/util/DualPivotQuicksort"), (5, .class_ 10), (1, u "java/lang/Object"), (0, u "<init>"), (0, u "()V"), (4, .class_ 18), (0, u "java/util/DualPivotQuicksort$Sorter"), (7, .methodref 1 27), (0, .nameAndType 28 29), (0, u "sort"), (0, u "(Ljava/util/DualPivotQuicksort$Sorter;[IIII)V"), (3, u "([IIII)V"), (0, .methodref 1 35), (0, .nameAndType 36 37), (0, u "insertionSort"), (0, u "([III)V"), (30, u "I"), (4, .class_ 74), (0, u "java/util/DualPivotQuicksort$RunMerger"), (10, .class_ 86), (0, u "java/util/DualPivotQuicksort$Merger"), (127, u "MAX_MIXED_INSERTION_SORT_SIZE"), (2, u "MAX_INSERTION_SORT_SIZE"), (1, u "MIN_PARALLEL_SORT_SIZE"), (1, u "MIN_TRY_MERGE_SIZE"), (0, u "MIN_FIRST_RUN_SIZE"), (1, u "MIN_FIRST_RUNS_FACTOR"), (1, u "MAX_RUN_CAPACITY"), (1, u "MIN_RUN_COUNT"), (1, u "MIN_PARALLEL_MERGE_PARTS_SIZE"), (0, u "MIN_BYTE_COUNTING_SORT_SIZE"), (1, u "MIN_SHORT_OR_CHAR_COUNTING_SORT_SIZE"), (1, u "DELTA"), (1, u "MAX_RECURSION_DEPTH"), (1, u "NUM_BYTE_VALUES"), (1, u "MAX_BYTE_INDEX"), (0, u "NUM_CHAR_VALUES"), (0, u "NUM_SHORT_VALUES"), (0, u "MAX_SHORT_INDEX")] 86

def k10m0 : Method := { name := "<init>", desc := "()V", sig := { parameters := [], returnType := none }, accessFlags := 2, code := none }
def k10c1 : Code := { maxStack := 9, maxLocals := 7, code := jdk_2529_method_3_code, exceptionTable := #[], attributes := #[] }
def k10m1 : Method := { name := "sort", desc := "([IIII)V", sig := { parameters := [(.array .int), .int, .int, .int], returnType := none }, accessFlags := 8, code := some k10c1 }
def k10c2 : Code := { maxStack := 6, maxLocals := 21, code := jdk_2529_method_4_code, exceptionTable := #[], attributes := #[] }
def k10m2 : Method := { name := "sort", desc := "(Ljava/util/DualPivotQuicksort$Sorter;[IIII)V", sig := { parameters := [(.object "java/util/DualPivotQuicksort$Sorter"), (.array .int), .int, .int, .int], returnType := none }, accessFlags := 8, code := some k10c2 }
def k10c3 : Code := { maxStack := 4, maxLocals := 6, code := jdk_2529_method_6_code, exceptionTable := #[], attributes := #[] }
def k10m3 : Method := { name := "insertionSort", desc := "([III)V", sig := { parameters := [(.array .int), .int, .int], returnType := none }, accessFlags := 10, code := some k10c3 }
/-- java/util/DualPivotQuicksort -/
def k10 : Class := { plain "java/util/DualPivotQuicksort" (some 0) with
  accessFlags := 48
  interfaces := #[]
  cf := some (fileOf pool10 1 #[.nestMembers #[73, 85, 17]] #[{ accessFlags := 2, nameIndex := 11, descriptorIndex := 12, attributes := #[] }, { accessFlags := 8, nameIndex := 28, descriptorIndex := 33, attributes := #[] }, { accessFlags := 8, nameIndex := 28, descriptorIndex := 29, attributes := #[] }, { accessFlags := 10, nameIndex := 36, descriptorIndex := 37, attributes := #[] }] 48 8 #[] #[{ accessFlags := 26, nameIndex := 214, descriptorIndex := 68, attributes := #[] }, { accessFlags := 26, nameIndex := 217, descriptorIndex := 68, attributes := #[] }, { accessFlags := 26, nameIndex := 219, descriptorIndex := 68, attributes := #[] }, { accessFlags := 26, nameIndex := 221, descriptorIndex := 68, attributes := #[] }, { accessFlags := 26, nameIndex := 222, descriptorIndex := 68, attributes := #[] }, { accessFlags := 26, nameIndex := 224, descriptorIndex := 68, attributes := #[] }, { accessFlags := 26, nameIndex := 226, descriptorIndex := 68, attributes := #[] }, { accessFlags := 26, nameIndex := 228, descriptorIndex := 68, attributes := #[] }, { accessFlags := 26, nameIndex := 230, descriptorIndex := 68, attributes := #[] }, { accessFlags := 26, nameIndex := 231, descriptorIndex := 68, attributes := #[] }, { accessFlags := 26, nameIndex := 233, descriptorIndex := 68, attributes := #[] }, { accessFlags := 26, nameIndex := 235, descriptorIndex := 68, attributes := #[] }, { accessFlags := 26, nameIndex := 237, descriptorIndex := 68, attributes := #[] }, { accessFlags := 26, nameIndex := 239, descriptorIndex := 68, attributes := #[] }, { accessFlags := 26, nameIndex := 241, descriptorIndex := 68, attributes := #[] }, { accessFlags := 26, nameIndex := 242, descriptorIndex := 68, attributes := #[] }, { accessFlags := 26, nameIndex := 243, descriptorIndex := 68, attributes := #[] }, { accessFlags := 26, nameIndex := 244, descriptorIndex := 68, attributes := #[] }])
  fields := #[{ name := "MAX_MIXED_INSERTION_SORT_SIZE", type := .int, accessFlags := 26, slot := 0, constantValue := 0 }, { name := "MAX_INSERTION_SORT_SIZE", type := .int, accessFlags := 26, slot := 1, constantValue := 0 }, { name := "MIN_PARALLEL_SORT_SIZE", type := .int, accessFlags := 26, slot := 2, constantValue := 0 }, { name := "MIN_TRY_MERGE_SIZE", type := .int, accessFlags := 26, slot := 3, constantValue := 0 }, { name := "MIN_FIRST_RUN_SIZE", type := .int, accessFlags := 26, slot := 4, constantValue := 0 }, { name := "MIN_FIRST_RUNS_FACTOR", type := .int, accessFlags := 26, slot := 5, constantValue := 0 }, { name := "MAX_RUN_CAPACITY", type := .int, accessFlags := 26, slot := 6, constantValue := 0 }, { name := "MIN_RUN_COUNT", type := .int, accessFlags := 26, slot := 7, constantValue := 0 }, { name := "MIN_PARALLEL_MERGE_PARTS_SIZE", type := .int, accessFlags := 26, slot := 8, constantValue := 0 }, { name := "MIN_BYTE_COUNTING_SORT_SIZE", type := .int, accessFlags := 26, slot := 9, constantValue := 0 }, { name := "MIN_SHORT_OR_CHAR_COUNTING_SORT_SIZE", type := .int, accessFlags := 26, slot := 10, constantValue := 0 }, { name := "DELTA", type := .int, accessFlags := 26, slot := 11, constantValue := 0 }, { name := "MAX_RECURSION_DEPTH", type := .int, accessFlags := 26, slot := 12, constantValue := 0 }, { name := "NUM_BYTE_VALUES", type := .int, accessFlags := 26, slot := 13, constantValue := 0 }, { name := "MAX_BYTE_INDEX", type := .int, accessFlags := 26, slot := 14, constantValue := 0 }, { name := "NUM_CHAR_VALUES", type := .int, accessFlags := 26, slot := 15, constantValue := 0 }, { name := "NUM_SHORT_VALUES", type := .int, accessFlags := 26, slot := 16, constantValue := 0 }, { name := "MAX_SHORT_INDEX", type := .int, accessFlags := 26, slot := 17, constantValue := 0 }]
  methods := #[k10m0, k10m1, k10m2, k10m3]
  instanceTypes := #[]
  staticTypes := #[.int, .int, .int, .int, .int, .int, .int, .int, .int, .int, .int, .int, .int, .int, .int, .int, .int, .int]
  resolved := Array.replicate 331 none
  statics := none }

/-- the primitive byte -/
def k11 : Class := { plain "byte" none with kind := .primitive 'B', accessFlags := 0x411 }
/-- [B -/
def k12 : Class := { plain "[B" (some 0) with kind := .array 11 .byte, interfaces := #[3, 4], accessFlags := 1041 }

/-- the primitive int -/
def k13 : Class := { plain "int" none with kind := .primitive 'I', accessFlags := 0x411 }
/-- [I -/
def k14 : Class := { plain "[I" (some 0) with kind := .array 13 .int, interfaces := #[3, 4], accessFlags := 1041 }

/-- the primitive long -/
def k15 : Class := { plain "long" none with kind := .primitive 'J', accessFlags := 0x411 }
/-- [J -/
def k16 : Class := { plain "[J" (some 0) with kind := .array 15 .long, interfaces := #[3, 4], accessFlags := 1041 }

def heap : Heap := #[]
def classes : Array Class := #[k0, k1, k2, k3, k4, k5, k6, k7, k8, k9, k10, k11, k12, k13, k14, k15, k16]
def interned : List (Array UInt16 × Addr) := []
def slotsUsed : Nat := 0
def theMethod : MethodId := ⟨1, 2⟩
def args0 : Array Value := #[.int 1, .int 514, .int 3, .int 2, .int 4]
def aboutOver (below : List Frame) : State where
  vm := { classes := classes, interned := interned.toArray }
  heap := heap
  slotsUsed := slotsUsed
  threads := #[{ frames := .invoking theMethod args0 :: below }]
def below0 : List Frame := [.native { method := ⟨0, 0⟩, args := #[] }]
def about1 : State := aboutOver below0
def p0 : Program := .bare "" "" ""
def e0 : Env := launch0.env 0 0 0
theorem w_frames : about1.frames = Frame.invoking theMethod args0 :: below0 := rfl
set_option maxRecDepth 65536 in
theorem w_args : argsFit about1.vm theMethod args0 = true := by decide +kernel
set_option maxRecDepth 65536 in
theorem w_heap : heapFits about1 = true := by decide +kernel
set_option maxRecDepth 65536 in
theorem w_runnable : about1.curStatus? = some .runnable := by decide +kernel
set_option maxRecDepth 65536 in
theorem w_alone : about1.alone = true := by decide +kernel
set_option maxRecDepth 65536 in
theorem w_named : about1.methodNamed? x = some theMethod := by decide +kernel
set_option maxRecDepth 65536 in
theorem w_hears : about1.hears theMethod below0 = true := by decide +kernel
set_option maxRecDepth 65536 in
theorem w_ripe : about1.ripe theMethod args0 below0 = true := by decide +kernel
theorem w_running : about1.status = .running := rfl
set_option maxRecDepth 65536 in
theorem w_room : about1.hasRoom e0.platform room_1 = true :=
  launch0.hasRoom_least _ room_1 (by decide +kernel) (by decide +kernel) (by decide +kernel) (by decide +kernel) (by decide +kernel) (by decide +kernel)
theorem allAtoms_all (ts : List Jvm.Cond) (a : Array Jvm.Value) (st : Jvm.State) : (allAtoms ts).before a st = ts.all (fun c => c.before a st) := by
  induction ts with
  | nil => rfl
  | cons c t ih =>
    show (Jvm.Cond.and c (allAtoms t)).before a st = _
    rw [Jvm.Cond.before_and, ih, List.all_cons]
def words1 : List Jvm.Cond := Jvm.Cond.code x code maxLocals ret :: tables_1
/-- a 'code' word, met by the world's own term for the bytes: nothing is compared byte by byte -/
theorem code_word {y : MethodName} {bytes : ByteArray} {mx : Nat} {rt : Option FieldType} {a : Array Value} {s : State} {m : MethodId} {meth : Method} {c : Code} (h1 : s.methodNamed? y = some m) (h2 : s.vm.method? m = some meth) (h3 : meth.code = some c) (h4 : c.code = bytes)
    (h5 : (c.maxLocals == mx && c.exceptionTable.isEmpty && decide (c.maxStack ≤ mostOperands) && decide (meth.sig.returnType = rt) && !meth.locks && decide (parseMethodDescriptor y.desc = some meth.sig)) = true) : (Jvm.Cond.code y bytes mx rt).before a s = true := by
  simp only [Bool.and_eq_true, beq_iff_eq, Bool.not_eq_true', decide_eq_true_eq] at h5
  obtain ⟨⟨⟨⟨⟨g1, g2⟩, g3⟩, g4⟩, g5⟩, g6⟩ := h5
  simp [Cond.before, Cond.holds, Cond.value, h1, h2, h3, h4, g1, g2, g3, g4, g5, g6]
def isCode : Jvm.Cond → Bool
  | .code _ _ _ _ => true
  | _ => false
theorem all_split {L : List Jvm.Cond} {P : Jvm.Cond → Bool} (h1 : L.all (fun c => isCode c || P c) = true) (h2 : ∀ c ∈ L.filter isCode, P c = true) : L.all P = true := by
  refine List.all_eq_true.mpr fun c hc => ?_
  have h := List.all_eq_true.mp h1 c hc
  rcases Bool.eq_false_or_eq_true (isCode c) with hi | hi
  · exact h2 c (List.mem_filter.mpr ⟨hc, hi⟩)
  · simpa [hi] using h
set_option maxRecDepth 65536 in
theorem w_c0 : (Jvm.Cond.code x code maxLocals ret).before args0 about1 = true := code_word (m := ⟨1, 2⟩) (meth := k1m2) (c := k1c2) (by decide +kernel) rfl rfl rfl (by decide +kernel)
set_option maxRecDepth 65536 in
theorem w_c1 : (Jvm.Cond.code ({ cls := "com/example/traceweave/traceweave/pattern/NumberedPattern", name := "<init>", desc := "(I[I[I)V" } : Jvm.MethodName) prog_42_method_1_code (4 : Nat) (Option.none : Option Jvm.ClassFile.FieldType)).before args0 about1 = true := code_word (m := ⟨2, 0⟩) (meth := k2m0) (c := k2c0) (by decide +kernel) rfl rfl rfl (by decide +kernel)
set_option maxRecDepth 65536 in
theorem w_c2 : (Jvm.Cond.code ({ cls := "java/util/BitSet", name := "<init>", desc := "()V" } : Jvm.MethodName) jdk_92_method_4_code (1 : Nat) (Option.none : Option Jvm.ClassFile.FieldType)).before args0 about1 = true := code_word (m := ⟨5, 1⟩) (meth := k5m1) (c := k5c1) (by decide +kernel) rfl rfl rfl (by decide +kernel)
set_option maxRecDepth 65536 in
theorem w_c3 : (Jvm.Cond.code ({ cls := "java/lang/Object", name := "<init>", desc := "()V" } : Jvm.MethodName) object_method_1_code (1 : Nat) (Option.none : Option Jvm.ClassFile.FieldType)).before args0 about1 = true := code_word (m := ⟨0, 0⟩) (meth := k0m0) (c := k0c0) (by decide +kernel) rfl rfl rfl (by decide +kernel)
set_option maxRecDepth 65536 in
theorem w_c4 : (Jvm.Cond.code ({ cls := "java/util/BitSet", name := "initWords", desc := "(I)V" } : Jvm.MethodName) jdk_92_method_6_code (2 : Nat) (Option.none : Option Jvm.ClassFile.FieldType)).before args0 about1 = true := code_word (m := ⟨5, 2⟩) (meth := k5m2) (c := k5c2) (by decide +kernel) rfl rfl rfl (by decide +kernel)
set_option maxRecDepth 65536 in
theorem w_c5 : (Jvm.Cond.code ({ cls := "java/util/BitSet", name := "wordIndex", desc := "(I)I" } : Jvm.MethodName) jdk_92_method_1_code (1 : Nat) (Option.some Jvm.ClassFile.FieldType.int)).before args0 about1 = true := code_word (m := ⟨5, 0⟩) (meth := k5m0) (c := k5c0) (by decide +kernel) rfl rfl rfl (by decide +kernel)
set_option maxRecDepth 65536 in
theorem w_c6 : (Jvm.Cond.code ({ cls := "com/example/traceweave/traceweave/pattern/NumberedPattern", name := "<init>", desc := "(I[I[ILjava/util/BitSet;Ljava/util/BitSet;)V" } : Jvm.MethodName) prog_42_method_2_code (6 : Nat) (Option.none : Option Jvm.ClassFile.FieldType)).before args0 about1 = true := code_word (m := ⟨2, 1⟩) (meth := k2m1) (c := k2c1) (by decide +kernel) rfl rfl rfl (by decide +kernel)
set_option maxRecDepth 65536 in
theorem w_c7 : (Jvm.Cond.code ({ cls := "com/example/traceweave/traceweave/pattern/NumberedPattern$Adjacency", name := "<init>", desc := "(I[I[I)V" } : Jvm.MethodName) prog_43_method_1_code (8 : Nat) (Option.none : Option Jvm.ClassFile.FieldType)).before args0 about1 = true := code_word (m := ⟨6, 0⟩) (meth := k6m0) (c := k6c0) (by decide +kernel) rfl rfl rfl (by decide +kernel)
set_option maxRecDepth 65536 in
theorem w_c8 : (Jvm.Cond.code ({ cls := "java/util/Arrays", name := "copyOf", desc := "([II)[I" } : Jvm.MethodName) jdk_65_method_123_code (3 : Nat) (Option.some (Jvm.ClassFile.FieldType.array Jvm.ClassFile.FieldType.int))).before args0 about1 = true := code_word (m := ⟨7, 3⟩) (meth := k7m3) (c := k7c3) (by decide +kernel) rfl rfl rfl (by decide +kernel)
set_option maxRecDepth 65536 in
theorem w_c9 : (Jvm.Cond.code ({ cls := "java/lang/Math", name := "min", desc := "(II)I" } : Jvm.MethodName) jdk_29_method_69_code (2 : Nat) (Option.some Jvm.ClassFile.FieldType.int)).before args0 about1 = true := code_word (m := ⟨8, 1⟩) (meth := k8m1) (c := k8c1) (by decide +kernel) rfl rfl rfl (by decide +kernel)
set_option maxRecDepth 65536 in
theorem w_c10 : (Jvm.Cond.code ({ cls := "java/util/Arrays", name := "sort", desc := "([III)V" } : Jvm.MethodName) jdk_65_method_3_code (3 : Nat) (Option.none : Option Jvm.ClassFile.FieldType)).before args0 about1 = true := code_word (m := ⟨7, 1⟩) (meth := k7m1) (c := k7c1) (by decide +kernel) rfl rfl rfl (by decide +kernel)
set_option maxRecDepth 65536 in
theorem w_c11 : (Jvm.Cond.code ({ cls := "java/util/Arrays", name := "rangeCheck", desc := "(III)V" } : Jvm.MethodName) jdk_65_method_30_code (3 : Nat) (Option.none : Option Jvm.ClassFile.FieldType)).before args0 about1 = true := code_word (m := ⟨7, 2⟩) (meth := k7m2) (c := k7c2) (by decide +kernel) rfl rfl rfl (by decide +kernel)
set_option maxRecDepth 65536 in
theorem w_c12 : (Jvm.Cond.code ({ cls := "java/util/DualPivotQuicksort", name := "sort", desc := "([IIII)V" } : Jvm.MethodName) jdk_2529_method_3_code (7 : Nat) (Option.none : Option Jvm.ClassFile.FieldType)).before args0 about1 = true := code_word (m := ⟨10, 1⟩) (meth := k10m1) (c := k10c1) (by decide +kernel) rfl rfl rfl (by decide +kernel)
set_option maxRecDepth 65536 in
theorem w_c13 : (Jvm.Cond.code ({ cls := "java/util/DualPivotQuicksort", name := "sort", desc := "(Ljava/util/DualPivotQuicksort$Sorter;[IIII)V" } : Jvm.MethodName) jdk_2529_method_4_code (21 : Nat) (Option.none : Option Jvm.ClassFile.FieldType)).before args0 about1 = true := code_word (m := ⟨10, 2⟩) (meth := k10m2) (c := k10c2) (by decide +kernel) rfl rfl rfl (by decide +kernel)
set_option maxRecDepth 65536 in
theorem w_c14 : (Jvm.Cond.code ({ cls := "java/util/DualPivotQuicksort", name := "insertionSort", desc := "([III)V" } : Jvm.MethodName) jdk_2529_method_6_code (6 : Nat) (Option.none : Option Jvm.ClassFile.FieldType)).before args0 about1 = true := code_word (m := ⟨10, 3⟩) (meth := k10m3) (c := k10c3) (by decide +kernel) rfl rfl rfl (by decide +kernel)
set_option maxRecDepth 65536 in
theorem w_c15 : (Jvm.Cond.code ({ cls := "com/example/traceweave/traceweave/pattern/NumberedPattern", name := "isEntered", desc := "(I)Z" } : Jvm.MethodName) prog_42_method_8_code (2 : Nat) (Option.some Jvm.ClassFile.FieldType.boolean)).before args0 about1 = true := code_word (m := ⟨2, 2⟩) (meth := k2m2) (c := k2c2) (by decide +kernel) rfl rfl rfl (by decide +kernel)
set_option maxRecDepth 65536 in
theorem w_c16 : (Jvm.Cond.code ({ cls := "com/example/traceweave/traceweave/pattern/NumberedPatternIsEnteredPinLaw", name := "same", desc := "(IIII)Z" } : Jvm.MethodName) method_2_code (4 : Nat) (Option.some Jvm.ClassFile.FieldType.boolean)).before args0 about1 = true := code_word (m := ⟨1, 1⟩) (meth := k1m1) (c := k1c1) (by decide +kernel) rfl rfl rfl (by decide +kernel)
set_option maxRecDepth 65536 in
theorem w_c17 : (Jvm.Cond.code ({ cls := "com/example/traceweave/traceweave/pattern/NumberedPattern$Adjacency", name := "isEmpty", desc := "(I)Z" } : Jvm.MethodName) prog_43_method_4_code (2 : Nat) (Option.some Jvm.ClassFile.FieldType.boolean)).before args0 about1 = true := code_word (m := ⟨6, 1⟩) (meth := k6m1) (c := k6c1) (by decide +kernel) rfl rfl rfl (by decide +kernel)
def codes1 : List Jvm.Cond := [Jvm.Cond.code x code maxLocals ret, Jvm.Cond.code ({ cls := "com/example/traceweave/traceweave/pattern/NumberedPattern", name := "<init>", desc := "(I[I[I)V" } : Jvm.MethodName) prog_42_method_1_code (4 : Nat) (Option.none : Option Jvm.ClassFile.FieldType), Jvm.Cond.code ({ cls := "java/util/BitSet", name := "<init>", desc := "()V" } : Jvm.MethodName) jdk_92_method_4_code (1 : Nat) (Option.none : Option Jvm.ClassFile.FieldType), Jvm.Cond.code ({ cls := "java/lang/Object", name := "<init>", desc := "()V" } : Jvm.MethodName) object_method_1_code (1 : Nat) (Option.none : Option Jvm.ClassFile.FieldType), Jvm.Cond.code ({ cls := "java/util/BitSet", name := "initWords", desc := "(I)V" } : Jvm.MethodName) jdk_92_method_6_code (2 : Nat) (Option.none : Option Jvm.ClassFile.FieldType), Jvm.Cond.code ({ cls := "java/util/BitSet", name := "wordIndex", desc := "(I)I" } : Jvm.MethodName) jdk_92_method_1_code (1 : Nat) (Option.some Jvm.ClassFile.FieldType.int), Jvm.Cond.code ({ cls := "com/example/traceweave/traceweave/pattern/NumberedPattern", name := "<init>", desc := "(I[I[ILjava/util/BitSet;Ljava/util/BitSet;)V" } : Jvm.MethodName) prog_42_method_2_code (6 : Nat) (Option.none : Option Jvm.ClassFile.FieldType), Jvm.Cond.code ({ cls := "com/example/traceweave/traceweave/pattern/NumberedPattern$Adjacency", name := "<init>", desc := "(I[I[I)V" } : Jvm.MethodName) prog_43_method_1_code (8 : Nat) (Option.none : Option Jvm.ClassFile.FieldType), Jvm.Cond.code ({ cls := "java/util/Arrays", name := "copyOf", desc := "([II)[I" } : Jvm.MethodName) jdk_65_method_123_code (3 : Nat) (Option.some (Jvm.ClassFile.FieldType.array Jvm.ClassFile.FieldType.int)), Jvm.Cond.code ({ cls := "java/lang/Math", name := "min", desc := "(II)I" } : Jvm.MethodName) jdk_29_method_69_code (2 : Nat) (Option.some Jvm.ClassFile.FieldType.int), Jvm.Cond.code ({ cls := "java/util/Arrays", name := "sort", desc := "([III)V" } : Jvm.MethodName) jdk_65_method_3_code (3 : Nat) (Option.none : Option Jvm.ClassFile.FieldType), Jvm.Cond.code ({ cls := "java/util/Arrays", name := "rangeCheck", desc := "(III)V" } : Jvm.MethodName) jdk_65_method_30_code (3 : Nat) (Option.none : Option Jvm.ClassFile.FieldType), Jvm.Cond.code ({ cls := "java/util/DualPivotQuicksort", name := "sort", desc := "([IIII)V" } : Jvm.MethodName) jdk_2529_method_3_code (7 : Nat) (Option.none : Option Jvm.ClassFile.FieldType), Jvm.Cond.code ({ cls := "java/util/DualPivotQuicksort", name := "sort", desc := "(Ljava/util/DualPivotQuicksort$Sorter;[IIII)V" } : Jvm.MethodName) jdk_2529_method_4_code (21 : Nat) (Option.none : Option Jvm.ClassFile.FieldType), Jvm.Cond.code ({ cls := "java/util/DualPivotQuicksort", name := "insertionSort", desc := "([III)V" } : Jvm.MethodName) jdk_2529_method_6_code (6 : Nat) (Option.none : Option Jvm.ClassFile.FieldType), Jvm.Cond.code ({ cls := "com/example/traceweave/traceweave/pattern/NumberedPattern", name := "isEntered", desc := "(I)Z" } : Jvm.MethodName) prog_42_method_8_code (2 : Nat) (Option.some Jvm.ClassFile.FieldType.boolean), Jvm.Cond.code ({ cls := "com/example/traceweave/traceweave/pattern/NumberedPatternIsEnteredPinLaw", name := "same", desc := "(IIII)Z" } : Jvm.MethodName) method_2_code (4 : Nat) (Option.some Jvm.ClassFile.FieldType.boolean), Jvm.Cond.code ({ cls := "com/example/traceweave/traceweave/pattern/NumberedPattern$Adjacency", name := "isEmpty", desc := "(I)Z" } : Jvm.MethodName) prog_43_method_4_code (2 : Nat) (Option.some Jvm.ClassFile.FieldType.boolean)]
set_option maxRecDepth 65536 in
theorem codes_eq : words1.filter isCode = codes1 := rfl
theorem w_codes : ∀ c ∈ words1.filter isCode, c.before args0 about1 = true := by
  rw [codes_eq]
  intro c hc
  simp only [codes1, List.mem_cons, List.not_mem_nil, or_false] at hc
  rcases hc with rfl | rfl | rfl | rfl | rfl | rfl | rfl | rfl | rfl | rfl | rfl | rfl | rfl | rfl | rfl | rfl | rfl | rfl
  · exact w_c0
  · exact w_c1
  · exact w_c2
  · exact w_c3
  · exact w_c4
  · exact w_c5
  · exact w_c6
  · exact w_c7
  · exact w_c8
  · exact w_c9
  · exact w_c10
  · exact w_c11
  · exact w_c12
  · exact w_c13
  · exact w_c14
  · exact w_c15
  · exact w_c16
  · exact w_c17
set_option maxRecDepth 65536 in
theorem w_t1 : (words1.take 24).all (fun c => isCode c || c.before args0 about1) = true := by decide +kernel
set_option maxRecDepth 65536 in
theorem w_t2 : ((words1.drop 24).take 24).all (fun c => isCode c || c.before args0 about1) = true := by decide +kernel
set_option maxRecDepth 65536 in
theorem w_t3 : (((words1.drop 24).drop 24).take 24).all (fun c => isCode c || c.before args0 about1) = true := by decide +kernel
set_option maxRecDepth 65536 in
theorem w_t4 : ((((words1.drop 24).drop 24).drop 24).take 24).all (fun c => isCode c || c.before args0 about1) = true := by decide +kernel
set_option maxRecDepth 65536 in
theorem w_t5 : ((((words1.drop 24).drop 24).drop 24).drop 24).all (fun c => isCode c || c.before args0 about1) = true := by decide +kernel
theorem w_tables : (allAtoms (Jvm.Cond.code x code maxLocals ret :: tables_1)).before args0 about1 = true := by
  rw [allAtoms_all]
  show words1.all (fun c => c.before args0 about1) = true
  refine all_split ?_ w_codes
  rw [← List.take_append_drop 24 words1, List.all_append, w_t1, ← List.take_append_drop 24 (words1.drop 24), List.all_append, w_t2, ← List.take_append_drop 24 ((words1.drop 24).drop 24), List.all_append, w_t3, ← List.take_append_drop 24 (((words1.drop 24).drop 24).drop 24), List.all_append, w_t4, w_t5]
  rfl
set_option maxRecDepth 65536 in
theorem w_case : (Jvm.Cond.and given_1 narrow_1).before args0 about1 = true := by decide +kernel
theorem w_applies : (headSpec (Jvm.Cond.code x code maxLocals ret :: tables_1) room_1).applies x e0.platform about1 = true :=
  (Spec.applies_iff w_frames).mpr ⟨w_running, w_runnable, w_alone, w_named, w_hears, w_ripe, w_room, w_tables⟩
theorem atStart : AtStart classFile x code maxLocals ret World_1 tables_1 room_1 Calls_1 rest_1 Pre_1 launch0 p0 e0 about1 theMethod args0 below0 :=
  ⟨lists_1, trivial, launch0.admits_env _ _ _, launch0.least_env, fairChoices_fair.cas, fairChoices_fair.clock, w_frames, w_args, w_heap, w_applies, trivial, trivial, w_case⟩
end start1
theorem witness_1 : WitnessClaimed_1 := ⟨start1.p0, start1.e0, start1.about1, start1.theMethod, start1.args0, start1.below0, start1.atStart⟩
end Jvm.Pilot.@@N@@
