import JvmDerived
import JvmDerived.Pilot.@@N@@Statement
import JvmDerived.Pilot.@@N@@Code
set_option linter.unusedVariables false
set_option linter.unusedSimpArgs false
namespace Jvm.Pilot.@@N@@
open Jvm Jvm.ClassFile Sem Op Lib Jvm.Free Jvm.Stand Jvm.LawKit Jvm.RoadKit Bundle Jvm.Pilot.@@N@@.Jvm.D
section OwnKit
variable {p : Program} {l : Launch} {e : Env} {R : Room} {s : State} {m : MethodId} {args : Array Value} {below : List Frame} {meth : Method} {c : Code} {T : State} {locs : List Loc} {cells slots : Nat}
/-- from the state u the run comes to an end of the invocation at which G holds -/
def Go (tb : Tables) (e : Env) (below : List Frame) (G : Outcome → State → Prop) (u : State) : Prop := ∃ s₂ o, Steps tb e below u s₂ ∧ s₂.status = .running ∧ Ended s₂ below o ∧ G o s₂
def End (Q : Option Value → Heap → List Loc → Prop) (s : State) (C S : Nat) (o : Outcome) (u : State) : Prop := ∃ v L, o = .returned v ∧ Q v u.heap L ∧ FrameEnd s o u L C S
theorem go {tb : Tables} {G : Outcome → State → Prop} {u u' : State} (st : ∀ t, Steps tb e below u' t → Steps tb e below u t) (k : Go tb e below G u') : Go tb e below G u := by
  obtain ⟨s₂, o, h1, h2⟩ := k
  exact ⟨s₂, o, st _ h1, h2⟩
theorem goT {tb : Tables} {G : Outcome → State → Prop} {u u' : State} (st : Steps tb e below u u') (k : Go tb e below G u') : Go tb e below G u := go (fun _ h => st.trans h) k
theorem own_fin (X : Stand p l e R s m args below meth c T locs cells slots) (hlk : meth.locks = false) {v : Option Value} (hv : meth.sig.returnType = none → v = none) {Q : Option Value → Heap → List Loc → Prop} {C S : Nat} (hq : Q v T.heap locs) (hc : cells ≤ C) (hs : slots ≤ S) {u : State}
    (st : ∀ fs, (∀ (f : JFrame) (acts : List Action), f.method = m → f.locked = none → f.entered = [] → (doReturn e (T.setTop f) acts v).1 = T.setFrames fs) → Steps p.tables e below u (T.setFrames fs)) : Go p.tables e below (End Q s C S) u := by
  obtain ⟨fs, hr, hrun, hended, hW, hsame⟩ := X.leave (v := v) hv hlk
  exact ⟨_, _, st fs hr, hrun, hended, _, _, rfl, hq, ⟨_, rfl⟩, hW, hsame.mono hc hs⟩
theorem own_retI (X : Stand p l e R s m args below meth c T locs cells slots) (hx : p.tables.exec = Jvm.exec) {pc : Nat} {Ls : Array Slot} {z : Int32} {rest : List Value} (hret : meth.sig.returnType = some .int) (hd : decode c.code pc = .ok (.ireturn, 1)) {fs : List Frame}
    (hl : ∀ (f : JFrame) (acts : List Action), f.method = m → f.locked = none → f.entered = [] → (doReturn e (T.setTop f) acts (some (.int z))).1 = T.setFrames fs) : Steps p.tables e below (T.setTop (mkF m pc Ls (.int z :: rest))) (T.setFrames fs) := by
  have hm' : T.vm.method? m = some meth := X.method'
  have hn : narrow .int (.int z) = .int z := rfl
  show Steps p.tables e below (T.setTop { method := m, pc := pc, locals := Ls, stack := _ :: rest, locked := none }) _
  jvm_step X.here [X.here.top, hx, hd, hm', hret, hn]
  first | (intro acts; rw [hl _ acts rfl rfl rfl]) | rw [hl _ _ rfl rfl rfl]
  exact Steps.refl _
theorem own_retA (X : Stand p l e R s m args below meth c T locs cells slots) (hx : p.tables.exec = Jvm.exec) {pc : Nat} {Ls : Array Slot} {z : Value} {t : FieldType} {rest : List Value} (hret : meth.sig.returnType = some t) (ht : t.isReference = true) (hz : z.isRef = true) (hd : decode c.code pc = .ok (.areturn, 1)) {fs : List Frame}
    (hl : ∀ (f : JFrame) (acts : List Action), f.method = m → f.locked = none → f.entered = [] → (doReturn e (T.setTop f) acts (some z)).1 = T.setFrames fs) : Steps p.tables e below (T.setTop (mkF m pc Ls (z :: rest))) (T.setFrames fs) := by
  have hm' : T.vm.method? m = some meth := X.method'
  show Steps p.tables e below (T.setTop { method := m, pc := pc, locals := Ls, stack := _ :: rest, locked := none }) _
  jvm_step X.here [X.here.top, hx, hd, hm', hret, ht, hz]
  first | (intro acts; rw [hl _ acts rfl rfl rfl]) | rw [hl _ _ rfl rfl rfl]
  exact Steps.refl _
theorem gI (X : Stand p l e R s m args below meth c T locs cells slots) (hx : p.tables.exec = Jvm.exec) (hlk : meth.locks = false) {pc : Nat} {Ls : Array Slot} {z : Int32} {rest : List Value} (hret : meth.sig.returnType = some .int) (hd : decode c.code pc = .ok (.ireturn, 1)) {Q : Option Value → Heap → List Loc → Prop} {C S : Nat} (hq : Q (some (.int z)) T.heap locs) (hc : cells ≤ C) (hs : slots ≤ S) :
    Go p.tables e below (End Q s C S) (T.setTop (mkF m pc Ls (.int z :: rest))) := own_fin X hlk (fun h => by rw [hret] at h; cases h) hq hc hs fun fs hr => own_retI X hx hret hd hr
theorem gN (X : Stand p l e R s m args below meth c T locs cells slots) (hx : p.tables.exec = Jvm.exec) (hlk : meth.locks = false) {pc : Nat} {Ls : Array Slot} {z : Int32} {t : FieldType} {rest : List Value} (hret : meth.sig.returnType = some t) (ht : t = .boolean ∨ t = .byte ∨ t = .char ∨ t = .short) (hn : nar t z = z) (hd : decode c.code pc = .ok (.ireturn, 1)) {Q : Option Value → Heap → List Loc → Prop} {C S : Nat} (hq : Q (some (.int z)) T.heap locs) (hc : cells ≤ C) (hs : slots ≤ S) :
    Go p.tables e below (End Q s C S) (T.setTop (mkF m pc Ls (.int z :: rest))) := own_fin X hlk (fun h => by rw [hret] at h; cases h) hq hc hs fun fs hr => retN X hx hret ht hd (by rw [hn]; exact hr)
theorem gJ (X : Stand p l e R s m args below meth c T locs cells slots) (hx : p.tables.exec = Jvm.exec) (hlk : meth.locks = false) {pc : Nat} {Ls : Array Slot} {z : Int64} (hret : meth.sig.returnType = some .long) (hd : decode c.code pc = .ok (.lreturn, 1)) {Q : Option Value → Heap → List Loc → Prop} {C S : Nat} (hq : Q (some (.long z)) T.heap locs) (hc : cells ≤ C) (hs : slots ≤ S) :
    Go p.tables e below (End Q s C S) (T.setTop (mkF m pc Ls [.long z])) := own_fin X hlk (fun h => by rw [hret] at h; cases h) hq hc hs fun fs hr => X.lreturnOut hx hret hd hr
theorem g0 (X : Stand p l e R s m args below meth c T locs cells slots) (hx : p.tables.exec = Jvm.exec) (hlk : meth.locks = false) {pc : Nat} {Ls : Array Slot} (hret : meth.sig.returnType = none) (hd : decode c.code pc = .ok (.return_, 1)) {Q : Option Value → Heap → List Loc → Prop} {C S : Nat} (hq : Q none T.heap locs) (hc : cells ≤ C) (hs : slots ≤ S) :
    Go p.tables e below (End Q s C S) (T.setTop (mkF m pc Ls [])) := own_fin X hlk (fun _ => rfl) hq hc hs fun fs hr => X.returnOut hx hret hd hr
theorem gA (X : Stand p l e R s m args below meth c T locs cells slots) (hx : p.tables.exec = Jvm.exec) (hlk : meth.locks = false) {pc : Nat} {Ls : Array Slot} {z : Value} {t : FieldType} {rest : List Value} (hret : meth.sig.returnType = some t) (ht : t.isReference = true) (hz : z.isRef = true) (hd : decode c.code pc = .ok (.areturn, 1)) {Q : Option Value → Heap → List Loc → Prop} {C S : Nat} (hq : Q (some z) T.heap locs) (hc : cells ≤ C) (hs : slots ≤ S) :
    Go p.tables e below (End Q s C S) (T.setTop (mkF m pc Ls (z :: rest))) := own_fin X hlk (fun h => by rw [hret] at h; cases h) hq hc hs fun fs hr => own_retA X hx hret ht hz hd hr
end OwnKit
/-- a body's contract out of its walk -/
theorem body {l : Launch} {y : MethodName} {bytes : ByteArray} {maxL : Nat} {ret : Option FieldType} {ws : List Jvm.Cond} {rm : Room} {as' : Array Value} {Z : State} {h0 : Heap} {Q : Option Value → Heap → List Loc → Prop} (pn : plainFor y = true)
    (k : ∀ (p : Program) (e : Env) (s : State) (m : MethodId) (below : List Frame) (meth : Method) (c : Code) (s₁ : State), p.tables.exec = Jvm.exec → c.code = bytes → c.maxLocals = maxL → s.vm.findClass y.cls = some m.cls → meth.name = y.name → meth.sig.returnType = ret → meth.locks = false → Z.Warmed39 s.vm → s₁.heap = h0 →
      Stand p l e rm s m as' below meth c s₁ [] 0 0 → Go p.tables e below (End Q s rm.cells rm.slots) (s₁.setTop (entryFrame m as' maxL))) :
    MetFree l y (head1 (Jvm.Cond.code y bytes maxL ret :: ws) rm) (fun a U => a = as' ∧ Z.Warmed39 U.vm ∧ U.heap = h0) (fun _ _ _ _ _ => True) (fun _ U o U' => ∃ v L, o = .returned v ∧ Q v U'.heap L ∧ FrameEnd U o U' L rm.cells rm.slots) := by
  refine MetFree.of_bodySF pn hisR ?_
  intro p e s m args below meth c s₁ Bd hml hP _
  obtain ⟨rfl, hZ, hh⟩ := hP
  obtain ⟨s₂, o, h1, h2, h3, h4⟩ := k p e s m below meth c s₁ Bd.exec Bd.bytes hml (findClass_of_methodNamed Bd.named) (name_of_methodNamed Bd.named Bd.method).1 Bd.returns Bd.notSynchronized hZ (by rw [← hh, Bd.state]; rfl) (Stand.of_body Bd)
  exact ⟨s₂, o, h1, h2, h3, h4⟩
/-- a boolean as an int -/
def B (P : Prop) [Decidable P] : Int32 := if P then 1 else 0
theorem Bt {P : Prop} [Decidable P] (h : P) : B P = 1 := if_pos h
theorem Bf {P : Prop} [Decidable P] (h : ¬ P) : B P = 0 := if_neg h
theorem B1 {P : Prop} [Decidable P] (h : P) : (1 : Int32) = B P := (if_pos h).symm
theorem B0 {P : Prop} [Decidable P] (h : ¬ P) : (0 : Int32) = B P := (if_neg h).symm
theorem B_iff {P Q : Prop} [Decidable P] [Decidable Q] (h : P ↔ Q) : B P = B Q := by simp only [B, h]
theorem B_nar {P : Prop} [Decidable P] : nar .boolean (B P) = B P := by by_cases h : P <;> simp only [B, h, if_true, if_false] <;> rfl
theorem bT {P : Prop} [Decidable P] (h : P) : ifCond.holds .ne (B P) = true ∧ ifCond.holds .eq (B P) = false := by rw [Bt h]; exact ⟨rfl, rfl⟩
theorem bF {P : Prop} [Decidable P] (h : ¬ P) : ifCond.holds .ne (B P) = false ∧ ifCond.holds .eq (B P) = true := by rw [Bf h]; exact ⟨rfl, rfl⟩
theorem lT {x y : Int64} (h : x < y) : ifCond.holds .lt (lcmpW x y) = true ∧ ifCond.holds .ge (lcmpW x y) = false ∧ ifCond.holds .gt (lcmpW y x) = true ∧ ifCond.holds .le (lcmpW y x) = false := by
  have h1 := tlt ((lw_lt x y).mpr h)
  have h2 := tlt ((lw_gt y x).mpr h)
  simp only [if0]; exact ⟨h1.1, h1.2.1, h2.2.2.1, h2.2.2.2⟩
theorem lF {x y : Int64} (h : ¬ x < y) : ifCond.holds .lt (lcmpW x y) = false ∧ ifCond.holds .ge (lcmpW x y) = true ∧ ifCond.holds .gt (lcmpW y x) = false ∧ ifCond.holds .le (lcmpW y x) = true := by
  have h1 := flt (fun q => h ((lw_lt x y).mp q))
  have h2 := flt (fun q => h ((lw_gt y x).mp q))
  simp only [if0]; exact ⟨h1.1, h1.2.1, h2.2.2.1, h2.2.2.2⟩
theorem lTe {x y : Int64} (h : x = y) : ifCond.holds .eq (lcmpW x y) = true ∧ ifCond.holds .ne (lcmpW x y) = false := by
  simp only [if0]; exact teq ((lw_eq x y).mpr h)
theorem lFe {x y : Int64} (h : ¬ x = y) : ifCond.holds .eq (lcmpW x y) = false ∧ ifCond.holds .ne (lcmpW x y) = true := by
  simp only [if0]; exact feq (fun q => h ((lw_eq x y).mp q))
theorem bTv {P : Prop} [Decidable P] {v : Int32} (hv : v = B P) (h : P) : ifCond.holds .ne v = true ∧ ifCond.holds .eq v = false := hv ▸ bT h
theorem bFv {P : Prop} [Decidable P] {v : Int32} (hv : v = B P) (h : ¬ P) : ifCond.holds .ne v = false ∧ ifCond.holds .eq v = true := hv ▸ bF h
theorem B_narv {P : Prop} [Decidable P] {v : Int32} (hv : v = B P) : nar .boolean v = v := hv ▸ B_nar
theorem own_fitb {v : Int32} (h : nar .boolean v = v) : fits .boolean (.int v) = true := h ▸ fits_nar_bool v
theorem ww {a0 : Array Value} {Z : State} (hw : ∀ d ∈ tables_1, d.before a0 Z = true) (i : Nat) {d : Jvm.Cond} (h : tables_1[i]? = some d) : d.before a0 Z = true := hw d (List.mem_of_getElem? h)
def own_sh (x : Int64) (k : Int32) : Int64 := ((x.toUInt64 >>> (k &&& 0x3f).toInt64.toUInt64).toInt64)
def own_spread (p0 : Int32) : Int64 :=
  let a := p0.toInt64 + (-7046029254386353131 : Int64)
  let b := (a ^^^ own_sh a 30) * (-4658895280553007687 : Int64)
  let c := (b ^^^ own_sh b 27) * (-7723592293110705685 : Int64)
  c ^^^ own_sh c 31
def own_inv (c : Int64) : Int64 :=
  let x1 := c * ((2 : Int64) - c * c)
  let x2 := x1 * ((2 : Int64) - c * x1)
  let x3 := x2 * ((2 : Int64) - c * x2)
  let x4 := x3 * ((2 : Int64) - c * x3)
  x4 * ((2 : Int64) - c * x4)
def own_un (h : Int64) (j k : Int32) : Int64 := (h ^^^ own_sh h j) ^^^ own_sh h k
theorem own_shB (x : Int64) (k : Int32) (n : Nat) (h : ((k &&& 0x3f).toInt64.toUInt64.toBitVec % 64#64).toNat = n) : (own_sh x k).toBitVec = x.toBitVec >>> n := by
  subst h
  simp only [own_sh]
  rfl
theorem own_bx (x : BitVec 64) (n : Nat) (hn : 64 ≤ 3 * n) : ((x ^^^ x >>> n) ^^^ (x ^^^ x >>> n) >>> n) ^^^ (x ^^^ x >>> n) >>> (2 * n) = x := by
  apply BitVec.eq_of_getLsbD_eq
  intro i hi
  simp only [BitVec.getLsbD_xor, BitVec.getLsbD_ushiftRight]
  have h1 : x.getLsbD (n + (2 * n + i)) = false := BitVec.getLsbD_of_ge _ _ (by omega)
  have h2 : n + (n + i) = 2 * n + i := by omega
  rw [h1, h2]
  cases x.getLsbD i <;> cases x.getLsbD (n + i) <;> cases x.getLsbD (2 * n + i) <;> rfl
theorem own_unx (x : Int64) (j k : Int32) (n : Nat) (hj : ((j &&& 0x3f).toInt64.toUInt64.toBitVec % 64#64).toNat = n) (hk : ((k &&& 0x3f).toInt64.toUInt64.toBitVec % 64#64).toNat = 2 * n) (hn : 64 ≤ 3 * n) : own_un (x ^^^ own_sh x j) j k = x := by
  apply Int64.toBitVec_inj.mp
  simp only [own_un, Int64.toBitVec_xor, own_shB _ j n hj, own_shB _ k (2 * n) hk]
  exact own_bx x.toBitVec n hn
theorem own_mul (x c : Int64) (h : c * own_inv c = 1) : x * c * own_inv c = x := by rw [Int64.mul_assoc, h, Int64.mul_one]
theorem own_law (p0 : Int32) : own_un (own_un (own_un (own_spread p0) 31 62 * own_inv (-7723592293110705685 : Int64)) 27 54 * own_inv (-4658895280553007687 : Int64)) 30 60 = p0.toInt64 + (-7046029254386353131 : Int64) := by
  simp only [own_spread]
  rw [own_unx _ 31 62 31 (by decide +kernel) (by decide +kernel) (by decide), own_mul _ _ (by decide +kernel), own_unx _ 27 54 27 (by decide +kernel) (by decide +kernel) (by decide), own_mul _ _ (by decide +kernel), own_unx _ 30 60 30 (by decide +kernel) (by decide +kernel) (by decide)]
theorem pn_com_example_emberlot_emberlot_FrequencySketch_spread_1 : plainFor (⟨"com/example/emberlot/emberlot/FrequencySketch", "spread", "(I)J"⟩ : MethodName) = true := by first | exact plainFor_of_name (by first | (simp [plainName, overriddenIn]; done) | decide +kernel) | decide +kernel
def Q_rm1 (Z : State) (p0 : Int32) (h0 : Heap) (n0 : Nat) (v : Option Value) (h : Heap) (L : List Loc) : Prop := v = some (.long (own_spread p0)) ∧ Fr n0 L ∧ h = h0
set_option maxRecDepth 65536 in
set_option maxHeartbeats 4000000 in
theorem ef_rm1 (m : MethodId) (p0 : Int32) : entryFrame m #[(.int p0)] 3 = mkF m 0 #[.val (.int p0), .unset, .unset] [] := by first | (simp [entryFrame, mkF, argsToLocals, Value.category, maxLocals]; done) | rfl
theorem d1_0 : decode prog_20_method_6_code 0 = .ok (.iload_n 0, 1) := by decide +kernel
theorem d1_1 : decode prog_20_method_6_code 1 = .ok (.i2l, 1) := by decide +kernel
theorem d1_2 : decode prog_20_method_6_code 2 = .ok (.ldc2_w 88, 3) := by decide +kernel
theorem d1_5 : decode prog_20_method_6_code 5 = .ok (.ladd, 1) := by decide +kernel
theorem d1_6 : decode prog_20_method_6_code 6 = .ok (.lstore_n 1, 1) := by decide +kernel
theorem d1_7 : decode prog_20_method_6_code 7 = .ok (.lload_n 1, 1) := by decide +kernel
theorem d1_8 : decode prog_20_method_6_code 8 = .ok (.lload_n 1, 1) := by decide +kernel
theorem d1_9 : decode prog_20_method_6_code 9 = .ok (.bipush 30, 2) := by decide +kernel
theorem d1_11 : decode prog_20_method_6_code 11 = .ok (.lushr, 1) := by decide +kernel
theorem d1_12 : decode prog_20_method_6_code 12 = .ok (.lxor, 1) := by decide +kernel
theorem d1_13 : decode prog_20_method_6_code 13 = .ok (.ldc2_w 90, 3) := by decide +kernel
theorem d1_16 : decode prog_20_method_6_code 16 = .ok (.lmul, 1) := by decide +kernel
theorem d1_17 : decode prog_20_method_6_code 17 = .ok (.lstore_n 1, 1) := by decide +kernel
theorem d1_18 : decode prog_20_method_6_code 18 = .ok (.lload_n 1, 1) := by decide +kernel
theorem d1_19 : decode prog_20_method_6_code 19 = .ok (.lload_n 1, 1) := by decide +kernel
theorem d1_20 : decode prog_20_method_6_code 20 = .ok (.bipush 27, 2) := by decide +kernel
theorem d1_22 : decode prog_20_method_6_code 22 = .ok (.lushr, 1) := by decide +kernel
theorem d1_23 : decode prog_20_method_6_code 23 = .ok (.lxor, 1) := by decide +kernel
theorem d1_24 : decode prog_20_method_6_code 24 = .ok (.ldc2_w 92, 3) := by decide +kernel
theorem d1_27 : decode prog_20_method_6_code 27 = .ok (.lmul, 1) := by decide +kernel
theorem d1_28 : decode prog_20_method_6_code 28 = .ok (.lstore_n 1, 1) := by decide +kernel
theorem d1_29 : decode prog_20_method_6_code 29 = .ok (.lload_n 1, 1) := by decide +kernel
theorem d1_30 : decode prog_20_method_6_code 30 = .ok (.lload_n 1, 1) := by decide +kernel
theorem d1_31 : decode prog_20_method_6_code 31 = .ok (.bipush 31, 2) := by decide +kernel
theorem d1_33 : decode prog_20_method_6_code 33 = .ok (.lushr, 1) := by decide +kernel
theorem d1_34 : decode prog_20_method_6_code 34 = .ok (.lxor, 1) := by decide +kernel
theorem d1_35 : decode prog_20_method_6_code 35 = .ok (.lreturn, 1) := by decide +kernel
set_option maxRecDepth 65536 in
set_option maxHeartbeats 40000000 in
theorem rm1 (l : Launch) (Z : State) (a0 : Array Value) (hw : ∀ d ∈ tables_1, d.before a0 Z = true) (ws : List Jvm.Cond) (p0 : Int32) (h0 : Heap) (n0 : Nat) (Z0 : n0 ≤ h0.size)  :
    MetFree l (⟨"com/example/emberlot/emberlot/FrequencySketch", "spread", "(I)J"⟩ : MethodName) (head1 (Jvm.Cond.code (⟨"com/example/emberlot/emberlot/FrequencySketch", "spread", "(I)J"⟩ : MethodName) prog_20_method_6_code 3 (some .long) :: ws) ({ frames := 0, cells := 0, slots := 0, locals := 0 } : Room)) (fun a U => a = #[(.int p0)] ∧ Z.Warmed39 U.vm ∧ U.heap = h0) (fun _ _ _ _ _ => True) (fun _ U o U' => ∃ v L, o = .returned v ∧ Q_rm1 Z p0 h0 n0 v U'.heap L ∧ FrameEnd U o U' L ({ frames := 0, cells := 0, slots := 0, locals := 0 } : Room).cells ({ frames := 0, cells := 0, slots := 0, locals := 0 } : Room).slots) := by
  refine body pn_com_example_emberlot_emberlot_FrequencySketch_spread_1 ?_
  intro p e s m below meth c s₁ hx hby hml hown hnm hret hlk hZ e0 X0
  replace hml : c.maxLocals = 3 := hml
  replace hown : s.vm.findClass "com/example/emberlot/emberlot/FrequencySketch" = some m.cls := hown
  replace hnm : meth.name = "spread" := hnm
  replace hret : meth.sig.returnType = (some .long) := hret
  have N0 := Fr.nil n0
  rw [ef_rm1]
  obtain ⟨G, hG⟩ : ∃ G, G = End (Q_rm1 Z p0 h0 n0) s ({ frames := 0, cells := 0, slots := 0, locals := 0 } : Room).cells ({ frames := 0, cells := 0, slots := 0, locals := 0 } : Room).slots := ⟨_, rfl⟩
  rw [← hG]
  refine go (u' := s₁.setTop (mkF m 1 #[.val (.int p0), .unset, .unset] [(.int p0)])) (fun _ ks_ => XS.iloadN X0.here hx rfl (hb hby d1_0) rfl  ks_) ?_
  refine go (u' := s₁.setTop (mkF m 2 #[.val (.int p0), .unset, .unset] [(.long (p0.toInt64))])) (fun _ ks_ => XS.i2l X0.here hx rfl (hb hby d1_1) rfl ks_) ?_
  refine go (u' := s₁.setTop (mkF m 5 #[.val (.int p0), .unset, .unset] [(.long (-7046029254386353131 : Int64)), (.long (p0.toInt64))])) (X0.ldc2Long hx hown (mvT hZ (ww hw 4 rfl)) (g := (mkF m 2 #[.val (.int p0), .unset, .unset] [(.long (p0.toInt64))])) rfl (hb hby d1_2)) ?_
  refine go (u' := s₁.setTop (mkF m 6 #[.val (.int p0), .unset, .unset] [(.long ((p0.toInt64) + (-7046029254386353131 : Int64)))])) (fun _ ks_ => XS.ladd X0.here hx rfl (hb hby d1_5) rfl ks_) ?_
  refine go (u' := s₁.setTop (mkF m 7 #[.val (.int p0), .val (.long ((p0.toInt64) + (-7046029254386353131 : Int64))), .second] [])) (fun _ ks_ => XS.lstoreN X0.here hx rfl (hb hby d1_6) rfl  (l' := #[.val (.int p0), .val (.long ((p0.toInt64) + (-7046029254386353131 : Int64))), .second]) rfl ks_) ?_
  refine go (u' := s₁.setTop (mkF m 8 #[.val (.int p0), .val (.long ((p0.toInt64) + (-7046029254386353131 : Int64))), .second] [(.long ((p0.toInt64) + (-7046029254386353131 : Int64)))])) (fun _ ks_ => XS.lloadN X0.here hx rfl (hb hby d1_7) rfl  ks_) ?_
  refine go (u' := s₁.setTop (mkF m 9 #[.val (.int p0), .val (.long ((p0.toInt64) + (-7046029254386353131 : Int64))), .second] [(.long ((p0.toInt64) + (-7046029254386353131 : Int64))), (.long ((p0.toInt64) + (-7046029254386353131 : Int64)))])) (fun _ ks_ => XS.lloadN X0.here hx rfl (hb hby d1_8) rfl  ks_) ?_
  refine go (u' := s₁.setTop (mkF m 11 #[.val (.int p0), .val (.long ((p0.toInt64) + (-7046029254386353131 : Int64))), .second] [(.int (30 : Int32)), (.long ((p0.toInt64) + (-7046029254386353131 : Int64))), (.long ((p0.toInt64) + (-7046029254386353131 : Int64)))])) (fun _ ks_ => XS.bipush X0.here hx rfl (hb hby d1_9) ks_) ?_
  refine go (u' := s₁.setTop (mkF m 12 #[.val (.int p0), .val (.long ((p0.toInt64) + (-7046029254386353131 : Int64))), .second] [(.long ((((p0.toInt64) + (-7046029254386353131 : Int64)).toUInt64 >>> ((30 : Int32) &&& 0x3f).toInt64.toUInt64).toInt64)), (.long ((p0.toInt64) + (-7046029254386353131 : Int64)))])) (fun _ ks_ => XS.lushr X0.here hx rfl (hb hby d1_11) rfl ks_) ?_
  refine go (u' := s₁.setTop (mkF m 13 #[.val (.int p0), .val (.long ((p0.toInt64) + (-7046029254386353131 : Int64))), .second] [(.long (((p0.toInt64) + (-7046029254386353131 : Int64)) ^^^ ((((p0.toInt64) + (-7046029254386353131 : Int64)).toUInt64 >>> ((30 : Int32) &&& 0x3f).toInt64.toUInt64).toInt64)))])) (fun _ ks_ => XS.lxor X0.here hx rfl (hb hby d1_12) rfl ks_) ?_
  refine go (u' := s₁.setTop (mkF m 16 #[.val (.int p0), .val (.long ((p0.toInt64) + (-7046029254386353131 : Int64))), .second] [(.long (-4658895280553007687 : Int64)), (.long (((p0.toInt64) + (-7046029254386353131 : Int64)) ^^^ ((((p0.toInt64) + (-7046029254386353131 : Int64)).toUInt64 >>> ((30 : Int32) &&& 0x3f).toInt64.toUInt64).toInt64)))])) (X0.ldc2Long hx hown (mvT hZ (ww hw 5 rfl)) (g := (mkF m 13 #[.val (.int p0), .val (.long ((p0.toInt64) + (-7046029254386353131 : Int64))), .second] [(.long (((p0.toInt64) + (-7046029254386353131 : Int64)) ^^^ ((((p0.toInt64) + (-7046029254386353131 : Int64)).toUInt64 >>> ((30 : Int32) &&& 0x3f).toInt64.toUInt64).toInt64)))])) rfl (hb hby d1_13)) ?_
  refine go (u' := s₁.setTop (mkF m 17 #[.val (.int p0), .val (.long ((p0.toInt64) + (-7046029254386353131 : Int64))), .second] [(.long ((((p0.toInt64) + (-7046029254386353131 : Int64)) ^^^ ((((p0.toInt64) + (-7046029254386353131 : Int64)).toUInt64 >>> ((30 : Int32) &&& 0x3f).toInt64.toUInt64).toInt64)) * (-4658895280553007687 : Int64)))])) (fun _ ks_ => XS.lmul X0.here hx rfl (hb hby d1_16) rfl ks_) ?_
  refine go (u' := s₁.setTop (mkF m 18 #[.val (.int p0), .val (.long ((((p0.toInt64) + (-7046029254386353131 : Int64)) ^^^ ((((p0.toInt64) + (-7046029254386353131 : Int64)).toUInt64 >>> ((30 : Int32) &&& 0x3f).toInt64.toUInt64).toInt64)) * (-4658895280553007687 : Int64))), .second] [])) (fun _ ks_ => XS.lstoreN X0.here hx rfl (hb hby d1_17) rfl  (l' := #[.val (.int p0), .val (.long ((((p0.toInt64) + (-7046029254386353131 : Int64)) ^^^ ((((p0.toInt64) + (-7046029254386353131 : Int64)).toUInt64 >>> ((30 : Int32) &&& 0x3f).toInt64.toUInt64).toInt64)) * (-4658895280553007687 : Int64))), .second]) rfl ks_) ?_
  refine go (u' := s₁.setTop (mkF m 19 #[.val (.int p0), .val (.long ((((p0.toInt64) + (-7046029254386353131 : Int64)) ^^^ ((((p0.toInt64) + (-7046029254386353131 : Int64)).toUInt64 >>> ((30 : Int32) &&& 0x3f).toInt64.toUInt64).toInt64)) * (-4658895280553007687 : Int64))), .second] [(.long ((((p0.toInt64) + (-7046029254386353131 : Int64)) ^^^ ((((p0.toInt64) + (-7046029254386353131 : Int64)).toUInt64 >>> ((30 : Int32) &&& 0x3f).toInt64.toUInt64).toInt64)) * (-4658895280553007687 : Int64)))])) (fun _ ks_ => XS.lloadN X0.here hx rfl (hb hby d1_18) rfl  ks_) ?_
  refine go (u' := s₁.setTop (mkF m 20 #[.val (.int p0), .val (.long ((((p0.toInt64) + (-7046029254386353131 : Int64)) ^^^ ((((p0.toInt64) + (-7046029254386353131 : Int64)).toUInt64 >>> ((30 : Int32) &&& 0x3f).toInt64.toUInt64).toInt64)) * (-4658895280553007687 : Int64))), .second] [(.long ((((p0.toInt64) + (-7046029254386353131 : Int64)) ^^^ ((((p0.toInt64) + (-7046029254386353131 : Int64)).toUInt64 >>> ((30 : Int32) &&& 0x3f).toInt64.toUInt64).toInt64)) * (-4658895280553007687 : Int64))), (.long ((((p0.toInt64) + (-7046029254386353131 : Int64)) ^^^ ((((p0.toInt64) + (-7046029254386353131 : Int64)).toUInt64 >>> ((30 : Int32) &&& 0x3f).toInt64.toUInt64).toInt64)) * (-4658895280553007687 : Int64)))])) (fun _ ks_ => XS.lloadN X0.here hx rfl (hb hby d1_19) rfl  ks_) ?_
  refine go (u' := s₁.setTop (mkF m 22 #[.val (.int p0), .val (.long ((((p0.toInt64) + (-7046029254386353131 : Int64)) ^^^ ((((p0.toInt64) + (-7046029254386353131 : Int64)).toUInt64 >>> ((30 : Int32) &&& 0x3f).toInt64.toUInt64).toInt64)) * (-4658895280553007687 : Int64))), .second] [(.int (27 : Int32)), (.long ((((p0.toInt64) + (-7046029254386353131 : Int64)) ^^^ ((((p0.toInt64) + (-7046029254386353131 : Int64)).toUInt64 >>> ((30 : Int32) &&& 0x3f).toInt64.toUInt64).toInt64)) * (-4658895280553007687 : Int64))), (.long ((((p0.toInt64) + (-7046029254386353131 : Int64)) ^^^ ((((p0.toInt64) + (-7046029254386353131 : Int64)).toUInt64 >>> ((30 : Int32) &&& 0x3f).toInt64.toUInt64).toInt64)) * (-4658895280553007687 : Int64)))])) (fun _ ks_ => XS.bipush X0.here hx rfl (hb hby d1_20) ks_) ?_
  refine go (u' := s₁.setTop (mkF m 23 #[.val (.int p0), .val (.long ((((p0.toInt64) + (-7046029254386353131 : Int64)) ^^^ ((((p0.toInt64) + (-7046029254386353131 : Int64)).toUInt64 >>> ((30 : Int32) &&& 0x3f).toInt64.toUInt64).toInt64)) * (-4658895280553007687 : Int64))), .second] [(.long ((((((p0.toInt64) + (-7046029254386353131 : Int64)) ^^^ ((((p0.toInt64) + (-7046029254386353131 : Int64)).toUInt64 >>> ((30 : Int32) &&& 0x3f).toInt64.toUInt64).toInt64)) * (-4658895280553007687 : Int64)).toUInt64 >>> ((27 : Int32) &&& 0x3f).toInt64.toUInt64).toInt64)), (.long ((((p0.toInt64) + (-7046029254386353131 : Int64)) ^^^ ((((p0.toInt64) + (-7046029254386353131 : Int64)).toUInt64 >>> ((30 : Int32) &&& 0x3f).toInt64.toUInt64).toInt64)) * (-4658895280553007687 : Int64)))])) (fun _ ks_ => XS.lushr X0.here hx rfl (hb hby d1_22) rfl ks_) ?_
  refine go (u' := s₁.setTop (mkF m 24 #[.val (.int p0), .val (.long ((((p0.toInt64) + (-7046029254386353131 : Int64)) ^^^ ((((p0.toInt64) + (-7046029254386353131 : Int64)).toUInt64 >>> ((30 : Int32) &&& 0x3f).toInt64.toUInt64).toInt64)) * (-4658895280553007687 : Int64))), .second] [(.long (((((p0.toInt64) + (-7046029254386353131 : Int64)) ^^^ ((((p0.toInt64) + (-7046029254386353131 : Int64)).toUInt64 >>> ((30 : Int32) &&& 0x3f).toInt64.toUInt64).toInt64)) * (-4658895280553007687 : Int64)) ^^^ ((((((p0.toInt64) + (-7046029254386353131 : Int64)) ^^^ ((((p0.toInt64) + (-7046029254386353131 : Int64)).toUInt64 >>> ((30 : Int32) &&& 0x3f).toInt64.toUInt64).toInt64)) * (-4658895280553007687 : Int64)).toUInt64 >>> ((27 : Int32) &&& 0x3f).toInt64.toUInt64).toInt64)))])) (fun _ ks_ => XS.lxor X0.here hx rfl (hb hby d1_23) rfl ks_) ?_
  refine go (u' := s₁.setTop (mkF m 27 #[.val (.int p0), .val (.long ((((p0.toInt64) + (-7046029254386353131 : Int64)) ^^^ ((((p0.toInt64) + (-7046029254386353131 : Int64)).toUInt64 >>> ((30 : Int32) &&& 0x3f).toInt64.toUInt64).toInt64)) * (-4658895280553007687 : Int64))), .second] [(.long (-7723592293110705685 : Int64)), (.long (((((p0.toInt64) + (-7046029254386353131 : Int64)) ^^^ ((((p0.toInt64) + (-7046029254386353131 : Int64)).toUInt64 >>> ((30 : Int32) &&& 0x3f).toInt64.toUInt64).toInt64)) * (-4658895280553007687 : Int64)) ^^^ ((((((p0.toInt64) + (-7046029254386353131 : Int64)) ^^^ ((((p0.toInt64) + (-7046029254386353131 : Int64)).toUInt64 >>> ((30 : Int32) &&& 0x3f).toInt64.toUInt64).toInt64)) * (-4658895280553007687 : Int64)).toUInt64 >>> ((27 : Int32) &&& 0x3f).toInt64.toUInt64).toInt64)))])) (X0.ldc2Long hx hown (mvT hZ (ww hw 6 rfl)) (g := (mkF m 24 #[.val (.int p0), .val (.long ((((p0.toInt64) + (-7046029254386353131 : Int64)) ^^^ ((((p0.toInt64) + (-7046029254386353131 : Int64)).toUInt64 >>> ((30 : Int32) &&& 0x3f).toInt64.toUInt64).toInt64)) * (-4658895280553007687 : Int64))), .second] [(.long (((((p0.toInt64) + (-7046029254386353131 : Int64)) ^^^ ((((p0.toInt64) + (-7046029254386353131 : Int64)).toUInt64 >>> ((30 : Int32) &&& 0x3f).toInt64.toUInt64).toInt64)) * (-4658895280553007687 : Int64)) ^^^ ((((((p0.toInt64) + (-7046029254386353131 : Int64)) ^^^ ((((p0.toInt64) + (-7046029254386353131 : Int64)).toUInt64 >>> ((30 : Int32) &&& 0x3f).toInt64.toUInt64).toInt64)) * (-4658895280553007687 : Int64)).toUInt64 >>> ((27 : Int32) &&& 0x3f).toInt64.toUInt64).toInt64)))])) rfl (hb hby d1_24)) ?_
  refine go (u' := s₁.setTop (mkF m 28 #[.val (.int p0), .val (.long ((((p0.toInt64) + (-7046029254386353131 : Int64)) ^^^ ((((p0.toInt64) + (-7046029254386353131 : Int64)).toUInt64 >>> ((30 : Int32) &&& 0x3f).toInt64.toUInt64).toInt64)) * (-4658895280553007687 : Int64))), .second] [(.long ((((((p0.toInt64) + (-7046029254386353131 : Int64)) ^^^ ((((p0.toInt64) + (-7046029254386353131 : Int64)).toUInt64 >>> ((30 : Int32) &&& 0x3f).toInt64.toUInt64).toInt64)) * (-4658895280553007687 : Int64)) ^^^ ((((((p0.toInt64) + (-7046029254386353131 : Int64)) ^^^ ((((p0.toInt64) + (-7046029254386353131 : Int64)).toUInt64 >>> ((30 : Int32) &&& 0x3f).toInt64.toUInt64).toInt64)) * (-4658895280553007687 : Int64)).toUInt64 >>> ((27 : Int32) &&& 0x3f).toInt64.toUInt64).toInt64)) * (-7723592293110705685 : Int64)))])) (fun _ ks_ => XS.lmul X0.here hx rfl (hb hby d1_27) rfl ks_) ?_
  refine go (u' := s₁.setTop (mkF m 29 #[.val (.int p0), .val (.long ((((((p0.toInt64) + (-7046029254386353131 : Int64)) ^^^ ((((p0.toInt64) + (-7046029254386353131 : Int64)).toUInt64 >>> ((30 : Int32) &&& 0x3f).toInt64.toUInt64).toInt64)) * (-4658895280553007687 : Int64)) ^^^ ((((((p0.toInt64) + (-7046029254386353131 : Int64)) ^^^ ((((p0.toInt64) + (-7046029254386353131 : Int64)).toUInt64 >>> ((30 : Int32) &&& 0x3f).toInt64.toUInt64).toInt64)) * (-4658895280553007687 : Int64)).toUInt64 >>> ((27 : Int32) &&& 0x3f).toInt64.toUInt64).toInt64)) * (-7723592293110705685 : Int64))), .second] [])) (fun _ ks_ => XS.lstoreN X0.here hx rfl (hb hby d1_28) rfl  (l' := #[.val (.int p0), .val (.long ((((((p0.toInt64) + (-7046029254386353131 : Int64)) ^^^ ((((p0.toInt64) + (-7046029254386353131 : Int64)).toUInt64 >>> ((30 : Int32) &&& 0x3f).toInt64.toUInt64).toInt64)) * (-4658895280553007687 : Int64)) ^^^ ((((((p0.toInt64) + (-7046029254386353131 : Int64)) ^^^ ((((p0.toInt64) + (-7046029254386353131 : Int64)).toUInt64 >>> ((30 : Int32) &&& 0x3f).toInt64.toUInt64).toInt64)) * (-4658895280553007687 : Int64)).toUInt64 >>> ((27 : Int32) &&& 0x3f).toInt64.toUInt64).toInt64)) * (-7723592293110705685 : Int64))), .second]) rfl ks_) ?_
  refine go (u' := s₁.setTop (mkF m 30 #[.val (.int p0), .val (.long ((((((p0.toInt64) + (-7046029254386353131 : Int64)) ^^^ ((((p0.toInt64) + (-7046029254386353131 : Int64)).toUInt64 >>> ((30 : Int32) &&& 0x3f).toInt64.toUInt64).toInt64)) * (-4658895280553007687 : Int64)) ^^^ ((((((p0.toInt64) + (-7046029254386353131 : Int64)) ^^^ ((((p0.toInt64) + (-7046029254386353131 : Int64)).toUInt64 >>> ((30 : Int32) &&& 0x3f).toInt64.toUInt64).toInt64)) * (-4658895280553007687 : Int64)).toUInt64 >>> ((27 : Int32) &&& 0x3f).toInt64.toUInt64).toInt64)) * (-7723592293110705685 : Int64))), .second] [(.long ((((((p0.toInt64) + (-7046029254386353131 : Int64)) ^^^ ((((p0.toInt64) + (-7046029254386353131 : Int64)).toUInt64 >>> ((30 : Int32) &&& 0x3f).toInt64.toUInt64).toInt64)) * (-4658895280553007687 : Int64)) ^^^ ((((((p0.toInt64) + (-7046029254386353131 : Int64)) ^^^ ((((p0.toInt64) + (-7046029254386353131 : Int64)).toUInt64 >>> ((30 : Int32) &&& 0x3f).toInt64.toUInt64).toInt64)) * (-4658895280553007687 : Int64)).toUInt64 >>> ((27 : Int32) &&& 0x3f).toInt64.toUInt64).toInt64)) * (-7723592293110705685 : Int64)))])) (fun _ ks_ => XS.lloadN X0.here hx rfl (hb hby d1_29) rfl  ks_) ?_
  refine go (u' := s₁.setTop (mkF m 31 #[.val (.int p0), .val (.long ((((((p0.toInt64) + (-7046029254386353131 : Int64)) ^^^ ((((p0.toInt64) + (-7046029254386353131 : Int64)).toUInt64 >>> ((30 : Int32) &&& 0x3f).toInt64.toUInt64).toInt64)) * (-4658895280553007687 : Int64)) ^^^ ((((((p0.toInt64) + (-7046029254386353131 : Int64)) ^^^ ((((p0.toInt64) + (-7046029254386353131 : Int64)).toUInt64 >>> ((30 : Int32) &&& 0x3f).toInt64.toUInt64).toInt64)) * (-4658895280553007687 : Int64)).toUInt64 >>> ((27 : Int32) &&& 0x3f).toInt64.toUInt64).toInt64)) * (-7723592293110705685 : Int64))), .second] [(.long ((((((p0.toInt64) + (-7046029254386353131 : Int64)) ^^^ ((((p0.toInt64) + (-7046029254386353131 : Int64)).toUInt64 >>> ((30 : Int32) &&& 0x3f).toInt64.toUInt64).toInt64)) * (-4658895280553007687 : Int64)) ^^^ ((((((p0.toInt64) + (-7046029254386353131 : Int64)) ^^^ ((((p0.toInt64) + (-7046029254386353131 : Int64)).toUInt64 >>> ((30 : Int32) &&& 0x3f).toInt64.toUInt64).toInt64)) * (-4658895280553007687 : Int64)).toUInt64 >>> ((27 : Int32) &&& 0x3f).toInt64.toUInt64).toInt64)) * (-7723592293110705685 : Int64))), (.long ((((((p0.toInt64) + (-7046029254386353131 : Int64)) ^^^ ((((p0.toInt64) + (-7046029254386353131 : Int64)).toUInt64 >>> ((30 : Int32) &&& 0x3f).toInt64.toUInt64).toInt64)) * (-4658895280553007687 : Int64)) ^^^ ((((((p0.toInt64) + (-7046029254386353131 : Int64)) ^^^ ((((p0.toInt64) + (-7046029254386353131 : Int64)).toUInt64 >>> ((30 : Int32) &&& 0x3f).toInt64.toUInt64).toInt64)) * (-4658895280553007687 : Int64)).toUInt64 >>> ((27 : Int32) &&& 0x3f).toInt64.toUInt64).toInt64)) * (-7723592293110705685 : Int64)))])) (fun _ ks_ => XS.lloadN X0.here hx rfl (hb hby d1_30) rfl  ks_) ?_
  refine go (u' := s₁.setTop (mkF m 33 #[.val (.int p0), .val (.long ((((((p0.toInt64) + (-7046029254386353131 : Int64)) ^^^ ((((p0.toInt64) + (-7046029254386353131 : Int64)).toUInt64 >>> ((30 : Int32) &&& 0x3f).toInt64.toUInt64).toInt64)) * (-4658895280553007687 : Int64)) ^^^ ((((((p0.toInt64) + (-7046029254386353131 : Int64)) ^^^ ((((p0.toInt64) + (-7046029254386353131 : Int64)).toUInt64 >>> ((30 : Int32) &&& 0x3f).toInt64.toUInt64).toInt64)) * (-4658895280553007687 : Int64)).toUInt64 >>> ((27 : Int32) &&& 0x3f).toInt64.toUInt64).toInt64)) * (-7723592293110705685 : Int64))), .second] [(.int (31 : Int32)), (.long ((((((p0.toInt64) + (-7046029254386353131 : Int64)) ^^^ ((((p0.toInt64) + (-7046029254386353131 : Int64)).toUInt64 >>> ((30 : Int32) &&& 0x3f).toInt64.toUInt64).toInt64)) * (-4658895280553007687 : Int64)) ^^^ ((((((p0.toInt64) + (-7046029254386353131 : Int64)) ^^^ ((((p0.toInt64) + (-7046029254386353131 : Int64)).toUInt64 >>> ((30 : Int32) &&& 0x3f).toInt64.toUInt64).toInt64)) * (-4658895280553007687 : Int64)).toUInt64 >>> ((27 : Int32) &&& 0x3f).toInt64.toUInt64).toInt64)) * (-7723592293110705685 : Int64))), (.long ((((((p0.toInt64) + (-7046029254386353131 : Int64)) ^^^ ((((p0.toInt64) + (-7046029254386353131 : Int64)).toUInt64 >>> ((30 : Int32) &&& 0x3f).toInt64.toUInt64).toInt64)) * (-4658895280553007687 : Int64)) ^^^ ((((((p0.toInt64) + (-7046029254386353131 : Int64)) ^^^ ((((p0.toInt64) + (-7046029254386353131 : Int64)).toUInt64 >>> ((30 : Int32) &&& 0x3f).toInt64.toUInt64).toInt64)) * (-4658895280553007687 : Int64)).toUInt64 >>> ((27 : Int32) &&& 0x3f).toInt64.toUInt64).toInt64)) * (-7723592293110705685 : Int64)))])) (fun _ ks_ => XS.bipush X0.here hx rfl (hb hby d1_31) ks_) ?_
  refine go (u' := s₁.setTop (mkF m 34 #[.val (.int p0), .val (.long ((((((p0.toInt64) + (-7046029254386353131 : Int64)) ^^^ ((((p0.toInt64) + (-7046029254386353131 : Int64)).toUInt64 >>> ((30 : Int32) &&& 0x3f).toInt64.toUInt64).toInt64)) * (-4658895280553007687 : Int64)) ^^^ ((((((p0.toInt64) + (-7046029254386353131 : Int64)) ^^^ ((((p0.toInt64) + (-7046029254386353131 : Int64)).toUInt64 >>> ((30 : Int32) &&& 0x3f).toInt64.toUInt64).toInt64)) * (-4658895280553007687 : Int64)).toUInt64 >>> ((27 : Int32) &&& 0x3f).toInt64.toUInt64).toInt64)) * (-7723592293110705685 : Int64))), .second] [(.long ((((((((p0.toInt64) + (-7046029254386353131 : Int64)) ^^^ ((((p0.toInt64) + (-7046029254386353131 : Int64)).toUInt64 >>> ((30 : Int32) &&& 0x3f).toInt64.toUInt64).toInt64)) * (-4658895280553007687 : Int64)) ^^^ ((((((p0.toInt64) + (-7046029254386353131 : Int64)) ^^^ ((((p0.toInt64) + (-7046029254386353131 : Int64)).toUInt64 >>> ((30 : Int32) &&& 0x3f).toInt64.toUInt64).toInt64)) * (-4658895280553007687 : Int64)).toUInt64 >>> ((27 : Int32) &&& 0x3f).toInt64.toUInt64).toInt64)) * (-7723592293110705685 : Int64)).toUInt64 >>> ((31 : Int32) &&& 0x3f).toInt64.toUInt64).toInt64)), (.long ((((((p0.toInt64) + (-7046029254386353131 : Int64)) ^^^ ((((p0.toInt64) + (-7046029254386353131 : Int64)).toUInt64 >>> ((30 : Int32) &&& 0x3f).toInt64.toUInt64).toInt64)) * (-4658895280553007687 : Int64)) ^^^ ((((((p0.toInt64) + (-7046029254386353131 : Int64)) ^^^ ((((p0.toInt64) + (-7046029254386353131 : Int64)).toUInt64 >>> ((30 : Int32) &&& 0x3f).toInt64.toUInt64).toInt64)) * (-4658895280553007687 : Int64)).toUInt64 >>> ((27 : Int32) &&& 0x3f).toInt64.toUInt64).toInt64)) * (-7723592293110705685 : Int64)))])) (fun _ ks_ => XS.lushr X0.here hx rfl (hb hby d1_33) rfl ks_) ?_
  refine go (u' := s₁.setTop (mkF m 35 #[.val (.int p0), .val (.long ((((((p0.toInt64) + (-7046029254386353131 : Int64)) ^^^ ((((p0.toInt64) + (-7046029254386353131 : Int64)).toUInt64 >>> ((30 : Int32) &&& 0x3f).toInt64.toUInt64).toInt64)) * (-4658895280553007687 : Int64)) ^^^ ((((((p0.toInt64) + (-7046029254386353131 : Int64)) ^^^ ((((p0.toInt64) + (-7046029254386353131 : Int64)).toUInt64 >>> ((30 : Int32) &&& 0x3f).toInt64.toUInt64).toInt64)) * (-4658895280553007687 : Int64)).toUInt64 >>> ((27 : Int32) &&& 0x3f).toInt64.toUInt64).toInt64)) * (-7723592293110705685 : Int64))), .second] [(.long (((((((p0.toInt64) + (-7046029254386353131 : Int64)) ^^^ ((((p0.toInt64) + (-7046029254386353131 : Int64)).toUInt64 >>> ((30 : Int32) &&& 0x3f).toInt64.toUInt64).toInt64)) * (-4658895280553007687 : Int64)) ^^^ ((((((p0.toInt64) + (-7046029254386353131 : Int64)) ^^^ ((((p0.toInt64) + (-7046029254386353131 : Int64)).toUInt64 >>> ((30 : Int32) &&& 0x3f).toInt64.toUInt64).toInt64)) * (-4658895280553007687 : Int64)).toUInt64 >>> ((27 : Int32) &&& 0x3f).toInt64.toUInt64).toInt64)) * (-7723592293110705685 : Int64)) ^^^ ((((((((p0.toInt64) + (-7046029254386353131 : Int64)) ^^^ ((((p0.toInt64) + (-7046029254386353131 : Int64)).toUInt64 >>> ((30 : Int32) &&& 0x3f).toInt64.toUInt64).toInt64)) * (-4658895280553007687 : Int64)) ^^^ ((((((p0.toInt64) + (-7046029254386353131 : Int64)) ^^^ ((((p0.toInt64) + (-7046029254386353131 : Int64)).toUInt64 >>> ((30 : Int32) &&& 0x3f).toInt64.toUInt64).toInt64)) * (-4658895280553007687 : Int64)).toUInt64 >>> ((27 : Int32) &&& 0x3f).toInt64.toUInt64).toInt64)) * (-7723592293110705685 : Int64)).toUInt64 >>> ((31 : Int32) &&& 0x3f).toInt64.toUInt64).toInt64)))])) (fun _ ks_ => XS.lxor X0.here hx rfl (hb hby d1_34) rfl ks_) ?_
  rw [hG]
  refine gJ X0 hx hlk hret (hb hby d1_35) ?_ (Nat.le_of_ble_eq_true rfl) (Nat.le_of_ble_eq_true rfl)
  show Q_rm1 Z p0 h0 n0 (some (.long (((((((p0.toInt64) + (-7046029254386353131 : Int64)) ^^^ ((((p0.toInt64) + (-7046029254386353131 : Int64)).toUInt64 >>> ((30 : Int32) &&& 0x3f).toInt64.toUInt64).toInt64)) * (-4658895280553007687 : Int64)) ^^^ ((((((p0.toInt64) + (-7046029254386353131 : Int64)) ^^^ ((((p0.toInt64) + (-7046029254386353131 : Int64)).toUInt64 >>> ((30 : Int32) &&& 0x3f).toInt64.toUInt64).toInt64)) * (-4658895280553007687 : Int64)).toUInt64 >>> ((27 : Int32) &&& 0x3f).toInt64.toUInt64).toInt64)) * (-7723592293110705685 : Int64)) ^^^ ((((((((p0.toInt64) + (-7046029254386353131 : Int64)) ^^^ ((((p0.toInt64) + (-7046029254386353131 : Int64)).toUInt64 >>> ((30 : Int32) &&& 0x3f).toInt64.toUInt64).toInt64)) * (-4658895280553007687 : Int64)) ^^^ ((((((p0.toInt64) + (-7046029254386353131 : Int64)) ^^^ ((((p0.toInt64) + (-7046029254386353131 : Int64)).toUInt64 >>> ((30 : Int32) &&& 0x3f).toInt64.toUInt64).toInt64)) * (-4658895280553007687 : Int64)).toUInt64 >>> ((27 : Int32) &&& 0x3f).toInt64.toUInt64).toInt64)) * (-7723592293110705685 : Int64)).toUInt64 >>> ((31 : Int32) &&& 0x3f).toInt64.toUInt64).toInt64)))) s₁.heap _
  rw [e0]
  exact ⟨rfl, N0, rfl⟩
theorem pn_com_example_emberlot_emberlot_FrequencySketchSpreadPinLaw_inverse_2 : plainFor (⟨"com/example/emberlot/emberlot/FrequencySketchSpreadPinLaw", "inverse", "(J)J"⟩ : MethodName) = true := by first | exact plainFor_of_name (by first | (simp [plainName, overriddenIn]; done) | decide +kernel) | decide +kernel
def Q_rm2 (Z : State) (q0 : Int64) (h0 : Heap) (n0 : Nat) (v : Option Value) (h : Heap) (L : List Loc) : Prop := v = some (.long (own_inv q0)) ∧ Fr n0 L ∧ h = h0
set_option maxRecDepth 65536 in
set_option maxHeartbeats 4000000 in
theorem ef_rm2 (m : MethodId) (q0 : Int64) : entryFrame m #[(.long q0)] 4 = mkF m 0 #[.val (.long q0), .second, .unset, .unset] [] := by first | (simp [entryFrame, mkF, argsToLocals, Value.category, maxLocals]; done) | rfl
theorem d2_0 : decode method_3_code 0 = .ok (.lload_n 0, 1) := by decide +kernel
theorem d2_1 : decode method_3_code 1 = .ok (.lstore_n 2, 1) := by decide +kernel
theorem d2_2 : decode method_3_code 2 = .ok (.lload_n 2, 1) := by decide +kernel
theorem d2_3 : decode method_3_code 3 = .ok (.ldc2_w 25, 3) := by decide +kernel
theorem d2_6 : decode method_3_code 6 = .ok (.lload_n 0, 1) := by decide +kernel
theorem d2_7 : decode method_3_code 7 = .ok (.lload_n 2, 1) := by decide +kernel
theorem d2_8 : decode method_3_code 8 = .ok (.lmul, 1) := by decide +kernel
theorem d2_9 : decode method_3_code 9 = .ok (.lsub, 1) := by decide +kernel
theorem d2_10 : decode method_3_code 10 = .ok (.lmul, 1) := by decide +kernel
theorem d2_11 : decode method_3_code 11 = .ok (.lstore_n 2, 1) := by decide +kernel
theorem d2_12 : decode method_3_code 12 = .ok (.lload_n 2, 1) := by decide +kernel
theorem d2_13 : decode method_3_code 13 = .ok (.ldc2_w 25, 3) := by decide +kernel
theorem d2_16 : decode method_3_code 16 = .ok (.lload_n 0, 1) := by decide +kernel
theorem d2_17 : decode method_3_code 17 = .ok (.lload_n 2, 1) := by decide +kernel
theorem d2_18 : decode method_3_code 18 = .ok (.lmul, 1) := by decide +kernel
theorem d2_19 : decode method_3_code 19 = .ok (.lsub, 1) := by decide +kernel
theorem d2_20 : decode method_3_code 20 = .ok (.lmul, 1) := by decide +kernel
theorem d2_21 : decode method_3_code 21 = .ok (.lstore_n 2, 1) := by decide +kernel
theorem d2_22 : decode method_3_code 22 = .ok (.lload_n 2, 1) := by decide +kernel
theorem d2_23 : decode method_3_code 23 = .ok (.ldc2_w 25, 3) := by decide +kernel
theorem d2_26 : decode method_3_code 26 = .ok (.lload_n 0, 1) := by decide +kernel
theorem d2_27 : decode method_3_code 27 = .ok (.lload_n 2, 1) := by decide +kernel
theorem d2_28 : decode method_3_code 28 = .ok (.lmul, 1) := by decide +kernel
theorem d2_29 : decode method_3_code 29 = .ok (.lsub, 1) := by decide +kernel
theorem d2_30 : decode method_3_code 30 = .ok (.lmul, 1) := by decide +kernel
theorem d2_31 : decode method_3_code 31 = .ok (.lstore_n 2, 1) := by decide +kernel
theorem d2_32 : decode method_3_code 32 = .ok (.lload_n 2, 1) := by decide +kernel
theorem d2_33 : decode method_3_code 33 = .ok (.ldc2_w 25, 3) := by decide +kernel
theorem d2_36 : decode method_3_code 36 = .ok (.lload_n 0, 1) := by decide +kernel
theorem d2_37 : decode method_3_code 37 = .ok (.lload_n 2, 1) := by decide +kernel
theorem d2_38 : decode method_3_code 38 = .ok (.lmul, 1) := by decide +kernel
theorem d2_39 : decode method_3_code 39 = .ok (.lsub, 1) := by decide +kernel
theorem d2_40 : decode method_3_code 40 = .ok (.lmul, 1) := by decide +kernel
theorem d2_41 : decode method_3_code 41 = .ok (.lstore_n 2, 1) := by decide +kernel
theorem d2_42 : decode method_3_code 42 = .ok (.lload_n 2, 1) := by decide +kernel
theorem d2_43 : decode method_3_code 43 = .ok (.ldc2_w 25, 3) := by decide +kernel
theorem d2_46 : decode method_3_code 46 = .ok (.lload_n 0, 1) := by decide +kernel
theorem d2_47 : decode method_3_code 47 = .ok (.lload_n 2, 1) := by decide +kernel
theorem d2_48 : decode method_3_code 48 = .ok (.lmul, 1) := by decide +kernel
theorem d2_49 : decode method_3_code 49 = .ok (.lsub, 1) := by decide +kernel
theorem d2_50 : decode method_3_code 50 = .ok (.lmul, 1) := by decide +kernel
theorem d2_51 : decode method_3_code 51 = .ok (.lstore_n 2, 1) := by decide +kernel
theorem d2_52 : decode method_3_code 52 = .ok (.lload_n 2, 1) := by decide +kernel
theorem d2_53 : decode method_3_code 53 = .ok (.lreturn, 1) := by decide +kernel
set_option maxRecDepth 65536 in
set_option maxHeartbeats 40000000 in
theorem rm2 (l : Launch) (Z : State) (a0 : Array Value) (hw : ∀ d ∈ tables_1, d.before a0 Z = true) (ws : List Jvm.Cond) (q0 : Int64) (h0 : Heap) (n0 : Nat) (Z0 : n0 ≤ h0.size)  :
    MetFree l (⟨"com/example/emberlot/emberlot/FrequencySketchSpreadPinLaw", "inverse", "(J)J"⟩ : MethodName) (head1 (Jvm.Cond.code (⟨"com/example/emberlot/emberlot/FrequencySketchSpreadPinLaw", "inverse", "(J)J"⟩ : MethodName) method_3_code 4 (some .long) :: ws) ({ frames := 0, cells := 0, slots := 0, locals := 0 } : Room)) (fun a U => a = #[(.long q0)] ∧ Z.Warmed39 U.vm ∧ U.heap = h0) (fun _ _ _ _ _ => True) (fun _ U o U' => ∃ v L, o = .returned v ∧ Q_rm2 Z q0 h0 n0 v U'.heap L ∧ FrameEnd U o U' L ({ frames := 0, cells := 0, slots := 0, locals := 0 } : Room).cells ({ frames := 0, cells := 0, slots := 0, locals := 0 } : Room).slots) := by
  refine body pn_com_example_emberlot_emberlot_FrequencySketchSpreadPinLaw_inverse_2 ?_
  intro p e s m below meth c s₁ hx hby hml hown hnm hret hlk hZ e0 X0
  replace hml : c.maxLocals = 4 := hml
  replace hown : s.vm.findClass "com/example/emberlot/emberlot/FrequencySketchSpreadPinLaw" = some m.cls := hown
  replace hnm : meth.name = "inverse" := hnm
  replace hret : meth.sig.returnType = (some .long) := hret
  have N0 := Fr.nil n0
  rw [ef_rm2]
  obtain ⟨G, hG⟩ : ∃ G, G = End (Q_rm2 Z q0 h0 n0) s ({ frames := 0, cells := 0, slots := 0, locals := 0 } : Room).cells ({ frames := 0, cells := 0, slots := 0, locals := 0 } : Room).slots := ⟨_, rfl⟩
  rw [← hG]
  refine go (u' := s₁.setTop (mkF m 1 #[.val (.long q0), .second, .unset, .unset] [(.long q0)])) (fun _ ks_ => XS.lloadN X0.here hx rfl (hb hby d2_0) rfl  ks_) ?_
  refine go (u' := s₁.setTop (mkF m 2 #[.val (.long q0), .second, .val (.long q0), .second] [])) (fun _ ks_ => XS.lstoreN X0.here hx rfl (hb hby d2_1) rfl  (l' := #[.val (.long q0), .second, .val (.long q0), .second]) rfl ks_) ?_
  refine go (u' := s₁.setTop (mkF m 3 #[.val (.long q0), .second, .val (.long q0), .second] [(.long q0)])) (fun _ ks_ => XS.lloadN X0.here hx rfl (hb hby d2_2) rfl  ks_) ?_
  refine go (u' := s₁.setTop (mkF m 6 #[.val (.long q0), .second, .val (.long q0), .second] [(.long (2 : Int64)), (.long q0)])) (X0.ldc2Long hx hown (mvT hZ (ww hw 12 rfl)) (g := (mkF m 3 #[.val (.long q0), .second, .val (.long q0), .second] [(.long q0)])) rfl (hb hby d2_3)) ?_
  refine go (u' := s₁.setTop (mkF m 7 #[.val (.long q0), .second, .val (.long q0), .second] [(.long q0), (.long (2 : Int64)), (.long q0)])) (fun _ ks_ => XS.lloadN X0.here hx rfl (hb hby d2_6) rfl  ks_) ?_
  refine go (u' := s₁.setTop (mkF m 8 #[.val (.long q0), .second, .val (.long q0), .second] [(.long q0), (.long q0), (.long (2 : Int64)), (.long q0)])) (fun _ ks_ => XS.lloadN X0.here hx rfl (hb hby d2_7) rfl  ks_) ?_
  refine go (u' := s₁.setTop (mkF m 9 #[.val (.long q0), .second, .val (.long q0), .second] [(.long (q0 * q0)), (.long (2 : Int64)), (.long q0)])) (fun _ ks_ => XS.lmul X0.here hx rfl (hb hby d2_8) rfl ks_) ?_
  refine go (u' := s₁.setTop (mkF m 10 #[.val (.long q0), .second, .val (.long q0), .second] [(.long ((2 : Int64) - (q0 * q0))), (.long q0)])) (fun _ ks_ => XS.lsub X0.here hx rfl (hb hby d2_9) rfl ks_) ?_
  refine go (u' := s₁.setTop (mkF m 11 #[.val (.long q0), .second, .val (.long q0), .second] [(.long (q0 * ((2 : Int64) - (q0 * q0))))])) (fun _ ks_ => XS.lmul X0.here hx rfl (hb hby d2_10) rfl ks_) ?_
  refine go (u' := s₁.setTop (mkF m 12 #[.val (.long q0), .second, .val (.long (q0 * ((2 : Int64) - (q0 * q0)))), .second] [])) (fun _ ks_ => XS.lstoreN X0.here hx rfl (hb hby d2_11) rfl  (l' := #[.val (.long q0), .second, .val (.long (q0 * ((2 : Int64) - (q0 * q0)))), .second]) rfl ks_) ?_
  refine go (u' := s₁.setTop (mkF m 13 #[.val (.long q0), .second, .val (.long (q0 * ((2 : Int64) - (q0 * q0)))), .second] [(.long (q0 * ((2 : Int64) - (q0 * q0))))])) (fun _ ks_ => XS.lloadN X0.here hx rfl (hb hby d2_12) rfl  ks_) ?_
  refine go (u' := s₁.setTop (mkF m 16 #[.val (.long q0), .second, .val (.long (q0 * ((2 : Int64) - (q0 * q0)))), .second] [(.long (2 : Int64)), (.long (q0 * ((2 : Int64) - (q0 * q0))))])) (X0.ldc2Long hx hown (mvT hZ (ww hw 12 rfl)) (g := (mkF m 13 #[.val (.long q0), .second, .val (.long (q0 * ((2 : Int64) - (q0 * q0)))), .second] [(.long (q0 * ((2 : Int64) - (q0 * q0))))])) rfl (hb hby d2_13)) ?_
  refine go (u' := s₁.setTop (mkF m 17 #[.val (.long q0), .second, .val (.long (q0 * ((2 : Int64) - (q0 * q0)))), .second] [(.long q0), (.long (2 : Int64)), (.long (q0 * ((2 : Int64) - (q0 * q0))))])) (fun _ ks_ => XS.lloadN X0.here hx rfl (hb hby d2_16) rfl  ks_) ?_
  refine go (u' := s₁.setTop (mkF m 18 #[.val (.long q0), .second, .val (.long (q0 * ((2 : Int64) - (q0 * q0)))), .second] [(.long (q0 * ((2 : Int64) - (q0 * q0)))), (.long q0), (.long (2 : Int64)), (.long (q0 * ((2 : Int64) - (q0 * q0))))])) (fun _ ks_ => XS.lloadN X0.here hx rfl (hb hby d2_17) rfl  ks_) ?_
  refine go (u' := s₁.setTop (mkF m 19 #[.val (.long q0), .second, .val (.long (q0 * ((2 : Int64) - (q0 * q0)))), .second] [(.long (q0 * (q0 * ((2 : Int64) - (q0 * q0))))), (.long (2 : Int64)), (.long (q0 * ((2 : Int64) - (q0 * q0))))])) (fun _ ks_ => XS.lmul X0.here hx rfl (hb hby d2_18) rfl ks_) ?_
  refine go (u' := s₁.setTop (mkF m 20 #[.val (.long q0), .second, .val (.long (q0 * ((2 : Int64) - (q0 * q0)))), .second] [(.long ((2 : Int64) - (q0 * (q0 * ((2 : Int64) - (q0 * q0)))))), (.long (q0 * ((2 : Int64) - (q0 * q0))))])) (fun _ ks_ => XS.lsub X0.here hx rfl (hb hby d2_19) rfl ks_) ?_
  refine go (u' := s₁.setTop (mkF m 21 #[.val (.long q0), .second, .val (.long (q0 * ((2 : Int64) - (q0 * q0)))), .second] [(.long ((q0 * ((2 : Int64) - (q0 * q0))) * ((2 : Int64) - (q0 * (q0 * ((2 : Int64) - (q0 * q0)))))))])) (fun _ ks_ => XS.lmul X0.here hx rfl (hb hby d2_20) rfl ks_) ?_
  refine go (u' := s₁.setTop (mkF m 22 #[.val (.long q0), .second, .val (.long ((q0 * ((2 : Int64) - (q0 * q0))) * ((2 : Int64) - (q0 * (q0 * ((2 : Int64) - (q0 * q0))))))), .second] [])) (fun _ ks_ => XS.lstoreN X0.here hx rfl (hb hby d2_21) rfl  (l' := #[.val (.long q0), .second, .val (.long ((q0 * ((2 : Int64) - (q0 * q0))) * ((2 : Int64) - (q0 * (q0 * ((2 : Int64) - (q0 * q0))))))), .second]) rfl ks_) ?_
  refine go (u' := s₁.setTop (mkF m 23 #[.val (.long q0), .second, .val (.long ((q0 * ((2 : Int64) - (q0 * q0))) * ((2 : Int64) - (q0 * (q0 * ((2 : Int64) - (q0 * q0))))))), .second] [(.long ((q0 * ((2 : Int64) - (q0 * q0))) * ((2 : Int64) - (q0 * (q0 * ((2 : Int64) - (q0 * q0)))))))])) (fun _ ks_ => XS.lloadN X0.here hx rfl (hb hby d2_22) rfl  ks_) ?_
  refine go (u' := s₁.setTop (mkF m 26 #[.val (.long q0), .second, .val (.long ((q0 * ((2 : Int64) - (q0 * q0))) * ((2 : Int64) - (q0 * (q0 * ((2 : Int64) - (q0 * q0))))))), .second] [(.long (2 : Int64)), (.long ((q0 * ((2 : Int64) - (q0 * q0))) * ((2 : Int64) - (q0 * (q0 * ((2 : Int64) - (q0 * q0)))))))])) (X0.ldc2Long hx hown (mvT hZ (ww hw 12 rfl)) (g := (mkF m 23 #[.val (.long q0), .second, .val (.long ((q0 * ((2 : Int64) - (q0 * q0))) * ((2 : Int64) - (q0 * (q0 * ((2 : Int64) - (q0 * q0))))))), .second] [(.long ((q0 * ((2 : Int64) - (q0 * q0))) * ((2 : Int64) - (q0 * (q0 * ((2 : Int64) - (q0 * q0)))))))])) rfl (hb hby d2_23)) ?_
  refine go (u' := s₁.setTop (mkF m 27 #[.val (.long q0), .second, .val (.long ((q0 * ((2 : Int64) - (q0 * q0))) * ((2 : Int64) - (q0 * (q0 * ((2 : Int64) - (q0 * q0))))))), .second] [(.long q0), (.long (2 : Int64)), (.long ((q0 * ((2 : Int64) - (q0 * q0))) * ((2 : Int64) - (q0 * (q0 * ((2 : Int64) - (q0 * q0)))))))])) (fun _ ks_ => XS.lloadN X0.here hx rfl (hb hby d2_26) rfl  ks_) ?_
  refine go (u' := s₁.setTop (mkF m 28 #[.val (.long q0), .second, .val (.long ((q0 * ((2 : Int64) - (q0 * q0))) * ((2 : Int64) - (q0 * (q0 * ((2 : Int64) - (q0 * q0))))))), .second] [(.long ((q0 * ((2 : Int64) - (q0 * q0))) * ((2 : Int64) - (q0 * (q0 * ((2 : Int64) - (q0 * q0))))))), (.long q0), (.long (2 : Int64)), (.long ((q0 * ((2 : Int64) - (q0 * q0))) * ((2 : Int64) - (q0 * (q0 * ((2 : Int64) - (q0 * q0)))))))])) (fun _ ks_ => XS.lloadN X0.here hx rfl (hb hby d2_27) rfl  ks_) ?_
  refine go (u' := s₁.setTop (mkF m 29 #[.val (.long q0), .second, .val (.long ((q0 * ((2 : Int64) - (q0 * q0))) * ((2 : Int64) - (q0 * (q0 * ((2 : Int64) - (q0 * q0))))))), .second] [(.long (q0 * ((q0 * ((2 : Int64) - (q0 * q0))) * ((2 : Int64) - (q0 * (q0 * ((2 : Int64) - (q0 * q0)))))))), (.long (2 : Int64)), (.long ((q0 * ((2 : Int64) - (q0 * q0))) * ((2 : Int64) - (q0 * (q0 * ((2 : Int64) - (q0 * q0)))))))])) (fun _ ks_ => XS.lmul X0.here hx rfl (hb hby d2_28) rfl ks_) ?_
  refine go (u' := s₁.setTop (mkF m 30 #[.val (.long q0), .second, .val (.long ((q0 * ((2 : Int64) - (q0 * q0))) * ((2 : Int64) - (q0 * (q0 * ((2 : Int64) - (q0 * q0))))))), .second] [(.long ((2 : Int64) - (q0 * ((q0 * ((2 : Int64) - (q0 * q0))) * ((2 : Int64) - (q0 * (q0 * ((2 : Int64) - (q0 * q0))))))))), (.long ((q0 * ((2 : Int64) - (q0 * q0))) * ((2 : Int64) - (q0 * (q0 * ((2 : Int64) - (q0 * q0)))))))])) (fun _ ks_ => XS.lsub X0.here hx rfl (hb hby d2_29) rfl ks_) ?_
  refine go (u' := s₁.setTop (mkF m 31 #[.val (.long q0), .second, .val (.long ((q0 * ((2 : Int64) - (q0 * q0))) * ((2 : Int64) - (q0 * (q0 * ((2 : Int64) - (q0 * q0))))))), .second] [(.long (((q0 * ((2 : Int64) - (q0 * q0))) * ((2 : Int64) - (q0 * (q0 * ((2 : Int64) - (q0 * q0)))))) * ((2 : Int64) - (q0 * ((q0 * ((2 : Int64) - (q0 * q0))) * ((2 : Int64) - (q0 * (q0 * ((2 : Int64) - (q0 * q0))))))))))])) (fun _ ks_ => XS.lmul X0.here hx rfl (hb hby d2_30) rfl ks_) ?_
  refine go (u' := s₁.setTop (mkF m 32 #[.val (.long q0), .second, .val (.long (((q0 * ((2 : Int64) - (q0 * q0))) * ((2 : Int64) - (q0 * (q0 * ((2 : Int64) - (q0 * q0)))))) * ((2 : Int64) - (q0 * ((q0 * ((2 : Int64) - (q0 * q0))) * ((2 : Int64) - (q0 * (q0 * ((2 : Int64) - (q0 * q0)))))))))), .second] [])) (fun _ ks_ => XS.lstoreN X0.here hx rfl (hb hby d2_31) rfl  (l' := #[.val (.long q0), .second, .val (.long (((q0 * ((2 : Int64) - (q0 * q0))) * ((2 : Int64) - (q0 * (q0 * ((2 : Int64) - (q0 * q0)))))) * ((2 : Int64) - (q0 * ((q0 * ((2 : Int64) - (q0 * q0))) * ((2 : Int64) - (q0 * (q0 * ((2 : Int64) - (q0 * q0)))))))))), .second]) rfl ks_) ?_
  refine go (u' := s₁.setTop (mkF m 33 #[.val (.long q0), .second, .val (.long (((q0 * ((2 : Int64) - (q0 * q0))) * ((2 : Int64) - (q0 * (q0 * ((2 : Int64) - (q0 * q0)))))) * ((2 : Int64) - (q0 * ((q0 * ((2 : Int64) - (q0 * q0))) * ((2 : Int64) - (q0 * (q0 * ((2 : Int64) - (q0 * q0)))))))))), .second] [(.long (((q0 * ((2 : Int64) - (q0 * q0))) * ((2 : Int64) - (q0 * (q0 * ((2 : Int64) - (q0 * q0)))))) * ((2 : Int64) - (q0 * ((q0 * ((2 : Int64) - (q0 * q0))) * ((2 : Int64) - (q0 * (q0 * ((2 : Int64) - (q0 * q0))))))))))])) (fun _ ks_ => XS.lloadN X0.here hx rfl (hb hby d2_32) rfl  ks_) ?_
  refine go (u' := s₁.setTop (mkF m 36 #[.val (.long q0), .second, .val (.long (((q0 * ((2 : Int64) - (q0 * q0))) * ((2 : Int64) - (q0 * (q0 * ((2 : Int64) - (q0 * q0)))))) * ((2 : Int64) - (q0 * ((q0 * ((2 : Int64) - (q0 * q0))) * ((2 : Int64) - (q0 * (q0 * ((2 : Int64) - (q0 * q0)))))))))), .second] [(.long (2 : Int64)), (.long (((q0 * ((2 : Int64) - (q0 * q0))) * ((2 : Int64) - (q0 * (q0 * ((2 : Int64) - (q0 * q0)))))) * ((2 : Int64) - (q0 * ((q0 * ((2 : Int64) - (q0 * q0))) * ((2 : Int64) - (q0 * (q0 * ((2 : Int64) - (q0 * q0))))))))))])) (X0.ldc2Long hx hown (mvT hZ (ww hw 12 rfl)) (g := (mkF m 33 #[.val (.long q0), .second, .val (.long (((q0 * ((2 : Int64) - (q0 * q0))) * ((2 : Int64) - (q0 * (q0 * ((2 : Int64) - (q0 * q0)))))) * ((2 : Int64) - (q0 * ((q0 * ((2 : Int64) - (q0 * q0))) * ((2 : Int64) - (q0 * (q0 * ((2 : Int64) - (q0 * q0)))))))))), .second] [(.long (((q0 * ((2 : Int64) - (q0 * q0))) * ((2 : Int64) - (q0 * (q0 * ((2 : Int64) - (q0 * q0)))))) * ((2 : Int64) - (q0 * ((q0 * ((2 : Int64) - (q0 * q0))) * ((2 : Int64) - (q0 * (q0 * ((2 : Int64) - (q0 * q0))))))))))])) rfl (hb hby d2_33)) ?_
  refine go (u' := s₁.setTop (mkF m 37 #[.val (.long q0), .second, .val (.long (((q0 * ((2 : Int64) - (q0 * q0))) * ((2 : Int64) - (q0 * (q0 * ((2 : Int64) - (q0 * q0)))))) * ((2 : Int64) - (q0 * ((q0 * ((2 : Int64) - (q0 * q0))) * ((2 : Int64) - (q0 * (q0 * ((2 : Int64) - (q0 * q0)))))))))), .second] [(.long q0), (.long (2 : Int64)), (.long (((q0 * ((2 : Int64) - (q0 * q0))) * ((2 : Int64) - (q0 * (q0 * ((2 : Int64) - (q0 * q0)))))) * ((2 : Int64) - (q0 * ((q0 * ((2 : Int64) - (q0 * q0))) * ((2 : Int64) - (q0 * (q0 * ((2 : Int64) - (q0 * q0))))))))))])) (fun _ ks_ => XS.lloadN X0.here hx rfl (hb hby d2_36) rfl  ks_) ?_
  refine go (u' := s₁.setTop (mkF m 38 #[.val (.long q0), .second, .val (.long (((q0 * ((2 : Int64) - (q0 * q0))) * ((2 : Int64) - (q0 * (q0 * ((2 : Int64) - (q0 * q0)))))) * ((2 : Int64) - (q0 * ((q0 * ((2 : Int64) - (q0 * q0))) * ((2 : Int64) - (q0 * (q0 * ((2 : Int64) - (q0 * q0)))))))))), .second] [(.long (((q0 * ((2 : Int64) - (q0 * q0))) * ((2 : Int64) - (q0 * (q0 * ((2 : Int64) - (q0 * q0)))))) * ((2 : Int64) - (q0 * ((q0 * ((2 : Int64) - (q0 * q0))) * ((2 : Int64) - (q0 * (q0 * ((2 : Int64) - (q0 * q0)))))))))), (.long q0), (.long (2 : Int64)), (.long (((q0 * ((2 : Int64) - (q0 * q0))) * ((2 : Int64) - (q0 * (q0 * ((2 : Int64) - (q0 * q0)))))) * ((2 : Int64) - (q0 * ((q0 * ((2 : Int64) - (q0 * q0))) * ((2 : Int64) - (q0 * (q0 * ((2 : Int64) - (q0 * q0))))))))))])) (fun _ ks_ => XS.lloadN X0.here hx rfl (hb hby d2_37) rfl  ks_) ?_
  refine go (u' := s₁.setTop (mkF m 39 #[.val (.long q0), .second, .val (.long (((q0 * ((2 : Int64) - (q0 * q0))) * ((2 : Int64) - (q0 * (q0 * ((2 : Int64) - (q0 * q0)))))) * ((2 : Int64) - (q0 * ((q0 * ((2 : Int64) - (q0 * q0))) * ((2 : Int64) - (q0 * (q0 * ((2 : Int64) - (q0 * q0)))))))))), .second] [(.long (q0 * (((q0 * ((2 : Int64) - (q0 * q0))) * ((2 : Int64) - (q0 * (q0 * ((2 : Int64) - (q0 * q0)))))) * ((2 : Int64) - (q0 * ((q0 * ((2 : Int64) - (q0 * q0))) * ((2 : Int64) - (q0 * (q0 * ((2 : Int64) - (q0 * q0))))))))))), (.long (2 : Int64)), (.long (((q0 * ((2 : Int64) - (q0 * q0))) * ((2 : Int64) - (q0 * (q0 * ((2 : Int64) - (q0 * q0)))))) * ((2 : Int64) - (q0 * ((q0 * ((2 : Int64) - (q0 * q0))) * ((2 : Int64) - (q0 * (q0 * ((2 : Int64) - (q0 * q0))))))))))])) (fun _ ks_ => XS.lmul X0.here hx rfl (hb hby d2_38) rfl ks_) ?_
  refine go (u' := s₁.setTop (mkF m 40 #[.val (.long q0), .second, .val (.long (((q0 * ((2 : Int64) - (q0 * q0))) * ((2 : Int64) - (q0 * (q0 * ((2 : Int64) - (q0 * q0)))))) * ((2 : Int64) - (q0 * ((q0 * ((2 : Int64) - (q0 * q0))) * ((2 : Int64) - (q0 * (q0 * ((2 : Int64) - (q0 * q0)))))))))), .second] [(.long ((2 : Int64) - (q0 * (((q0 * ((2 : Int64) - (q0 * q0))) * ((2 : Int64) - (q0 * (q0 * ((2 : Int64) - (q0 * q0)))))) * ((2 : Int64) - (q0 * ((q0 * ((2 : Int64) - (q0 * q0))) * ((2 : Int64) - (q0 * (q0 * ((2 : Int64) - (q0 * q0)))))))))))), (.long (((q0 * ((2 : Int64) - (q0 * q0))) * ((2 : Int64) - (q0 * (q0 * ((2 : Int64) - (q0 * q0)))))) * ((2 : Int64) - (q0 * ((q0 * ((2 : Int64) - (q0 * q0))) * ((2 : Int64) - (q0 * (q0 * ((2 : Int64) - (q0 * q0))))))))))])) (fun _ ks_ => XS.lsub X0.here hx rfl (hb hby d2_39) rfl ks_) ?_
  refine go (u' := s₁.setTop (mkF m 41 #[.val (.long q0), .second, .val (.long (((q0 * ((2 : Int64) - (q0 * q0))) * ((2 : Int64) - (q0 * (q0 * ((2 : Int64) - (q0 * q0)))))) * ((2 : Int64) - (q0 * ((q0 * ((2 : Int64) - (q0 * q0))) * ((2 : Int64) - (q0 * (q0 * ((2 : Int64) - (q0 * q0)))))))))), .second] [(.long ((((q0 * ((2 : Int64) - (q0 * q0))) * ((2 : Int64) - (q0 * (q0 * ((2 : Int64) - (q0 * q0)))))) * ((2 : Int64) - (q0 * ((q0 * ((2 : Int64) - (q0 * q0))) * ((2 : Int64) - (q0 * (q0 * ((2 : Int64) - (q0 * q0))))))))) * ((2 : Int64) - (q0 * (((q0 * ((2 : Int64) - (q0 * q0))) * ((2 : Int64) - (q0 * (q0 * ((2 : Int64) - (q0 * q0)))))) * ((2 : Int64) - (q0 * ((q0 * ((2 : Int64) - (q0 * q0))) * ((2 : Int64) - (q0 * (q0 * ((2 : Int64) - (q0 * q0)))))))))))))])) (fun _ ks_ => XS.lmul X0.here hx rfl (hb hby d2_40) rfl ks_) ?_
  refine go (u' := s₁.setTop (mkF m 42 #[.val (.long q0), .second, .val (.long ((((q0 * ((2 : Int64) - (q0 * q0))) * ((2 : Int64) - (q0 * (q0 * ((2 : Int64) - (q0 * q0)))))) * ((2 : Int64) - (q0 * ((q0 * ((2 : Int64) - (q0 * q0))) * ((2 : Int64) - (q0 * (q0 * ((2 : Int64) - (q0 * q0))))))))) * ((2 : Int64) - (q0 * (((q0 * ((2 : Int64) - (q0 * q0))) * ((2 : Int64) - (q0 * (q0 * ((2 : Int64) - (q0 * q0)))))) * ((2 : Int64) - (q0 * ((q0 * ((2 : Int64) - (q0 * q0))) * ((2 : Int64) - (q0 * (q0 * ((2 : Int64) - (q0 * q0))))))))))))), .second] [])) (fun _ ks_ => XS.lstoreN X0.here hx rfl (hb hby d2_41) rfl  (l' := #[.val (.long q0), .second, .val (.long ((((q0 * ((2 : Int64) - (q0 * q0))) * ((2 : Int64) - (q0 * (q0 * ((2 : Int64) - (q0 * q0)))))) * ((2 : Int64) - (q0 * ((q0 * ((2 : Int64) - (q0 * q0))) * ((2 : Int64) - (q0 * (q0 * ((2 : Int64) - (q0 * q0))))))))) * ((2 : Int64) - (q0 * (((q0 * ((2 : Int64) - (q0 * q0))) * ((2 : Int64) - (q0 * (q0 * ((2 : Int64) - (q0 * q0)))))) * ((2 : Int64) - (q0 * ((q0 * ((2 : Int64) - (q0 * q0))) * ((2 : Int64) - (q0 * (q0 * ((2 : Int64) - (q0 * q0))))))))))))), .second]) rfl ks_) ?_
  refine go (u' := s₁.setTop (mkF m 43 #[.val (.long q0), .second, .val (.long ((((q0 * ((2 : Int64) - (q0 * q0))) * ((2 : Int64) - (q0 * (q0 * ((2 : Int64) - (q0 * q0)))))) * ((2 : Int64) - (q0 * ((q0 * ((2 : Int64) - (q0 * q0))) * ((2 : Int64) - (q0 * (q0 * ((2 : Int64) - (q0 * q0))))))))) * ((2 : Int64) - (q0 * (((q0 * ((2 : Int64) - (q0 * q0))) * ((2 : Int64) - (q0 * (q0 * ((2 : Int64) - (q0 * q0)))))) * ((2 : Int64) - (q0 * ((q0 * ((2 : Int64) - (q0 * q0))) * ((2 : Int64) - (q0 * (q0 * ((2 : Int64) - (q0 * q0))))))))))))), .second] [(.long ((((q0 * ((2 : Int64) - (q0 * q0))) * ((2 : Int64) - (q0 * (q0 * ((2 : Int64) - (q0 * q0)))))) * ((2 : Int64) - (q0 * ((q0 * ((2 : Int64) - (q0 * q0))) * ((2 : Int64) - (q0 * (q0 * ((2 : Int64) - (q0 * q0))))))))) * ((2 : Int64) - (q0 * (((q0 * ((2 : Int64) - (q0 * q0))) * ((2 : Int64) - (q0 * (q0 * ((2 : Int64) - (q0 * q0)))))) * ((2 : Int64) - (q0 * ((q0 * ((2 : Int64) - (q0 * q0))) * ((2 : Int64) - (q0 * (q0 * ((2 : Int64) - (q0 * q0)))))))))))))])) (fun _ ks_ => XS.lloadN X0.here hx rfl (hb hby d2_42) rfl  ks_) ?_
  refine go (u' := s₁.setTop (mkF m 46 #[.val (.long q0), .second, .val (.long ((((q0 * ((2 : Int64) - (q0 * q0))) * ((2 : Int64) - (q0 * (q0 * ((2 : Int64) - (q0 * q0)))))) * ((2 : Int64) - (q0 * ((q0 * ((2 : Int64) - (q0 * q0))) * ((2 : Int64) - (q0 * (q0 * ((2 : Int64) - (q0 * q0))))))))) * ((2 : Int64) - (q0 * (((q0 * ((2 : Int64) - (q0 * q0))) * ((2 : Int64) - (q0 * (q0 * ((2 : Int64) - (q0 * q0)))))) * ((2 : Int64) - (q0 * ((q0 * ((2 : Int64) - (q0 * q0))) * ((2 : Int64) - (q0 * (q0 * ((2 : Int64) - (q0 * q0))))))))))))), .second] [(.long (2 : Int64)), (.long ((((q0 * ((2 : Int64) - (q0 * q0))) * ((2 : Int64) - (q0 * (q0 * ((2 : Int64) - (q0 * q0)))))) * ((2 : Int64) - (q0 * ((q0 * ((2 : Int64) - (q0 * q0))) * ((2 : Int64) - (q0 * (q0 * ((2 : Int64) - (q0 * q0))))))))) * ((2 : Int64) - (q0 * (((q0 * ((2 : Int64) - (q0 * q0))) * ((2 : Int64) - (q0 * (q0 * ((2 : Int64) - (q0 * q0)))))) * ((2 : Int64) - (q0 * ((q0 * ((2 : Int64) - (q0 * q0))) * ((2 : Int64) - (q0 * (q0 * ((2 : Int64) - (q0 * q0)))))))))))))])) (X0.ldc2Long hx hown (mvT hZ (ww hw 12 rfl)) (g := (mkF m 43 #[.val (.long q0), .second, .val (.long ((((q0 * ((2 : Int64) - (q0 * q0))) * ((2 : Int64) - (q0 * (q0 * ((2 : Int64) - (q0 * q0)))))) * ((2 : Int64) - (q0 * ((q0 * ((2 : Int64) - (q0 * q0))) * ((2 : Int64) - (q0 * (q0 * ((2 : Int64) - (q0 * q0))))))))) * ((2 : Int64) - (q0 * (((q0 * ((2 : Int64) - (q0 * q0))) * ((2 : Int64) - (q0 * (q0 * ((2 : Int64) - (q0 * q0)))))) * ((2 : Int64) - (q0 * ((q0 * ((2 : Int64) - (q0 * q0))) * ((2 : Int64) - (q0 * (q0 * ((2 : Int64) - (q0 * q0))))))))))))), .second] [(.long ((((q0 * ((2 : Int64) - (q0 * q0))) * ((2 : Int64) - (q0 * (q0 * ((2 : Int64) - (q0 * q0)))))) * ((2 : Int64) - (q0 * ((q0 * ((2 : Int64) - (q0 * q0))) * ((2 : Int64) - (q0 * (q0 * ((2 : Int64) - (q0 * q0))))))))) * ((2 : Int64) - (q0 * (((q0 * ((2 : Int64) - (q0 * q0))) * ((2 : Int64) - (q0 * (q0 * ((2 : Int64) - (q0 * q0)))))) * ((2 : Int64) - (q0 * ((q0 * ((2 : Int64) - (q0 * q0))) * ((2 : Int64) - (q0 * (q0 * ((2 : Int64) - (q0 * q0)))))))))))))])) rfl (hb hby d2_43)) ?_
  refine go (u' := s₁.setTop (mkF m 47 #[.val (.long q0), .second, .val (.long ((((q0 * ((2 : Int64) - (q0 * q0))) * ((2 : Int64) - (q0 * (q0 * ((2 : Int64) - (q0 * q0)))))) * ((2 : Int64) - (q0 * ((q0 * ((2 : Int64) - (q0 * q0))) * ((2 : Int64) - (q0 * (q0 * ((2 : Int64) - (q0 * q0))))))))) * ((2 : Int64) - (q0 * (((q0 * ((2 : Int64) - (q0 * q0))) * ((2 : Int64) - (q0 * (q0 * ((2 : Int64) - (q0 * q0)))))) * ((2 : Int64) - (q0 * ((q0 * ((2 : Int64) - (q0 * q0))) * ((2 : Int64) - (q0 * (q0 * ((2 : Int64) - (q0 * q0))))))))))))), .second] [(.long q0), (.long (2 : Int64)), (.long ((((q0 * ((2 : Int64) - (q0 * q0))) * ((2 : Int64) - (q0 * (q0 * ((2 : Int64) - (q0 * q0)))))) * ((2 : Int64) - (q0 * ((q0 * ((2 : Int64) - (q0 * q0))) * ((2 : Int64) - (q0 * (q0 * ((2 : Int64) - (q0 * q0))))))))) * ((2 : Int64) - (q0 * (((q0 * ((2 : Int64) - (q0 * q0))) * ((2 : Int64) - (q0 * (q0 * ((2 : Int64) - (q0 * q0)))))) * ((2 : Int64) - (q0 * ((q0 * ((2 : Int64) - (q0 * q0))) * ((2 : Int64) - (q0 * (q0 * ((2 : Int64) - (q0 * q0)))))))))))))])) (fun _ ks_ => XS.lloadN X0.here hx rfl (hb hby d2_46) rfl  ks_) ?_
  refine go (u' := s₁.setTop (mkF m 48 #[.val (.long q0), .second, .val (.long ((((q0 * ((2 : Int64) - (q0 * q0))) * ((2 : Int64) - (q0 * (q0 * ((2 : Int64) - (q0 * q0)))))) * ((2 : Int64) - (q0 * ((q0 * ((2 : Int64) - (q0 * q0))) * ((2 : Int64) - (q0 * (q0 * ((2 : Int64) - (q0 * q0))))))))) * ((2 : Int64) - (q0 * (((q0 * ((2 : Int64) - (q0 * q0))) * ((2 : Int64) - (q0 * (q0 * ((2 : Int64) - (q0 * q0)))))) * ((2 : Int64) - (q0 * ((q0 * ((2 : Int64) - (q0 * q0))) * ((2 : Int64) - (q0 * (q0 * ((2 : Int64) - (q0 * q0))))))))))))), .second] [(.long ((((q0 * ((2 : Int64) - (q0 * q0))) * ((2 : Int64) - (q0 * (q0 * ((2 : Int64) - (q0 * q0)))))) * ((2 : Int64) - (q0 * ((q0 * ((2 : Int64) - (q0 * q0))) * ((2 : Int64) - (q0 * (q0 * ((2 : Int64) - (q0 * q0))))))))) * ((2 : Int64) - (q0 * (((q0 * ((2 : Int64) - (q0 * q0))) * ((2 : Int64) - (q0 * (q0 * ((2 : Int64) - (q0 * q0)))))) * ((2 : Int64) - (q0 * ((q0 * ((2 : Int64) - (q0 * q0))) * ((2 : Int64) - (q0 * (q0 * ((2 : Int64) - (q0 * q0))))))))))))), (.long q0), (.long (2 : Int64)), (.long ((((q0 * ((2 : Int64) - (q0 * q0))) * ((2 : Int64) - (q0 * (q0 * ((2 : Int64) - (q0 * q0)))))) * ((2 : Int64) - (q0 * ((q0 * ((2 : Int64) - (q0 * q0))) * ((2 : Int64) - (q0 * (q0 * ((2 : Int64) - (q0 * q0))))))))) * ((2 : Int64) - (q0 * (((q0 * ((2 : Int64) - (q0 * q0))) * ((2 : Int64) - (q0 * (q0 * ((2 : Int64) - (q0 * q0)))))) * ((2 : Int64) - (q0 * ((q0 * ((2 : Int64) - (q0 * q0))) * ((2 : Int64) - (q0 * (q0 * ((2 : Int64) - (q0 * q0)))))))))))))])) (fun _ ks_ => XS.lloadN X0.here hx rfl (hb hby d2_47) rfl  ks_) ?_
  refine go (u' := s₁.setTop (mkF m 49 #[.val (.long q0), .second, .val (.long ((((q0 * ((2 : Int64) - (q0 * q0))) * ((2 : Int64) - (q0 * (q0 * ((2 : Int64) - (q0 * q0)))))) * ((2 : Int64) - (q0 * ((q0 * ((2 : Int64) - (q0 * q0))) * ((2 : Int64) - (q0 * (q0 * ((2 : Int64) - (q0 * q0))))))))) * ((2 : Int64) - (q0 * (((q0 * ((2 : Int64) - (q0 * q0))) * ((2 : Int64) - (q0 * (q0 * ((2 : Int64) - (q0 * q0)))))) * ((2 : Int64) - (q0 * ((q0 * ((2 : Int64) - (q0 * q0))) * ((2 : Int64) - (q0 * (q0 * ((2 : Int64) - (q0 * q0))))))))))))), .second] [(.long (q0 * ((((q0 * ((2 : Int64) - (q0 * q0))) * ((2 : Int64) - (q0 * (q0 * ((2 : Int64) - (q0 * q0)))))) * ((2 : Int64) - (q0 * ((q0 * ((2 : Int64) - (q0 * q0))) * ((2 : Int64) - (q0 * (q0 * ((2 : Int64) - (q0 * q0))))))))) * ((2 : Int64) - (q0 * (((q0 * ((2 : Int64) - (q0 * q0))) * ((2 : Int64) - (q0 * (q0 * ((2 : Int64) - (q0 * q0)))))) * ((2 : Int64) - (q0 * ((q0 * ((2 : Int64) - (q0 * q0))) * ((2 : Int64) - (q0 * (q0 * ((2 : Int64) - (q0 * q0)))))))))))))), (.long (2 : Int64)), (.long ((((q0 * ((2 : Int64) - (q0 * q0))) * ((2 : Int64) - (q0 * (q0 * ((2 : Int64) - (q0 * q0)))))) * ((2 : Int64) - (q0 * ((q0 * ((2 : Int64) - (q0 * q0))) * ((2 : Int64) - (q0 * (q0 * ((2 : Int64) - (q0 * q0))))))))) * ((2 : Int64) - (q0 * (((q0 * ((2 : Int64) - (q0 * q0))) * ((2 : Int64) - (q0 * (q0 * ((2 : Int64) - (q0 * q0)))))) * ((2 : Int64) - (q0 * ((q0 * ((2 : Int64) - (q0 * q0))) * ((2 : Int64) - (q0 * (q0 * ((2 : Int64) - (q0 * q0)))))))))))))])) (fun _ ks_ => XS.lmul X0.here hx rfl (hb hby d2_48) rfl ks_) ?_
  refine go (u' := s₁.setTop (mkF m 50 #[.val (.long q0), .second, .val (.long ((((q0 * ((2 : Int64) - (q0 * q0))) * ((2 : Int64) - (q0 * (q0 * ((2 : Int64) - (q0 * q0)))))) * ((2 : Int64) - (q0 * ((q0 * ((2 : Int64) - (q0 * q0))) * ((2 : Int64) - (q0 * (q0 * ((2 : Int64) - (q0 * q0))))))))) * ((2 : Int64) - (q0 * (((q0 * ((2 : Int64) - (q0 * q0))) * ((2 : Int64) - (q0 * (q0 * ((2 : Int64) - (q0 * q0)))))) * ((2 : Int64) - (q0 * ((q0 * ((2 : Int64) - (q0 * q0))) * ((2 : Int64) - (q0 * (q0 * ((2 : Int64) - (q0 * q0))))))))))))), .second] [(.long ((2 : Int64) - (q0 * ((((q0 * ((2 : Int64) - (q0 * q0))) * ((2 : Int64) - (q0 * (q0 * ((2 : Int64) - (q0 * q0)))))) * ((2 : Int64) - (q0 * ((q0 * ((2 : Int64) - (q0 * q0))) * ((2 : Int64) - (q0 * (q0 * ((2 : Int64) - (q0 * q0))))))))) * ((2 : Int64) - (q0 * (((q0 * ((2 : Int64) - (q0 * q0))) * ((2 : Int64) - (q0 * (q0 * ((2 : Int64) - (q0 * q0)))))) * ((2 : Int64) - (q0 * ((q0 * ((2 : Int64) - (q0 * q0))) * ((2 : Int64) - (q0 * (q0 * ((2 : Int64) - (q0 * q0))))))))))))))), (.long ((((q0 * ((2 : Int64) - (q0 * q0))) * ((2 : Int64) - (q0 * (q0 * ((2 : Int64) - (q0 * q0)))))) * ((2 : Int64) - (q0 * ((q0 * ((2 : Int64) - (q0 * q0))) * ((2 : Int64) - (q0 * (q0 * ((2 : Int64) - (q0 * q0))))))))) * ((2 : Int64) - (q0 * (((q0 * ((2 : Int64) - (q0 * q0))) * ((2 : Int64) - (q0 * (q0 * ((2 : Int64) - (q0 * q0)))))) * ((2 : Int64) - (q0 * ((q0 * ((2 : Int64) - (q0 * q0))) * ((2 : Int64) - (q0 * (q0 * ((2 : Int64) - (q0 * q0)))))))))))))])) (fun _ ks_ => XS.lsub X0.here hx rfl (hb hby d2_49) rfl ks_) ?_
  refine go (u' := s₁.setTop (mkF m 51 #[.val (.long q0), .second, .val (.long ((((q0 * ((2 : Int64) - (q0 * q0))) * ((2 : Int64) - (q0 * (q0 * ((2 : Int64) - (q0 * q0)))))) * ((2 : Int64) - (q0 * ((q0 * ((2 : Int64) - (q0 * q0))) * ((2 : Int64) - (q0 * (q0 * ((2 : Int64) - (q0 * q0))))))))) * ((2 : Int64) - (q0 * (((q0 * ((2 : Int64) - (q0 * q0))) * ((2 : Int64) - (q0 * (q0 * ((2 : Int64) - (q0 * q0)))))) * ((2 : Int64) - (q0 * ((q0 * ((2 : Int64) - (q0 * q0))) * ((2 : Int64) - (q0 * (q0 * ((2 : Int64) - (q0 * q0))))))))))))), .second] [(.long (((((q0 * ((2 : Int64) - (q0 * q0))) * ((2 : Int64) - (q0 * (q0 * ((2 : Int64) - (q0 * q0)))))) * ((2 : Int64) - (q0 * ((q0 * ((2 : Int64) - (q0 * q0))) * ((2 : Int64) - (q0 * (q0 * ((2 : Int64) - (q0 * q0))))))))) * ((2 : Int64) - (q0 * (((q0 * ((2 : Int64) - (q0 * q0))) * ((2 : Int64) - (q0 * (q0 * ((2 : Int64) - (q0 * q0)))))) * ((2 : Int64) - (q0 * ((q0 * ((2 : Int64) - (q0 * q0))) * ((2 : Int64) - (q0 * (q0 * ((2 : Int64) - (q0 * q0)))))))))))) * ((2 : Int64) - (q0 * ((((q0 * ((2 : Int64) - (q0 * q0))) * ((2 : Int64) - (q0 * (q0 * ((2 : Int64) - (q0 * q0)))))) * ((2 : Int64) - (q0 * ((q0 * ((2 : Int64) - (q0 * q0))) * ((2 : Int64) - (q0 * (q0 * ((2 : Int64) - (q0 * q0))))))))) * ((2 : Int64) - (q0 * (((q0 * ((2 : Int64) - (q0 * q0))) * ((2 : Int64) - (q0 * (q0 * ((2 : Int64) - (q0 * q0)))))) * ((2 : Int64) - (q0 * ((q0 * ((2 : Int64) - (q0 * q0))) * ((2 : Int64) - (q0 * (q0 * ((2 : Int64) - (q0 * q0))))))))))))))))])) (fun _ ks_ => XS.lmul X0.here hx rfl (hb hby d2_50) rfl ks_) ?_
  refine go (u' := s₁.setTop (mkF m 52 #[.val (.long q0), .second, .val (.long (((((q0 * ((2 : Int64) - (q0 * q0))) * ((2 : Int64) - (q0 * (q0 * ((2 : Int64) - (q0 * q0)))))) * ((2 : Int64) - (q0 * ((q0 * ((2 : Int64) - (q0 * q0))) * ((2 : Int64) - (q0 * (q0 * ((2 : Int64) - (q0 * q0))))))))) * ((2 : Int64) - (q0 * (((q0 * ((2 : Int64) - (q0 * q0))) * ((2 : Int64) - (q0 * (q0 * ((2 : Int64) - (q0 * q0)))))) * ((2 : Int64) - (q0 * ((q0 * ((2 : Int64) - (q0 * q0))) * ((2 : Int64) - (q0 * (q0 * ((2 : Int64) - (q0 * q0)))))))))))) * ((2 : Int64) - (q0 * ((((q0 * ((2 : Int64) - (q0 * q0))) * ((2 : Int64) - (q0 * (q0 * ((2 : Int64) - (q0 * q0)))))) * ((2 : Int64) - (q0 * ((q0 * ((2 : Int64) - (q0 * q0))) * ((2 : Int64) - (q0 * (q0 * ((2 : Int64) - (q0 * q0))))))))) * ((2 : Int64) - (q0 * (((q0 * ((2 : Int64) - (q0 * q0))) * ((2 : Int64) - (q0 * (q0 * ((2 : Int64) - (q0 * q0)))))) * ((2 : Int64) - (q0 * ((q0 * ((2 : Int64) - (q0 * q0))) * ((2 : Int64) - (q0 * (q0 * ((2 : Int64) - (q0 * q0)))))))))))))))), .second] [])) (fun _ ks_ => XS.lstoreN X0.here hx rfl (hb hby d2_51) rfl  (l' := #[.val (.long q0), .second, .val (.long (((((q0 * ((2 : Int64) - (q0 * q0))) * ((2 : Int64) - (q0 * (q0 * ((2 : Int64) - (q0 * q0)))))) * ((2 : Int64) - (q0 * ((q0 * ((2 : Int64) - (q0 * q0))) * ((2 : Int64) - (q0 * (q0 * ((2 : Int64) - (q0 * q0))))))))) * ((2 : Int64) - (q0 * (((q0 * ((2 : Int64) - (q0 * q0))) * ((2 : Int64) - (q0 * (q0 * ((2 : Int64) - (q0 * q0)))))) * ((2 : Int64) - (q0 * ((q0 * ((2 : Int64) - (q0 * q0))) * ((2 : Int64) - (q0 * (q0 * ((2 : Int64) - (q0 * q0)))))))))))) * ((2 : Int64) - (q0 * ((((q0 * ((2 : Int64) - (q0 * q0))) * ((2 : Int64) - (q0 * (q0 * ((2 : Int64) - (q0 * q0)))))) * ((2 : Int64) - (q0 * ((q0 * ((2 : Int64) - (q0 * q0))) * ((2 : Int64) - (q0 * (q0 * ((2 : Int64) - (q0 * q0))))))))) * ((2 : Int64) - (q0 * (((q0 * ((2 : Int64) - (q0 * q0))) * ((2 : Int64) - (q0 * (q0 * ((2 : Int64) - (q0 * q0)))))) * ((2 : Int64) - (q0 * ((q0 * ((2 : Int64) - (q0 * q0))) * ((2 : Int64) - (q0 * (q0 * ((2 : Int64) - (q0 * q0)))))))))))))))), .second]) rfl ks_) ?_
  refine go (u' := s₁.setTop (mkF m 53 #[.val (.long q0), .second, .val (.long (((((q0 * ((2 : Int64) - (q0 * q0))) * ((2 : Int64) - (q0 * (q0 * ((2 : Int64) - (q0 * q0)))))) * ((2 : Int64) - (q0 * ((q0 * ((2 : Int64) - (q0 * q0))) * ((2 : Int64) - (q0 * (q0 * ((2 : Int64) - (q0 * q0))))))))) * ((2 : Int64) - (q0 * (((q0 * ((2 : Int64) - (q0 * q0))) * ((2 : Int64) - (q0 * (q0 * ((2 : Int64) - (q0 * q0)))))) * ((2 : Int64) - (q0 * ((q0 * ((2 : Int64) - (q0 * q0))) * ((2 : Int64) - (q0 * (q0 * ((2 : Int64) - (q0 * q0)))))))))))) * ((2 : Int64) - (q0 * ((((q0 * ((2 : Int64) - (q0 * q0))) * ((2 : Int64) - (q0 * (q0 * ((2 : Int64) - (q0 * q0)))))) * ((2 : Int64) - (q0 * ((q0 * ((2 : Int64) - (q0 * q0))) * ((2 : Int64) - (q0 * (q0 * ((2 : Int64) - (q0 * q0))))))))) * ((2 : Int64) - (q0 * (((q0 * ((2 : Int64) - (q0 * q0))) * ((2 : Int64) - (q0 * (q0 * ((2 : Int64) - (q0 * q0)))))) * ((2 : Int64) - (q0 * ((q0 * ((2 : Int64) - (q0 * q0))) * ((2 : Int64) - (q0 * (q0 * ((2 : Int64) - (q0 * q0)))))))))))))))), .second] [(.long (((((q0 * ((2 : Int64) - (q0 * q0))) * ((2 : Int64) - (q0 * (q0 * ((2 : Int64) - (q0 * q0)))))) * ((2 : Int64) - (q0 * ((q0 * ((2 : Int64) - (q0 * q0))) * ((2 : Int64) - (q0 * (q0 * ((2 : Int64) - (q0 * q0))))))))) * ((2 : Int64) - (q0 * (((q0 * ((2 : Int64) - (q0 * q0))) * ((2 : Int64) - (q0 * (q0 * ((2 : Int64) - (q0 * q0)))))) * ((2 : Int64) - (q0 * ((q0 * ((2 : Int64) - (q0 * q0))) * ((2 : Int64) - (q0 * (q0 * ((2 : Int64) - (q0 * q0)))))))))))) * ((2 : Int64) - (q0 * ((((q0 * ((2 : Int64) - (q0 * q0))) * ((2 : Int64) - (q0 * (q0 * ((2 : Int64) - (q0 * q0)))))) * ((2 : Int64) - (q0 * ((q0 * ((2 : Int64) - (q0 * q0))) * ((2 : Int64) - (q0 * (q0 * ((2 : Int64) - (q0 * q0))))))))) * ((2 : Int64) - (q0 * (((q0 * ((2 : Int64) - (q0 * q0))) * ((2 : Int64) - (q0 * (q0 * ((2 : Int64) - (q0 * q0)))))) * ((2 : Int64) - (q0 * ((q0 * ((2 : Int64) - (q0 * q0))) * ((2 : Int64) - (q0 * (q0 * ((2 : Int64) - (q0 * q0))))))))))))))))])) (fun _ ks_ => XS.lloadN X0.here hx rfl (hb hby d2_52) rfl  ks_) ?_
  rw [hG]
  refine gJ X0 hx hlk hret (hb hby d2_53) ?_ (Nat.le_of_ble_eq_true rfl) (Nat.le_of_ble_eq_true rfl)
  show Q_rm2 Z q0 h0 n0 (some (.long (((((q0 * ((2 : Int64) - (q0 * q0))) * ((2 : Int64) - (q0 * (q0 * ((2 : Int64) - (q0 * q0)))))) * ((2 : Int64) - (q0 * ((q0 * ((2 : Int64) - (q0 * q0))) * ((2 : Int64) - (q0 * (q0 * ((2 : Int64) - (q0 * q0))))))))) * ((2 : Int64) - (q0 * (((q0 * ((2 : Int64) - (q0 * q0))) * ((2 : Int64) - (q0 * (q0 * ((2 : Int64) - (q0 * q0)))))) * ((2 : Int64) - (q0 * ((q0 * ((2 : Int64) - (q0 * q0))) * ((2 : Int64) - (q0 * (q0 * ((2 : Int64) - (q0 * q0)))))))))))) * ((2 : Int64) - (q0 * ((((q0 * ((2 : Int64) - (q0 * q0))) * ((2 : Int64) - (q0 * (q0 * ((2 : Int64) - (q0 * q0)))))) * ((2 : Int64) - (q0 * ((q0 * ((2 : Int64) - (q0 * q0))) * ((2 : Int64) - (q0 * (q0 * ((2 : Int64) - (q0 * q0))))))))) * ((2 : Int64) - (q0 * (((q0 * ((2 : Int64) - (q0 * q0))) * ((2 : Int64) - (q0 * (q0 * ((2 : Int64) - (q0 * q0)))))) * ((2 : Int64) - (q0 * ((q0 * ((2 : Int64) - (q0 * q0))) * ((2 : Int64) - (q0 * (q0 * ((2 : Int64) - (q0 * q0))))))))))))))))) s₁.heap _
  rw [e0]
  exact ⟨rfl, N0, rfl⟩
theorem pd__40_I_41_J : parseMethodDescriptor "(I)J" = some ⟨[.int], some .long⟩ := by decide +kernel
theorem pd__40_J_41_J : parseMethodDescriptor "(J)J" = some ⟨[.long], some .long⟩ := by decide +kernel
theorem pn_com_example_emberlot_emberlot_FrequencySketchSpreadPinLaw_law_0 : plainFor x = true := by first | exact plainFor_of_name (by first | (simp [plainName, overriddenIn]; done) | decide +kernel) | decide +kernel
def Q_rm0 (Z : State) (p0 : Int32) (h0 : Heap) (n0 : Nat) (v : Option Value) (h : Heap) (L : List Loc) : Prop := v = some (.int (1 : Int32)) ∧ Fr n0 L
set_option maxRecDepth 65536 in
set_option maxHeartbeats 4000000 in
theorem ef_rm0 (m : MethodId) (p0 : Int32) : entryFrame m #[(.int p0)] maxLocals = mkF m 0 #[.val (.int p0), .unset, .unset] [] := by first | (simp [entryFrame, mkF, argsToLocals, Value.category, maxLocals]; done) | rfl
set_option maxRecDepth 65536 in
set_option maxHeartbeats 40000000 in
theorem rm0 (l : Launch) (Z : State) (a0 : Array Value) (hw : ∀ d ∈ tables_1, d.before a0 Z = true) (ws : List Jvm.Cond) (p0 : Int32) (h0 : Heap) (n0 : Nat) (Z0 : n0 ≤ h0.size)  :
    MetFree l x (head1 (Jvm.Cond.code x code maxLocals ret :: ws) room_1) (fun a U => a = #[(.int p0)] ∧ Z.Warmed39 U.vm ∧ U.heap = h0) (fun _ _ _ _ _ => True) (fun _ U o U' => ∃ v L, o = .returned v ∧ Q_rm0 Z p0 h0 n0 v U'.heap L ∧ FrameEnd U o U' L room_1.cells room_1.slots) := by
  refine body pn_com_example_emberlot_emberlot_FrequencySketchSpreadPinLaw_law_0 ?_
  intro p e s m below meth c s₁ hx hby hml hown hnm hret hlk hZ e0 X0
  replace hml : c.maxLocals = 3 := hml
  replace hown : s.vm.findClass "com/example/emberlot/emberlot/FrequencySketchSpreadPinLaw" = some m.cls := hown
  replace hnm : meth.name = "law" := hnm
  replace hret : meth.sig.returnType = (some .boolean) := hret
  have N0 := Fr.nil n0
  rw [ef_rm0]
  obtain ⟨G, hG⟩ : ∃ G, G = End (Q_rm0 Z p0 h0 n0) s room_1.cells room_1.slots := ⟨_, rfl⟩
  rw [← hG]
  refine go (u' := s₁.setTop (mkF m 1 #[.val (.int p0), .unset, .unset] [(.int p0)])) (fun _ ks_ => XS.iloadN X0.here hx rfl (hb hby at_0) rfl  ks_) ?_
  obtain ⟨_, _, ⟨T1, L1, k1, n1⟩, -, X1, ⟨Lc1, hQ1, l1, y1, z1⟩, st1⟩ := Jvm.LawKit.callS X0 hx (y := (⟨"com/example/emberlot/emberlot/FrequencySketch", "spread", "(I)J"⟩ : MethodName)) hown (mvT hZ (ww hw 0 rfl)) (mvT hZ (ww hw 1 rfl)) (mvT hZ (ww hw 2 rfl)) (mvT hZ (ww hw 3 rfl)) (by decide) (backOf (W := 0) (rm1 l Z a0 hw [] p0 h0 n0 Z0) hZ (ww hw 3 rfl) (ww hw 2 rfl) (by decide) (by decide)) (g := (mkF m 1 #[.val (.int p0), .unset, .unset] [(.int p0)])) rfl (by rw [hml]; rfl) (argsL := [(.int p0)]) (rest := []) (lenOf pd__40_I_41_J rfl) rfl (by show 2 * 0 + _ ≤ _; exact Nat.le_of_eq rfl) (hb hby at_1) (fun _ _ => ⟨rfl, e0, (by decide : 0 + 0 ≤ _), (by decide : 0 + 0 ≤ _)⟩)
  dsimp only [Pt.U, Pt.locs, Pt.cells, Pt.slots] at X1 l1 y1 z1 st1 hQ1
  subst l1 y1 z1
  obtain ⟨rfl, N1q, eq1⟩ := hQ1
  have N1 := Fr.app N0 N1q
  refine go (u' := T1.setTop (mkF m 4 #[.val (.int p0), .unset, .unset] [(.long (own_spread p0))])) st1 ?_
  refine go (u' := T1.setTop (mkF m 5 #[.val (.int p0), .val (.long (own_spread p0)), .second] [])) (fun _ ks_ => XS.lstoreN X1.here hx rfl (hb hby at_4) rfl  (l' := #[.val (.int p0), .val (.long (own_spread p0)), .second]) rfl ks_) ?_
  obtain ⟨y0, hy0⟩ : ∃ z, z = (own_spread p0) := ⟨_, rfl⟩
  rw [← hy0]
  refine go (u' := T1.setTop (mkF m 6 #[.val (.int p0), .val (.long y0), .second] [(.long y0)])) (fun _ ks_ => XS.lloadN X1.here hx rfl (hb hby at_5) rfl  ks_) ?_
  refine go (u' := T1.setTop (mkF m 7 #[.val (.int p0), .val (.long y0), .second] [(.long y0), (.long y0)])) (fun _ ks_ => XS.lloadN X1.here hx rfl (hb hby at_6) rfl  ks_) ?_
  refine go (u' := T1.setTop (mkF m 9 #[.val (.int p0), .val (.long y0), .second] [(.int (31 : Int32)), (.long y0), (.long y0)])) (fun _ ks_ => XS.bipush X1.here hx rfl (hb hby at_7) ks_) ?_
  refine go (u' := T1.setTop (mkF m 10 #[.val (.int p0), .val (.long y0), .second] [(.long ((y0.toUInt64 >>> ((31 : Int32) &&& 0x3f).toInt64.toUInt64).toInt64)), (.long y0)])) (fun _ ks_ => XS.lushr X1.here hx rfl (hb hby at_9) rfl ks_) ?_
  refine go (u' := T1.setTop (mkF m 11 #[.val (.int p0), .val (.long y0), .second] [(.long (y0 ^^^ ((y0.toUInt64 >>> ((31 : Int32) &&& 0x3f).toInt64.toUInt64).toInt64)))])) (fun _ ks_ => XS.lxor X1.here hx rfl (hb hby at_10) rfl ks_) ?_
  refine go (u' := T1.setTop (mkF m 12 #[.val (.int p0), .val (.long y0), .second] [(.long y0), (.long (y0 ^^^ ((y0.toUInt64 >>> ((31 : Int32) &&& 0x3f).toInt64.toUInt64).toInt64)))])) (fun _ ks_ => XS.lloadN X1.here hx rfl (hb hby at_11) rfl  ks_) ?_
  refine go (u' := T1.setTop (mkF m 14 #[.val (.int p0), .val (.long y0), .second] [(.int (62 : Int32)), (.long y0), (.long (y0 ^^^ ((y0.toUInt64 >>> ((31 : Int32) &&& 0x3f).toInt64.toUInt64).toInt64)))])) (fun _ ks_ => XS.bipush X1.here hx rfl (hb hby at_12) ks_) ?_
  refine go (u' := T1.setTop (mkF m 15 #[.val (.int p0), .val (.long y0), .second] [(.long ((y0.toUInt64 >>> ((62 : Int32) &&& 0x3f).toInt64.toUInt64).toInt64)), (.long (y0 ^^^ ((y0.toUInt64 >>> ((31 : Int32) &&& 0x3f).toInt64.toUInt64).toInt64)))])) (fun _ ks_ => XS.lushr X1.here hx rfl (hb hby at_14) rfl ks_) ?_
  refine go (u' := T1.setTop (mkF m 16 #[.val (.int p0), .val (.long y0), .second] [(.long ((y0 ^^^ ((y0.toUInt64 >>> ((31 : Int32) &&& 0x3f).toInt64.toUInt64).toInt64)) ^^^ ((y0.toUInt64 >>> ((62 : Int32) &&& 0x3f).toInt64.toUInt64).toInt64)))])) (fun _ ks_ => XS.lxor X1.here hx rfl (hb hby at_15) rfl ks_) ?_
  refine go (u' := T1.setTop (mkF m 17 #[.val (.int p0), .val (.long ((y0 ^^^ ((y0.toUInt64 >>> ((31 : Int32) &&& 0x3f).toInt64.toUInt64).toInt64)) ^^^ ((y0.toUInt64 >>> ((62 : Int32) &&& 0x3f).toInt64.toUInt64).toInt64))), .second] [])) (fun _ ks_ => XS.lstoreN X1.here hx rfl (hb hby at_16) rfl  (l' := #[.val (.int p0), .val (.long ((y0 ^^^ ((y0.toUInt64 >>> ((31 : Int32) &&& 0x3f).toInt64.toUInt64).toInt64)) ^^^ ((y0.toUInt64 >>> ((62 : Int32) &&& 0x3f).toInt64.toUInt64).toInt64))), .second]) rfl ks_) ?_
  obtain ⟨y1, hy1⟩ : ∃ z, z = ((y0 ^^^ ((y0.toUInt64 >>> ((31 : Int32) &&& 0x3f).toInt64.toUInt64).toInt64)) ^^^ ((y0.toUInt64 >>> ((62 : Int32) &&& 0x3f).toInt64.toUInt64).toInt64)) := ⟨_, rfl⟩
  rw [← hy1]
  refine go (u' := T1.setTop (mkF m 18 #[.val (.int p0), .val (.long y1), .second] [(.long y1)])) (fun _ ks_ => XS.lloadN X1.here hx rfl (hb hby at_17) rfl  ks_) ?_
  refine go (u' := T1.setTop (mkF m 21 #[.val (.int p0), .val (.long y1), .second] [(.long (-7723592293110705685 : Int64)), (.long y1)])) (X1.ldc2Long hx hown (mvT hZ (ww hw 7 rfl)) (g := (mkF m 18 #[.val (.int p0), .val (.long y1), .second] [(.long y1)])) rfl (hb hby at_18)) ?_
  obtain ⟨_, _, ⟨T2, L2, k2, n2⟩, -, X2, ⟨Lc2, hQ2, l2, y2, z2⟩, st2⟩ := Jvm.LawKit.callS X1 hx (y := (⟨"com/example/emberlot/emberlot/FrequencySketchSpreadPinLaw", "inverse", "(J)J"⟩ : MethodName)) hown (mvT hZ (ww hw 8 rfl)) (mvT hZ (ww hw 9 rfl)) (mvT hZ (ww hw 10 rfl)) (mvT hZ (ww hw 11 rfl)) (by decide) (backOf (W := 2) (rm2 l Z a0 hw [] (-7723592293110705685 : Int64) h0 n0 Z0) hZ (ww hw 11 rfl) (ww hw 10 rfl) (by decide) (by decide)) (g := (mkF m 21 #[.val (.int p0), .val (.long y1), .second] [(.long (-7723592293110705685 : Int64)), (.long y1)])) rfl (by rw [hml]; rfl) (argsL := [(.long (-7723592293110705685 : Int64))]) (rest := [(.long y1)]) (lenOf pd__40_J_41_J rfl) rfl (by show 2 * 0 + _ ≤ _; exact Nat.le_of_eq rfl) (hb hby at_21) (fun _ _ => ⟨rfl, eq1, (by decide : 0 + 0 ≤ _), (by decide : 0 + 0 ≤ _)⟩)
  dsimp only [Pt.U, Pt.locs, Pt.cells, Pt.slots] at X2 l2 y2 z2 st2 hQ2
  subst l2 y2 z2
  obtain ⟨rfl, N2q, eq2⟩ := hQ2
  have N2 := Fr.app N1 N2q
  refine go (u' := T2.setTop (mkF m 24 #[.val (.int p0), .val (.long y1), .second] [(.long (own_inv (-7723592293110705685 : Int64))), (.long y1)])) st2 ?_
  refine go (u' := T2.setTop (mkF m 25 #[.val (.int p0), .val (.long y1), .second] [(.long (y1 * (own_inv (-7723592293110705685 : Int64))))])) (fun _ ks_ => XS.lmul X2.here hx rfl (hb hby at_24) rfl ks_) ?_
  refine go (u' := T2.setTop (mkF m 26 #[.val (.int p0), .val (.long (y1 * (own_inv (-7723592293110705685 : Int64)))), .second] [])) (fun _ ks_ => XS.lstoreN X2.here hx rfl (hb hby at_25) rfl  (l' := #[.val (.int p0), .val (.long (y1 * (own_inv (-7723592293110705685 : Int64)))), .second]) rfl ks_) ?_
  obtain ⟨y2, hy2⟩ : ∃ z, z = (y1 * (own_inv (-7723592293110705685 : Int64))) := ⟨_, rfl⟩
  rw [← hy2]
  refine go (u' := T2.setTop (mkF m 27 #[.val (.int p0), .val (.long y2), .second] [(.long y2)])) (fun _ ks_ => XS.lloadN X2.here hx rfl (hb hby at_26) rfl  ks_) ?_
  refine go (u' := T2.setTop (mkF m 28 #[.val (.int p0), .val (.long y2), .second] [(.long y2), (.long y2)])) (fun _ ks_ => XS.lloadN X2.here hx rfl (hb hby at_27) rfl  ks_) ?_
  refine go (u' := T2.setTop (mkF m 30 #[.val (.int p0), .val (.long y2), .second] [(.int (27 : Int32)), (.long y2), (.long y2)])) (fun _ ks_ => XS.bipush X2.here hx rfl (hb hby at_28) ks_) ?_
  refine go (u' := T2.setTop (mkF m 31 #[.val (.int p0), .val (.long y2), .second] [(.long ((y2.toUInt64 >>> ((27 : Int32) &&& 0x3f).toInt64.toUInt64).toInt64)), (.long y2)])) (fun _ ks_ => XS.lushr X2.here hx rfl (hb hby at_30) rfl ks_) ?_
  refine go (u' := T2.setTop (mkF m 32 #[.val (.int p0), .val (.long y2), .second] [(.long (y2 ^^^ ((y2.toUInt64 >>> ((27 : Int32) &&& 0x3f).toInt64.toUInt64).toInt64)))])) (fun _ ks_ => XS.lxor X2.here hx rfl (hb hby at_31) rfl ks_) ?_
  refine go (u' := T2.setTop (mkF m 33 #[.val (.int p0), .val (.long y2), .second] [(.long y2), (.long (y2 ^^^ ((y2.toUInt64 >>> ((27 : Int32) &&& 0x3f).toInt64.toUInt64).toInt64)))])) (fun _ ks_ => XS.lloadN X2.here hx rfl (hb hby at_32) rfl  ks_) ?_
  refine go (u' := T2.setTop (mkF m 35 #[.val (.int p0), .val (.long y2), .second] [(.int (54 : Int32)), (.long y2), (.long (y2 ^^^ ((y2.toUInt64 >>> ((27 : Int32) &&& 0x3f).toInt64.toUInt64).toInt64)))])) (fun _ ks_ => XS.bipush X2.here hx rfl (hb hby at_33) ks_) ?_
  refine go (u' := T2.setTop (mkF m 36 #[.val (.int p0), .val (.long y2), .second] [(.long ((y2.toUInt64 >>> ((54 : Int32) &&& 0x3f).toInt64.toUInt64).toInt64)), (.long (y2 ^^^ ((y2.toUInt64 >>> ((27 : Int32) &&& 0x3f).toInt64.toUInt64).toInt64)))])) (fun _ ks_ => XS.lushr X2.here hx rfl (hb hby at_35) rfl ks_) ?_
  refine go (u' := T2.setTop (mkF m 37 #[.val (.int p0), .val (.long y2), .second] [(.long ((y2 ^^^ ((y2.toUInt64 >>> ((27 : Int32) &&& 0x3f).toInt64.toUInt64).toInt64)) ^^^ ((y2.toUInt64 >>> ((54 : Int32) &&& 0x3f).toInt64.toUInt64).toInt64)))])) (fun _ ks_ => XS.lxor X2.here hx rfl (hb hby at_36) rfl ks_) ?_
  refine go (u' := T2.setTop (mkF m 38 #[.val (.int p0), .val (.long ((y2 ^^^ ((y2.toUInt64 >>> ((27 : Int32) &&& 0x3f).toInt64.toUInt64).toInt64)) ^^^ ((y2.toUInt64 >>> ((54 : Int32) &&& 0x3f).toInt64.toUInt64).toInt64))), .second] [])) (fun _ ks_ => XS.lstoreN X2.here hx rfl (hb hby at_37) rfl  (l' := #[.val (.int p0), .val (.long ((y2 ^^^ ((y2.toUInt64 >>> ((27 : Int32) &&& 0x3f).toInt64.toUInt64).toInt64)) ^^^ ((y2.toUInt64 >>> ((54 : Int32) &&& 0x3f).toInt64.toUInt64).toInt64))), .second]) rfl ks_) ?_
  obtain ⟨y3, hy3⟩ : ∃ z, z = ((y2 ^^^ ((y2.toUInt64 >>> ((27 : Int32) &&& 0x3f).toInt64.toUInt64).toInt64)) ^^^ ((y2.toUInt64 >>> ((54 : Int32) &&& 0x3f).toInt64.toUInt64).toInt64)) := ⟨_, rfl⟩
  rw [← hy3]
  refine go (u' := T2.setTop (mkF m 39 #[.val (.int p0), .val (.long y3), .second] [(.long y3)])) (fun _ ks_ => XS.lloadN X2.here hx rfl (hb hby at_38) rfl  ks_) ?_
  refine go (u' := T2.setTop (mkF m 42 #[.val (.int p0), .val (.long y3), .second] [(.long (-4658895280553007687 : Int64)), (.long y3)])) (X2.ldc2Long hx hown (mvT hZ (ww hw 13 rfl)) (g := (mkF m 39 #[.val (.int p0), .val (.long y3), .second] [(.long y3)])) rfl (hb hby at_39)) ?_
  obtain ⟨_, _, ⟨T3, L3, k3, n3⟩, -, X3, ⟨Lc3, hQ3, l3, y3, z3⟩, st3⟩ := Jvm.LawKit.callS X2 hx (y := (⟨"com/example/emberlot/emberlot/FrequencySketchSpreadPinLaw", "inverse", "(J)J"⟩ : MethodName)) hown (mvT hZ (ww hw 8 rfl)) (mvT hZ (ww hw 9 rfl)) (mvT hZ (ww hw 10 rfl)) (mvT hZ (ww hw 11 rfl)) (by decide) (backOf (W := 2) (rm2 l Z a0 hw [] (-4658895280553007687 : Int64) h0 n0 Z0) hZ (ww hw 11 rfl) (ww hw 10 rfl) (by decide) (by decide)) (g := (mkF m 42 #[.val (.int p0), .val (.long y3), .second] [(.long (-4658895280553007687 : Int64)), (.long y3)])) rfl (by rw [hml]; rfl) (argsL := [(.long (-4658895280553007687 : Int64))]) (rest := [(.long y3)]) (lenOf pd__40_J_41_J rfl) rfl (by show 2 * 0 + _ ≤ _; exact Nat.le_of_eq rfl) (hb hby at_42) (fun _ _ => ⟨rfl, eq2, (by decide : 0 + 0 ≤ _), (by decide : 0 + 0 ≤ _)⟩)
  dsimp only [Pt.U, Pt.locs, Pt.cells, Pt.slots] at X3 l3 y3 z3 st3 hQ3
  subst l3 y3 z3
  obtain ⟨rfl, N3q, eq3⟩ := hQ3
  have N3 := Fr.app N2 N3q
  refine go (u' := T3.setTop (mkF m 45 #[.val (.int p0), .val (.long y3), .second] [(.long (own_inv (-4658895280553007687 : Int64))), (.long y3)])) st3 ?_
  refine go (u' := T3.setTop (mkF m 46 #[.val (.int p0), .val (.long y3), .second] [(.long (y3 * (own_inv (-4658895280553007687 : Int64))))])) (fun _ ks_ => XS.lmul X3.here hx rfl (hb hby at_45) rfl ks_) ?_
  refine go (u' := T3.setTop (mkF m 47 #[.val (.int p0), .val (.long (y3 * (own_inv (-4658895280553007687 : Int64)))), .second] [])) (fun _ ks_ => XS.lstoreN X3.here hx rfl (hb hby at_46) rfl  (l' := #[.val (.int p0), .val (.long (y3 * (own_inv (-4658895280553007687 : Int64)))), .second]) rfl ks_) ?_
  obtain ⟨y4, hy4⟩ : ∃ z, z = (y3 * (own_inv (-4658895280553007687 : Int64))) := ⟨_, rfl⟩
  rw [← hy4]
  refine go (u' := T3.setTop (mkF m 48 #[.val (.int p0), .val (.long y4), .second] [(.long y4)])) (fun _ ks_ => XS.lloadN X3.here hx rfl (hb hby at_47) rfl  ks_) ?_
  refine go (u' := T3.setTop (mkF m 49 #[.val (.int p0), .val (.long y4), .second] [(.long y4), (.long y4)])) (fun _ ks_ => XS.lloadN X3.here hx rfl (hb hby at_48) rfl  ks_) ?_
  refine go (u' := T3.setTop (mkF m 51 #[.val (.int p0), .val (.long y4), .second] [(.int (30 : Int32)), (.long y4), (.long y4)])) (fun _ ks_ => XS.bipush X3.here hx rfl (hb hby at_49) ks_) ?_
  refine go (u' := T3.setTop (mkF m 52 #[.val (.int p0), .val (.long y4), .second] [(.long ((y4.toUInt64 >>> ((30 : Int32) &&& 0x3f).toInt64.toUInt64).toInt64)), (.long y4)])) (fun _ ks_ => XS.lushr X3.here hx rfl (hb hby at_51) rfl ks_) ?_
  refine go (u' := T3.setTop (mkF m 53 #[.val (.int p0), .val (.long y4), .second] [(.long (y4 ^^^ ((y4.toUInt64 >>> ((30 : Int32) &&& 0x3f).toInt64.toUInt64).toInt64)))])) (fun _ ks_ => XS.lxor X3.here hx rfl (hb hby at_52) rfl ks_) ?_
  refine go (u' := T3.setTop (mkF m 54 #[.val (.int p0), .val (.long y4), .second] [(.long y4), (.long (y4 ^^^ ((y4.toUInt64 >>> ((30 : Int32) &&& 0x3f).toInt64.toUInt64).toInt64)))])) (fun _ ks_ => XS.lloadN X3.here hx rfl (hb hby at_53) rfl  ks_) ?_
  refine go (u' := T3.setTop (mkF m 56 #[.val (.int p0), .val (.long y4), .second] [(.int (60 : Int32)), (.long y4), (.long (y4 ^^^ ((y4.toUInt64 >>> ((30 : Int32) &&& 0x3f).toInt64.toUInt64).toInt64)))])) (fun _ ks_ => XS.bipush X3.here hx rfl (hb hby at_54) ks_) ?_
  refine go (u' := T3.setTop (mkF m 57 #[.val (.int p0), .val (.long y4), .second] [(.long ((y4.toUInt64 >>> ((60 : Int32) &&& 0x3f).toInt64.toUInt64).toInt64)), (.long (y4 ^^^ ((y4.toUInt64 >>> ((30 : Int32) &&& 0x3f).toInt64.toUInt64).toInt64)))])) (fun _ ks_ => XS.lushr X3.here hx rfl (hb hby at_56) rfl ks_) ?_
  refine go (u' := T3.setTop (mkF m 58 #[.val (.int p0), .val (.long y4), .second] [(.long ((y4 ^^^ ((y4.toUInt64 >>> ((30 : Int32) &&& 0x3f).toInt64.toUInt64).toInt64)) ^^^ ((y4.toUInt64 >>> ((60 : Int32) &&& 0x3f).toInt64.toUInt64).toInt64)))])) (fun _ ks_ => XS.lxor X3.here hx rfl (hb hby at_57) rfl ks_) ?_
  refine go (u' := T3.setTop (mkF m 59 #[.val (.int p0), .val (.long ((y4 ^^^ ((y4.toUInt64 >>> ((30 : Int32) &&& 0x3f).toInt64.toUInt64).toInt64)) ^^^ ((y4.toUInt64 >>> ((60 : Int32) &&& 0x3f).toInt64.toUInt64).toInt64))), .second] [])) (fun _ ks_ => XS.lstoreN X3.here hx rfl (hb hby at_58) rfl  (l' := #[.val (.int p0), .val (.long ((y4 ^^^ ((y4.toUInt64 >>> ((30 : Int32) &&& 0x3f).toInt64.toUInt64).toInt64)) ^^^ ((y4.toUInt64 >>> ((60 : Int32) &&& 0x3f).toInt64.toUInt64).toInt64))), .second]) rfl ks_) ?_
  obtain ⟨y5, hy5⟩ : ∃ z, z = ((y4 ^^^ ((y4.toUInt64 >>> ((30 : Int32) &&& 0x3f).toInt64.toUInt64).toInt64)) ^^^ ((y4.toUInt64 >>> ((60 : Int32) &&& 0x3f).toInt64.toUInt64).toInt64)) := ⟨_, rfl⟩
  rw [← hy5]
  refine go (u' := T3.setTop (mkF m 60 #[.val (.int p0), .val (.long y5), .second] [(.long y5)])) (fun _ ks_ => XS.lloadN X3.here hx rfl (hb hby at_59) rfl  ks_) ?_
  refine go (u' := T3.setTop (mkF m 61 #[.val (.int p0), .val (.long y5), .second] [(.int p0), (.long y5)])) (fun _ ks_ => XS.iloadN X3.here hx rfl (hb hby at_60) rfl  ks_) ?_
  refine go (u' := T3.setTop (mkF m 62 #[.val (.int p0), .val (.long y5), .second] [(.long (p0.toInt64)), (.long y5)])) (fun _ ks_ => XS.i2l X3.here hx rfl (hb hby at_61) rfl ks_) ?_
  refine go (u' := T3.setTop (mkF m 65 #[.val (.int p0), .val (.long y5), .second] [(.long (-7046029254386353131 : Int64)), (.long (p0.toInt64)), (.long y5)])) (X3.ldc2Long hx hown (mvT hZ (ww hw 14 rfl)) (g := (mkF m 62 #[.val (.int p0), .val (.long y5), .second] [(.long (p0.toInt64)), (.long y5)])) rfl (hb hby at_62)) ?_
  refine go (u' := T3.setTop (mkF m 66 #[.val (.int p0), .val (.long y5), .second] [(.long ((p0.toInt64) + (-7046029254386353131 : Int64))), (.long y5)])) (fun _ ks_ => XS.ladd X3.here hx rfl (hb hby at_65) rfl ks_) ?_
  refine go (u' := T3.setTop (mkF m 67 #[.val (.int p0), .val (.long y5), .second] [(.int (lcmpW y5 ((p0.toInt64) + (-7046029254386353131 : Int64))))])) (fun _ ks_ => XS.lcmp X3.here hx rfl (hb hby at_66) rfl ks_) ?_
  refine go (u' := T3.setTop (mkF m 70 #[.val (.int p0), .val (.long y5), .second] [])) (fun _ ks_ => XS.ifNo X3.here hx rfl (hb hby at_67) rfl (lTe (show y5 = ((p0.toInt64) + (-7046029254386353131 : Int64)) from (by subst hy5 hy4 hy3 hy2 hy1 hy0; exact own_law p0))).2 ks_) ?_
  refine go (u' := T3.setTop (mkF m 71 #[.val (.int p0), .val (.long y5), .second] [(.int (1 : Int32))])) (fun _ ks_ => XS.iconst X3.here hx rfl (hb hby at_70) ks_) ?_
  refine go (u' := T3.setTop (mkF m 75 #[.val (.int p0), .val (.long y5), .second] [(.int (1 : Int32))])) (fun _ ks_ => XS.goto X3.here hx rfl (pc0 := 71) (pc' := 75) rfl (hb hby at_71) (by decide) (by decide) ks_) ?_
  rw [hG]
  refine gN X3 hx hlk (t := .boolean) hret (by simp) rfl (hb hby at_75) ?_ (Nat.le_of_ble_eq_true rfl) (Nat.le_of_ble_eq_true rfl)
  show Q_rm0 Z p0 h0 n0 (some (.int (1 : Int32))) T3.heap _
  rw [eq3]
  exact ⟨rfl, N3⟩
set_option maxRecDepth 65536 in
set_option maxHeartbeats 40000000 in
theorem comes_1 {Post : Tables → Env → Array Value → State → Outcome → State → Prop} (hpost : ∀ tb e args s v u, (limb_1_1.after args s (.returned v) u = true ∧ limb_1_2.after args s (.returned v) u = true ∧ True) → FrameEnd s (.returned v) u (Jvm.fieldLocs frame_1_writes args s ++ Jvm.arrayLocs frame_1_arrays args s ++ Jvm.staticLocs frame_1_statics s) 0 0 → Post tb e args s (.returned v) u) :
    ArmFor flags0 classFile x code maxLocals ret World_1 tables_1 room_1 Calls_1 rest_1 Pre_1 Post := by
  intro l hfl _ _ p e ha hc hk s m args below hf hA hF happ hP
  obtain ⟨hcalls, hrest, hpre⟩ := hP
  obtain ⟨-, -, -, hnamed, -, -, -, hat⟩ := (Spec.applies_iff hf).mp happ
  obtain ⟨hg, hn⟩ := and_e (Cond.before_iff.mp (show (Jvm.Cond.and given_1 narrow_1).before args s = true from hpre))
  obtain ⟨hcount, r0⟩ := and_e hg
  obtain ⟨w0, rfl⟩ : ∃ w0 : Value, args = #[w0] := by
    have hs : args.size = 1 := by simpa [Cond.value, given_1] using hcount
    obtain ⟨L⟩ := args
    match L, hs with
    | [w0], _ => exact ⟨w0, rfl⟩
  have hw := fun d (hd : d ∈ tables_1) => atoms_spec (ws := Jvm.Cond.code x code maxLocals ret :: tables_1) hat d (List.mem_cons_of_mem _ hd)
  have hfit : Fit s := fun {y c} hc i hi => by
    obtain ⟨ha, rfl⟩ := Array.getElem?_eq_some_iff.mp hc
    have q := List.all_eq_true.mp ((Array.all_eq_true_iff_forall_mem.mp hF) _ (Array.getElem_mem ha)) i (List.mem_range.mpr hi)
    simpa [Array.getElem?_eq_getElem hi] using q
  obtain ⟨x0, e0⟩ := is_v r0
  obtain rfl : w0 = (.int x0) := Option.some.inj e0
  obtain ⟨n, o, h1, h2, h3, _, L, rfl, ⟨rfl, N⟩, hq⟩ := rm0 l s _ hw tables_1 x0 s.heap s.heap.size (Nat.le_refl _)  p e ha hc hk s m _ below hf ((Spec.applies_iff_loose hf).mp happ).1 ⟨rfl, State.Warmed39.refl s, rfl⟩ trivial
  refine ⟨n, _, h1, h2, h3, hpost _ _ _ _ _ _ ⟨Cond.after_iff.mpr rfl, Cond.after_iff.mpr (eq_i res_at (Term.int_eval (1)) rfl), trivial⟩ ⟨hq.1, hq.2.1, (hq.2.2.sift fun y hy => Or.inr (N y hy)).mono (by decide) (by decide)⟩⟩
theorem main_1_1 : Claimed_1_1 := comes_1 fun _ _ _ _ _ _ h hF => ⟨h.1, hF⟩
theorem main_1_2 : Claimed_1_2 := comes_1 fun _ _ _ _ _ _ h hF => ⟨h.2.1, hF⟩
end Jvm.Pilot.@@N@@
namespace Jvm.Pilot.@@N@@
open Jvm Jvm.ClassFile Sem Op Lib Jvm.Free Jvm.Stand Jvm.Pilot.@@N@@.Jvm.D
/-! MADE BY PROGRAM (witnessworld.py) out of the Statement's table words and the real class files: 9 classes; the members and pool entries that the words name. The judged class is class 1, her method 1. -/
namespace start1
open Jvm.ClassFile
def u (s : String) : CpInfo := .utf8 (stringToUtf16 s)
/-- a pool by its gaps: so many unusable entries, then the entry; so many at the end -/
def gap : Nat → List CpInfo → List CpInfo
  | 0, r => r
  | n + 1, r => .unusable :: gap n r
def poolList (es : List (Nat × CpInfo)) (last : Nat) : List CpInfo := es.foldr (fun e r => gap e.1 (e.2 :: r)) (gap last [])
def pool (es : List (Nat × CpInfo)) (last : Nat) : Array CpInfo := ⟨poolList es last⟩
def fileOf (pool : Array CpInfo) (this : Nat) (attrs : Array Attribute := #[]) (ms : Array MethodInfo := #[]) (fl : Nat := 33) (sup : Nat := 0) (ifs : Array Nat := #[]) (fds : Array FieldInfo := #[]) : ClassFile where
  minorVersion := 0
  majorVersion := 65
  constantPool := pool
  accessFlags := fl
  thisClass := this
  superClass := sup
  interfaces := ifs
  fields := fds
  methods := ms
  attributes := attrs
def plain (name : String) (sup : Option ClassId) : Class where
  name := name
  kind := .ordinary
  loader := none
  accessFlags := 33
  super := sup
  interfaces := #[]
  cf := none
  fields := #[]
  methods := #[]
  instanceTypes := #[]
  staticTypes := #[]
  resolved := #[]
  callSites := []
  init := .initialized
  statics := none
  mirror := none

def pool0 : Array CpInfo := pool [(5, u "<init>"), (0, u "()V"), (1, .class_ 10), (1, u "java/lang/Object")] 113

def k0m0 : Method := { name := "<init>", desc := "()V", sig := { parameters := [], returnType := none }, accessFlags := 1, code := none }
/-- java/lang/Object -/
def k0 : Class := { plain "java/lang/Object" none with
  accessFlags := 33
  interfaces := #[]
  cf := some (fileOf pool0 8 #[] #[{ accessFlags := 1, nameIndex := 5, descriptorIndex := 6, attributes := #[] }] 33 0 #[] #[])
  fields := #[]
  methods := #[k0m0]
  instanceTypes := #[]
  staticTypes := #[]
  resolved := Array.replicate 124 none
  statics := none }

def pool1 : Array CpInfo := pool [(2, .class_ 4), (1, u "java/lang/Object"), (0, u "<init>"), (0, u "()V"), (0, .methodref 8 9), (0, .class_ 10), (0, .nameAndType 11 12), (0, u "com/example/emberlot/emberlot/FrequencySketch"), (0, u "spread"), (0, u "(I)J"), (0, .long 10723151780598845931), (1, .methodref 16 17), (0, .class_ 18), (0, .nameAndType 19 20), (0, u "com/example/emberlot/emberlot/FrequencySketchSpreadPinLaw"), (0, u "inverse"), (0, u "(J)J"), (0, .long 13787848793156543929), (1, .long 11400714819323198485), (1, .long 2), (3, u "law"), (0, u "(I)Z")] 3

def k1m0 : Method := { name := "<init>", desc := "()V", sig := { parameters := [], returnType := none }, accessFlags := 1, code := none }
def k1c1 : Code := { maxStack := 6, maxLocals := 3, code := code, exceptionTable := #[], attributes := #[] }
def k1m1 : Method := { name := "law", desc := "(I)Z", sig := { parameters := [.int], returnType := some .boolean }, accessFlags := 9, code := some k1c1 }
def k1c2 : Code := { maxStack := 8, maxLocals := 4, code := method_3_code, exceptionTable := #[], attributes := #[] }
def k1m2 : Method := { name := "inverse", desc := "(J)J", sig := { parameters := [.long], returnType := some .long }, accessFlags := 10, code := some k1c2 }
/-- com/example/emberlot/emberlot/FrequencySketchSpreadPinLaw -/
def k1 : Class := { plain "com/example/emberlot/emberlot/FrequencySketchSpreadPinLaw" (some 0) with
  accessFlags := 49
  interfaces := #[]
  cf := some (fileOf pool1 16 #[] #[{ accessFlags := 1, nameIndex := 5, descriptorIndex := 6, attributes := #[] }, { accessFlags := 9, nameIndex := 29, descriptorIndex := 30, attributes := #[] }, { accessFlags := 10, nameIndex := 19, descriptorIndex := 20, attributes := #[] }] 49 2 #[] #[])
  fields := #[]
  methods := #[k1m0, k1m1, k1m2]
  instanceTypes := #[]
  staticTypes := #[]
  resolved := Array.replicate 34 none
  statics := none }

def pool2 : Array CpInfo := pool [(2, .class_ 4), (1, u "java/lang/Object"), (2, .class_ 8), (0, u "com/example/emberlot/emberlot/FrequencySketch"), (2, u "table"), (0, u "[J"), (21, u "fullWords"), (0, u "I"), (10, u "sampleSize"), (0, u "J"), (14, u "spread"), (0, u "(I)J"), (15, u "increments"), (8, .long 11400714819323198485), (1, .long 13787848793156543929), (1, .long 10723151780598845931), (1, u "MAX_COUNT"), (2, u "ROWS"), (1, u "WORDS_PER_BLOCK"), (1, u "MAX_WORDS"), (1, u "SAMPLE_FACTOR"), (1, u "LOW_BITS")] 10

def k2c0 : Code := { maxStack := 5, maxLocals := 3, code := prog_20_method_6_code, exceptionTable := #[], attributes := #[] }
def k2m0 : Method := { name := "spread", desc := "(I)J", sig := { parameters := [.int], returnType := some .long }, accessFlags := 8, code := some k2c0 }
/-- com/example/emberlot/emberlot/FrequencySketch -/
def k2 : Class := { plain "com/example/emberlot/emberlot/FrequencySketch" (some 0) with
  accessFlags := 48
  interfaces := #[]
  cf := some (fileOf pool2 7 #[] #[{ accessFlags := 8, nameIndex := 62, descriptorIndex := 63, attributes := #[] }] 48 2 #[] #[{ accessFlags := 24, nameIndex := 94, descriptorIndex := 35, attributes := #[] }, { accessFlags := 26, nameIndex := 97, descriptorIndex := 35, attributes := #[] }, { accessFlags := 26, nameIndex := 99, descriptorIndex := 35, attributes := #[] }, { accessFlags := 26, nameIndex := 101, descriptorIndex := 35, attributes := #[] }, { accessFlags := 26, nameIndex := 103, descriptorIndex := 35, attributes := #[] }, { accessFlags := 26, nameIndex := 105, descriptorIndex := 47, attributes := #[] }, { accessFlags := 18, nameIndex := 34, descriptorIndex := 35, attributes := #[] }, { accessFlags := 18, nameIndex := 46, descriptorIndex := 47, attributes := #[] }, { accessFlags := 2, nameIndex := 11, descriptorIndex := 12, attributes := #[] }, { accessFlags := 2, nameIndex := 79, descriptorIndex := 47, attributes := #[] }])
  fields := #[{ name := "MAX_COUNT", type := .int, accessFlags := 24, slot := 0, constantValue := 0 }, { name := "ROWS", type := .int, accessFlags := 26, slot := 1, constantValue := 0 }, { name := "WORDS_PER_BLOCK", type := .int, accessFlags := 26, slot := 2, constantValue := 0 }, { name := "MAX_WORDS", type := .int, accessFlags := 26, slot := 3, constantValue := 0 }, { name := "SAMPLE_FACTOR", type := .int, accessFlags := 26, slot := 4, constantValue := 0 }, { name := "LOW_BITS", type := .long, accessFlags := 26, slot := 5, constantValue := 0 }, { name := "fullWords", type := .int, accessFlags := 18, slot := 0, constantValue := 0 }, { name := "sampleSize", type := .long, accessFlags := 18, slot := 1, constantValue := 0 }, { name := "table", type := (.array .long), accessFlags := 2, slot := 2, constantValue := 0 }, { name := "increments", type := .long, accessFlags := 2, slot := 3, constantValue := 0 }]
  methods := #[k2m0]
  instanceTypes := #[.int, .long, (.array .long), .long]
  staticTypes := #[.int, .int, .int, .int, .int, .long]
  resolved := Array.replicate 116 none
  statics := none }

def pool3 : Array CpInfo := pool [(1, u "java/lang/Cloneable"), (0, .class_ 1), (0, u "java/lang/Object"), (0, .class_ 3)] 3

/-- java/lang/Cloneable -/
def k3 : Class := { plain "java/lang/Cloneable" (some 0) with
  accessFlags := 1537
  interfaces := #[]
  cf := some (fileOf pool3 2 #[] #[] 1537 4 #[] #[])
  fields := #[]
  methods := #[]
  instanceTypes := #[]
  staticTypes := #[]
  resolved := Array.replicate 8 none
  statics := none }

def pool4 : Array CpInfo := pool [(1, u "java/io/Serializable"), (0, .class_ 1), (0, u "java/lang/Object"), (0, .class_ 3)] 3

/-- java/io/Serializable -/
def k4 : Class := { plain "java/io/Serializable" (some 0) with
  accessFlags := 1537
  interfaces := #[]
  cf := some (fileOf pool4 2 #[] #[] 1537 4 #[] #[])
  fields := #[]
  methods := #[]
  instanceTypes := #[]
  staticTypes := #[]
  resolved := Array.replicate 8 none
  statics := none }

/-- the primitive byte -/
def k5 : Class := { plain "byte" none with kind := .primitive 'B', accessFlags := 0x411 }
/-- [B -/
def k6 : Class := { plain "[B" (some 0) with kind := .array 5 .byte, interfaces := #[3, 4], accessFlags := 1041 }

/-- the primitive int -/
def k7 : Class := { plain "int" none with kind := .primitive 'I', accessFlags := 0x411 }
/-- [I -/
def k8 : Class := { plain "[I" (some 0) with kind := .array 7 .int, interfaces := #[3, 4], accessFlags := 1041 }

def heap : Heap := #[]
def classes : Array Class := #[k0, k1, k2, k3, k4, k5, k6, k7, k8]
def interned : List (Array UInt16 × Addr) := []
def slotsUsed : Nat := 0
def theMethod : MethodId := ⟨1, 1⟩
def args0 : Array Value := #[.int 7]
def aboutOver (below : List Frame) : State where
  vm := { classes := classes, interned := interned.toArray }
  heap := heap
  slotsUsed := slotsUsed
  threads := #[{ frames := .invoking theMethod args0 :: below }]
def below0 : List Frame := [.native { method := ⟨0, 0⟩, args := #[] }]
def about1 : State := aboutOver below0
def p0 : Program := .bare "" "" ""
def e0 : Env := launch0.env 0 0 0
theorem w_frames : about1.frames = Frame.invoking theMethod args0 :: below0 := rfl
set_option maxRecDepth 65536 in
theorem w_args : argsFit about1.vm theMethod args0 = true := by decide +kernel
set_option maxRecDepth 65536 in
theorem w_heap : heapFits about1 = true := by decide +kernel
set_option maxRecDepth 65536 in
theorem w_runnable : about1.curStatus? = some .runnable := by decide +kernel
set_option maxRecDepth 65536 in
theorem w_alone : about1.alone = true := by decide +kernel
set_option maxRecDepth 65536 in
theorem w_named : about1.methodNamed? x = some theMethod := by decide +kernel
set_option maxRecDepth 65536 in
theorem w_hears : about1.hears theMethod below0 = true := by decide +kernel
set_option maxRecDepth 65536 in
theorem w_ripe : about1.ripe theMethod args0 below0 = true := by decide +kernel
theorem w_running : about1.status = .running := rfl
set_option maxRecDepth 65536 in
theorem w_room : about1.hasRoom e0.platform room_1 = true :=
  launch0.hasRoom_least _ room_1 (by decide +kernel) (by decide +kernel) (by decide +kernel) (by decide +kernel) (by decide +kernel) (by decide +kernel)
theorem allAtoms_all (ts : List Jvm.Cond) (a : Array Jvm.Value) (st : Jvm.State) : (allAtoms ts).before a st = ts.all (fun c => c.before a st) := by
  induction ts with
  | nil => rfl
  | cons c t ih =>
    show (Jvm.Cond.and c (allAtoms t)).before a st = _
    rw [Jvm.Cond.before_and, ih, List.all_cons]
def words1 : List Jvm.Cond := Jvm.Cond.code x code maxLocals ret :: tables_1
/-- a 'code' word, met by the world's own term for the bytes: nothing is compared byte by byte -/
theorem code_word {y : MethodName} {bytes : ByteArray} {mx : Nat} {rt : Option FieldType} {a : Array Value} {s : State} {m : MethodId} {meth : Method} {c : Code} (h1 : s.methodNamed? y = some m) (h2 : s.vm.method? m = some meth) (h3 : meth.code = some c) (h4 : c.code = bytes)
    (h5 : (c.maxLocals == mx && c.exceptionTable.isEmpty && decide (c.maxStack ≤ mostOperands) && decide (meth.sig.returnType = rt) && !meth.locks && decide (parseMethodDescriptor y.desc = some meth.sig)) = true) : (Jvm.Cond.code y bytes mx rt).before a s = true := by
  simp only [Bool.and_eq_true, beq_iff_eq, Bool.not_eq_true', decide_eq_true_eq] at h5
  obtain ⟨⟨⟨⟨⟨g1, g2⟩, g3⟩, g4⟩, g5⟩, g6⟩ := h5
  simp [Cond.before, Cond.holds, Cond.value, h1, h2, h3, h4, g1, g2, g3, g4, g5, g6]
def isCode : Jvm.Cond → Bool
  | .code _ _ _ _ => true
  | _ => false
theorem all_split {L : List Jvm.Cond} {P : Jvm.Cond → Bool} (h1 : L.all (fun c => isCode c || P c) = true) (h2 : ∀ c ∈ L.filter isCode, P c = true) : L.all P = true := by
  refine List.all_eq_true.mpr fun c hc => ?_
  have h := List.all_eq_true.mp h1 c hc
  rcases Bool.eq_false_or_eq_true (isCode c) with hi | hi
  · exact h2 c (List.mem_filter.mpr ⟨hc, hi⟩)
  · simpa [hi] using h
set_option maxRecDepth 65536 in
theorem w_c0 : (Jvm.Cond.code x code maxLocals ret).before args0 about1 = true := code_word (m := ⟨1, 1⟩) (meth := k1m1) (c := k1c1) (by decide +kernel) rfl rfl rfl (by decide +kernel)
set_option maxRecDepth 65536 in
theorem w_c1 : (Jvm.Cond.code ({ cls := "com/example/emberlot/emberlot/FrequencySketch", name := "spread", desc := "(I)J" } : Jvm.MethodName) prog_20_method_6_code (3 : Nat) (Option.some Jvm.ClassFile.FieldType.long)).before args0 about1 = true := code_word (m := ⟨2, 0⟩) (meth := k2m0) (c := k2c0) (by decide +kernel) rfl rfl rfl (by decide +kernel)
set_option maxRecDepth 65536 in
theorem w_c2 : (Jvm.Cond.code ({ cls := "com/example/emberlot/emberlot/FrequencySketchSpreadPinLaw", name := "inverse", desc := "(J)J" } : Jvm.MethodName) method_3_code (4 : Nat) (Option.some Jvm.ClassFile.FieldType.long)).before args0 about1 = true := code_word (m := ⟨1, 2⟩) (meth := k1m2) (c := k1c2) (by decide +kernel) rfl rfl rfl (by decide +kernel)
def codes1 : List Jvm.Cond := [Jvm.Cond.code x code maxLocals ret, Jvm.Cond.code ({ cls := "com/example/emberlot/emberlot/FrequencySketch", name := "spread", desc := "(I)J" } : Jvm.MethodName) prog_20_method_6_code (3 : Nat) (Option.some Jvm.ClassFile.FieldType.long), Jvm.Cond.code ({ cls := "com/example/emberlot/emberlot/FrequencySketchSpreadPinLaw", name := "inverse", desc := "(J)J" } : Jvm.MethodName) method_3_code (4 : Nat) (Option.some Jvm.ClassFile.FieldType.long)]
set_option maxRecDepth 65536 in
theorem codes_eq : words1.filter isCode = codes1 := rfl
theorem w_codes : ∀ c ∈ words1.filter isCode, c.before args0 about1 = true := by
  rw [codes_eq]
  intro c hc
  simp only [codes1, List.mem_cons, List.not_mem_nil, or_false] at hc
  rcases hc with rfl | rfl | rfl
  · exact w_c0
  · exact w_c1
  · exact w_c2
set_option maxRecDepth 65536 in
theorem w_t1 : words1.all (fun c => isCode c || c.before args0 about1) = true := by decide +kernel
theorem w_tables : (allAtoms (Jvm.Cond.code x code maxLocals ret :: tables_1)).before args0 about1 = true := by
  rw [allAtoms_all]
  show words1.all (fun c => c.before args0 about1) = true
  refine all_split ?_ w_codes
  rw [w_t1]
set_option maxRecDepth 65536 in
theorem w_case : (Jvm.Cond.and given_1 narrow_1).before args0 about1 = true := by decide +kernel
theorem w_applies : (headSpec (Jvm.Cond.code x code maxLocals ret :: tables_1) room_1).applies x e0.platform about1 = true :=
  (Spec.applies_iff w_frames).mpr ⟨w_running, w_runnable, w_alone, w_named, w_hears, w_ripe, w_room, w_tables⟩
theorem atStart : AtStart classFile x code maxLocals ret World_1 tables_1 room_1 Calls_1 rest_1 Pre_1 launch0 p0 e0 about1 theMethod args0 below0 :=
  ⟨lists_1, trivial, launch0.admits_env _ _ _, launch0.least_env, fairChoices_fair.cas, fairChoices_fair.clock, w_frames, w_args, w_heap, w_applies, trivial, trivial, w_case⟩
end start1
theorem witness_1 : WitnessClaimed_1 := ⟨start1.p0, start1.e0, start1.about1, start1.theMethod, start1.args0, start1.below0, start1.atStart⟩
end Jvm.Pilot.@@N@@
