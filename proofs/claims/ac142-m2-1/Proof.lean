import JvmDerived
import JvmDerived.Pilot.@@N@@Statement
import JvmDerived.Pilot.@@N@@Code
set_option linter.unusedVariables false
set_option linter.unusedSimpArgs false
namespace Jvm.Pilot.@@N@@
open Jvm Jvm.ClassFile Sem Op Lib Jvm.Free Jvm.Stand Jvm.LawKit Jvm.RoadKit Bundle Jvm.Pilot.@@N@@.Jvm.D
section OwnKit
variable {p : Program} {l : Launch} {e : Env} {R : Room} {s : State} {m : MethodId} {args : Array Value} {below : List Frame} {meth : Method} {c : Code} {T : State} {locs : List Loc} {cells slots : Nat}
/-- from the state u the run comes to an end of the invocation at which G holds -/
def Go (tb : Tables) (e : Env) (below : List Frame) (G : Outcome → State → Prop) (u : State) : Prop := ∃ s₂ o, Steps tb e below u s₂ ∧ s₂.status = .running ∧ Ended s₂ below o ∧ G o s₂
def End (Q : Option Value → Heap → List Loc → Prop) (s : State) (C S : Nat) (o : Outcome) (u : State) : Prop := ∃ v L, o = .returned v ∧ Q v u.heap L ∧ FrameEnd s o u L C S
theorem go {tb : Tables} {G : Outcome → State → Prop} {u u' : State} (st : ∀ t, Steps tb e below u' t → Steps tb e below u t) (k : Go tb e below G u') : Go tb e below G u := by
  obtain ⟨s₂, o, h1, h2⟩ := k
  exact ⟨s₂, o, st _ h1, h2⟩
theorem goT {tb : Tables} {G : Outcome → State → Prop} {u u' : State} (st : Steps tb e below u u') (k : Go tb e below G u') : Go tb e below G u := go (fun _ h => st.trans h) k
theorem own_fin (X : Stand p l e R s m args below meth c T locs cells slots) (hlk : meth.locks = false) {v : Option Value} (hv : meth.sig.returnType = none → v = none) {Q : Option Value → Heap → List Loc → Prop} {C S : Nat} (hq : Q v T.heap locs) (hc : cells ≤ C) (hs : slots ≤ S) {u : State}
    (st : ∀ fs, (∀ (f : JFrame) (acts : List Action), f.method = m → f.locked = none → f.entered = [] → (doReturn e (T.setTop f) acts v).1 = T.setFrames fs) → Steps p.tables e below u (T.setFrames fs)) : Go p.tables e below (End Q s C S) u := by
  obtain ⟨fs, hr, hrun, hended, hW, hsame⟩ := X.leave (v := v) hv hlk
  exact ⟨_, _, st fs hr, hrun, hended, _, _, rfl, hq, ⟨_, rfl⟩, hW, hsame.mono hc hs⟩
theorem own_retI (X : Stand p l e R s m args below meth c T locs cells slots) (hx : p.tables.exec = Jvm.exec) {pc : Nat} {Ls : Array Slot} {z : Int32} {rest : List Value} (hret : meth.sig.returnType = some .int) (hd : decode c.code pc = .ok (.ireturn, 1)) {fs : List Frame}
    (hl : ∀ (f : JFrame) (acts : List Action), f.method = m → f.locked = none → f.entered = [] → (doReturn e (T.setTop f) acts (some (.int z))).1 = T.setFrames fs) : Steps p.tables e below (T.setTop (mkF m pc Ls (.int z :: rest))) (T.setFrames fs) := by
  have hm' : T.vm.method? m = some meth := X.method'
  have hn : narrow .int (.int z) = .int z := rfl
  show Steps p.tables e below (T.setTop { method := m, pc := pc, locals := Ls, stack := _ :: rest, locked := none }) _
  jvm_step X.here [X.here.top, hx, hd, hm', hret, hn]
  first | (intro acts; rw [hl _ acts rfl rfl rfl]) | rw [hl _ _ rfl rfl rfl]
  exact Steps.refl _
theorem own_retA (X : Stand p l e R s m args below meth c T locs cells slots) (hx : p.tables.exec = Jvm.exec) {pc : Nat} {Ls : Array Slot} {z : Value} {t : FieldType} {rest : List Value} (hret : meth.sig.returnType = some t) (ht : t.isReference = true) (hz : z.isRef = true) (hd : decode c.code pc = .ok (.areturn, 1)) {fs : List Frame}
    (hl : ∀ (f : JFrame) (acts : List Action), f.method = m → f.locked = none → f.entered = [] → (doReturn e (T.setTop f) acts (some z)).1 = T.setFrames fs) : Steps p.tables e below (T.setTop (mkF m pc Ls (z :: rest))) (T.setFrames fs) := by
  have hm' : T.vm.method? m = some meth := X.method'
  show Steps p.tables e below (T.setTop { method := m, pc := pc, locals := Ls, stack := _ :: rest, locked := none }) _
  jvm_step X.here [X.here.top, hx, hd, hm', hret, ht, hz]
  first | (intro acts; rw [hl _ acts rfl rfl rfl]) | rw [hl _ _ rfl rfl rfl]
  exact Steps.refl _
theorem gI (X : Stand p l e R s m args below meth c T locs cells slots) (hx : p.tables.exec = Jvm.exec) (hlk : meth.locks = false) {pc : Nat} {Ls : Array Slot} {z : Int32} {rest : List Value} (hret : meth.sig.returnType = some .int) (hd : decode c.code pc = .ok (.ireturn, 1)) {Q : Option Value → Heap → List Loc → Prop} {C S : Nat} (hq : Q (some (.int z)) T.heap locs) (hc : cells ≤ C) (hs : slots ≤ S) :
    Go p.tables e below (End Q s C S) (T.setTop (mkF m pc Ls (.int z :: rest))) := own_fin X hlk (fun h => by rw [hret] at h; cases h) hq hc hs fun fs hr => own_retI X hx hret hd hr
theorem gN (X : Stand p l e R s m args below meth c T locs cells slots) (hx : p.tables.exec = Jvm.exec) (hlk : meth.locks = false) {pc : Nat} {Ls : Array Slot} {z : Int32} {t : FieldType} {rest : List Value} (hret : meth.sig.returnType = some t) (ht : t = .boolean ∨ t = .byte ∨ t = .char ∨ t = .short) (hn : nar t z = z) (hd : decode c.code pc = .ok (.ireturn, 1)) {Q : Option Value → Heap → List Loc → Prop} {C S : Nat} (hq : Q (some (.int z)) T.heap locs) (hc : cells ≤ C) (hs : slots ≤ S) :
    Go p.tables e below (End Q s C S) (T.setTop (mkF m pc Ls (.int z :: rest))) := own_fin X hlk (fun h => by rw [hret] at h; cases h) hq hc hs fun fs hr => retN X hx hret ht hd (by rw [hn]; exact hr)
theorem gJ (X : Stand p l e R s m args below meth c T locs cells slots) (hx : p.tables.exec = Jvm.exec) (hlk : meth.locks = false) {pc : Nat} {Ls : Array Slot} {z : Int64} (hret : meth.sig.returnType = some .long) (hd : decode c.code pc = .ok (.lreturn, 1)) {Q : Option Value → Heap → List Loc → Prop} {C S : Nat} (hq : Q (some (.long z)) T.heap locs) (hc : cells ≤ C) (hs : slots ≤ S) :
    Go p.tables e below (End Q s C S) (T.setTop (mkF m pc Ls [.long z])) := own_fin X hlk (fun h => by rw [hret] at h; cases h) hq hc hs fun fs hr => X.lreturnOut hx hret hd hr
theorem g0 (X : Stand p l e R s m args below meth c T locs cells slots) (hx : p.tables.exec = Jvm.exec) (hlk : meth.locks = false) {pc : Nat} {Ls : Array Slot} (hret : meth.sig.returnType = none) (hd : decode c.code pc = .ok (.return_, 1)) {Q : Option Value → Heap → List Loc → Prop} {C S : Nat} (hq : Q none T.heap locs) (hc : cells ≤ C) (hs : slots ≤ S) :
    Go p.tables e below (End Q s C S) (T.setTop (mkF m pc Ls [])) := own_fin X hlk (fun _ => rfl) hq hc hs fun fs hr => X.returnOut hx hret hd hr
theorem gA (X : Stand p l e R s m args below meth c T locs cells slots) (hx : p.tables.exec = Jvm.exec) (hlk : meth.locks = false) {pc : Nat} {Ls : Array Slot} {z : Value} {t : FieldType} {rest : List Value} (hret : meth.sig.returnType = some t) (ht : t.isReference = true) (hz : z.isRef = true) (hd : decode c.code pc = .ok (.areturn, 1)) {Q : Option Value → Heap → List Loc → Prop} {C S : Nat} (hq : Q (some z) T.heap locs) (hc : cells ≤ C) (hs : slots ≤ S) :
    Go p.tables e below (End Q s C S) (T.setTop (mkF m pc Ls (z :: rest))) := own_fin X hlk (fun h => by rw [hret] at h; cases h) hq hc hs fun fs hr => own_retA X hx hret ht hz hd hr
end OwnKit
/-- a body's contract out of its walk -/
theorem body {l : Launch} {y : MethodName} {bytes : ByteArray} {maxL : Nat} {ret : Option FieldType} {ws : List Jvm.Cond} {rm : Room} {as' : Array Value} {Z : State} {h0 : Heap} {Q : Option Value → Heap → List Loc → Prop} (pn : plainFor y = true)
    (k : ∀ (p : Program) (e : Env) (s : State) (m : MethodId) (below : List Frame) (meth : Method) (c : Code) (s₁ : State), p.tables.exec = Jvm.exec → c.code = bytes → c.maxLocals = maxL → s.vm.findClass y.cls = some m.cls → meth.name = y.name → meth.sig.returnType = ret → meth.locks = false → Z.Warmed39 s.vm → s₁.heap = h0 →
      Stand p l e rm s m as' below meth c s₁ [] 0 0 → Go p.tables e below (End Q s rm.cells rm.slots) (s₁.setTop (entryFrame m as' maxL))) :
    MetFree l y (head1 (Jvm.Cond.code y bytes maxL ret :: ws) rm) (fun a U => a = as' ∧ Z.Warmed39 U.vm ∧ U.heap = h0) (fun _ _ _ _ _ => True) (fun _ U o U' => ∃ v L, o = .returned v ∧ Q v U'.heap L ∧ FrameEnd U o U' L rm.cells rm.slots) := by
  refine MetFree.of_bodySF pn hisR ?_
  intro p e s m args below meth c s₁ Bd hml hP _
  obtain ⟨rfl, hZ, hh⟩ := hP
  obtain ⟨s₂, o, h1, h2, h3, h4⟩ := k p e s m below meth c s₁ Bd.exec Bd.bytes hml (findClass_of_methodNamed Bd.named) (name_of_methodNamed Bd.named Bd.method).1 Bd.returns Bd.notSynchronized hZ (by rw [← hh, Bd.state]; rfl) (Stand.of_body Bd)
  exact ⟨s₂, o, h1, h2, h3, h4⟩
/-- a boolean as an int -/
def B (P : Prop) [Decidable P] : Int32 := if P then 1 else 0
theorem Bt {P : Prop} [Decidable P] (h : P) : B P = 1 := if_pos h
theorem Bf {P : Prop} [Decidable P] (h : ¬ P) : B P = 0 := if_neg h
theorem B1 {P : Prop} [Decidable P] (h : P) : (1 : Int32) = B P := (if_pos h).symm
theorem B0 {P : Prop} [Decidable P] (h : ¬ P) : (0 : Int32) = B P := (if_neg h).symm
theorem B_iff {P Q : Prop} [Decidable P] [Decidable Q] (h : P ↔ Q) : B P = B Q := by simp only [B, h]
theorem B_nar {P : Prop} [Decidable P] : nar .boolean (B P) = B P := by by_cases h : P <;> simp only [B, h, if_true, if_false] <;> rfl
theorem bT {P : Prop} [Decidable P] (h : P) : ifCond.holds .ne (B P) = true ∧ ifCond.holds .eq (B P) = false := by rw [Bt h]; exact ⟨rfl, rfl⟩
theorem bF {P : Prop} [Decidable P] (h : ¬ P) : ifCond.holds .ne (B P) = false ∧ ifCond.holds .eq (B P) = true := by rw [Bf h]; exact ⟨rfl, rfl⟩
theorem lT {x y : Int64} (h : x < y) : ifCond.holds .lt (lcmpW x y) = true ∧ ifCond.holds .ge (lcmpW x y) = false ∧ ifCond.holds .gt (lcmpW y x) = true ∧ ifCond.holds .le (lcmpW y x) = false := by
  have h1 := tlt ((lw_lt x y).mpr h)
  have h2 := tlt ((lw_gt y x).mpr h)
  simp only [if0]; exact ⟨h1.1, h1.2.1, h2.2.2.1, h2.2.2.2⟩
theorem lF {x y : Int64} (h : ¬ x < y) : ifCond.holds .lt (lcmpW x y) = false ∧ ifCond.holds .ge (lcmpW x y) = true ∧ ifCond.holds .gt (lcmpW y x) = false ∧ ifCond.holds .le (lcmpW y x) = true := by
  have h1 := flt (fun q => h ((lw_lt x y).mp q))
  have h2 := flt (fun q => h ((lw_gt y x).mp q))
  simp only [if0]; exact ⟨h1.1, h1.2.1, h2.2.2.1, h2.2.2.2⟩
theorem lTe {x y : Int64} (h : x = y) : ifCond.holds .eq (lcmpW x y) = true ∧ ifCond.holds .ne (lcmpW x y) = false := by
  simp only [if0]; exact teq ((lw_eq x y).mpr h)
theorem lFe {x y : Int64} (h : ¬ x = y) : ifCond.holds .eq (lcmpW x y) = false ∧ ifCond.holds .ne (lcmpW x y) = true := by
  simp only [if0]; exact feq (fun q => h ((lw_eq x y).mp q))
theorem bTv {P : Prop} [Decidable P] {v : Int32} (hv : v = B P) (h : P) : ifCond.holds .ne v = true ∧ ifCond.holds .eq v = false := hv ▸ bT h
theorem bFv {P : Prop} [Decidable P] {v : Int32} (hv : v = B P) (h : ¬ P) : ifCond.holds .ne v = false ∧ ifCond.holds .eq v = true := hv ▸ bF h
theorem B_narv {P : Prop} [Decidable P] {v : Int32} (hv : v = B P) : nar .boolean v = v := hv ▸ B_nar
theorem own_fitb {v : Int32} (h : nar .boolean v = v) : fits .boolean (.int v) = true := h ▸ fits_nar_bool v
theorem ww {a0 : Array Value} {Z : State} (hw : ∀ d ∈ tables_1, d.before a0 Z = true) (i : Nat) {d : Jvm.Cond} (h : tables_1[i]? = some d) : d.before a0 Z = true := hw d (List.mem_of_getElem? h)
def own_most (m : Int64) : Int32 := (if (m / (7 : Int64)) < (2147483647 : Int64) then (m / (7 : Int64)) else (2147483647 : Int64)).toInt32
theorem own_mostV (m : Int64) (h : 0 ≤ m.toInt) : (own_most m).toInt = if m.toInt / 7 < 2147483647 then m.toInt / 7 else 2147483647 := by
  have h1 := (c_ldiv m 7 7 rfl (by decide)).1 h
  have h2 : (2147483647 : Int64).toInt = 2147483647 := rfl
  have h3 := rng64 m
  simp only [own_most, Int64.lt_iff_toInt_lt, h1, h2]
  split
  · rw [Int64.toInt_toInt32, h1]; rw [Int.bmod_eq_of_le (by omega) (by omega)]
  · rfl
theorem own_seven (m : Int64) (h : 0 ≤ m.toInt) : ((7 : Int64) * (own_most m).toInt64).toInt = 7 * (own_most m).toInt := by
  have h1 := own_mostV m h
  have h2 := c_lmul (7 : Int64) (own_most m).toInt64
  rw [c_i2l] at h2
  have h3 := rng64 ((7 : Int64) * (own_most m).toInt64)
  have h4 := rng32 (own_most m)
  have h5 : (7 : Int64).toInt = 7 := rfl
  rw [h5] at h2
  omega
theorem own_r0 (m : Int64) (h : 0 ≤ m.toInt) : ¬ (own_most m < (0 : Int32)) := by
  have h1 := own_mostV m h
  have h2 : (0 : Int32).toInt = 0 := rfl
  rw [Int32.lt_iff_toInt_lt, h2, h1]
  split <;> omega
theorem own_r1 (m : Int64) (h : 0 ≤ m.toInt) : ¬ (m < (7 : Int64) * (own_most m).toInt64) := by
  have h1 := own_mostV m h
  rw [Int64.lt_iff_toInt_lt, own_seven m h, h1]
  split <;> omega
theorem own_r2 (m : Int64) (h : 0 ≤ m.toInt) (hc : ¬ own_most m = (2147483647 : Int32)) : m < ((7 : Int64) * (own_most m).toInt64) + (7 : Int64) := by
  have h1 := own_mostV m h
  have h0 : (own_most m).toInt ≠ 2147483647 := fun q => hc (Int32.toInt_inj.mp q)
  have h2 := c_ladd ((7 : Int64) * (own_most m).toInt64) (7 : Int64)
  have h3 := rng64 (((7 : Int64) * (own_most m).toInt64) + (7 : Int64))
  have h4 : (7 : Int64).toInt = 7 := rfl
  rw [own_seven m h, h4] at h2
  rw [Int64.lt_iff_toInt_lt]
  split at h1 <;> omega
theorem own_range (q0 : Int64) (p1 : Int32) (mm : Int64) (h : mm = (if (p1 &&& (3 : Int32)) = (0 : Int32) then (q0 &&& (9223372036854775807 : Int64)) else (if (p1 &&& (3 : Int32)) = (1 : Int32) then (q0 &&& (34359738367 : Int64)) else (if (p1 &&& (3 : Int32)) = (2 : Int32) then (q0 &&& (255 : Int64)) else ((15032385521 : Int64) + (q0 &&& (15 : Int64))))))) : 0 ≤ mm.toInt ∧ mm.toInt ≤ 9223372036854775807 := by
  have hr := rng64 mm
  refine ⟨?_, by omega⟩
  rw [h]
  have h1 := c_maskL q0 9223372036854775807 63 (by decide) (by decide)
  have h2 := c_maskL q0 34359738367 35 (by decide) (by decide)
  have h3 := c_maskL q0 255 8 (by decide) (by decide)
  have h4 := c_maskL q0 15 4 (by decide) (by decide)
  split
  · rw [h1]; omega
  · split
    · rw [h2]; omega
    · split
      · rw [h3]; omega
      · have h5 := c_ladd (15032385521 : Int64) (q0 &&& (15 : Int64))
        have h6 := rng64 ((15032385521 : Int64) + (q0 &&& (15 : Int64)))
        have h7 : (15032385521 : Int64).toInt = 15032385521 := rfl
        rw [h7] at h5
        omega
theorem pn_java_lang_Math_min_2 : plainFor (⟨"java/lang/Math", "min", "(JJ)J"⟩ : MethodName) = true := by first | exact plainFor_of_name (by first | (simp [plainName, overriddenIn]; done) | decide +kernel) | decide +kernel
def Q_rm2 (Z : State) (q0 : Int64) (q1 : Int64) (h0 : Heap) (n0 : Nat) (v : Option Value) (h : Heap) (L : List Loc) : Prop := v = some (.long (if q1 < q0 then q1 else q0)) ∧ Fr n0 L ∧ h = h0
theorem ef_rm2 (m : MethodId) (q0 : Int64) (q1 : Int64) : entryFrame m #[(.long q0), (.long q1)] 4 = mkF m 0 #[.val (.long q0), .second, .val (.long q1), .second] [] := by first | rfl | (simp [entryFrame, mkF, argsToLocals, Value.category, maxLocals]; done)
theorem d2_0 : decode jdk_29_method_70_code 0 = .ok (.lload_n 0, 1) := by decide +kernel
theorem d2_1 : decode jdk_29_method_70_code 1 = .ok (.lload_n 2, 1) := by decide +kernel
theorem d2_2 : decode jdk_29_method_70_code 2 = .ok (.lcmp, 1) := by decide +kernel
theorem d2_3 : decode jdk_29_method_70_code 3 = .ok (.ifCond .gt 7, 3) := by decide +kernel
theorem d2_6 : decode jdk_29_method_70_code 6 = .ok (.lload_n 0, 1) := by decide +kernel
theorem d2_7 : decode jdk_29_method_70_code 7 = .ok (.goto 4, 3) := by decide +kernel
theorem d2_10 : decode jdk_29_method_70_code 10 = .ok (.lload_n 2, 1) := by decide +kernel
theorem d2_11 : decode jdk_29_method_70_code 11 = .ok (.lreturn, 1) := by decide +kernel
set_option maxRecDepth 65536 in
set_option maxHeartbeats 40000000 in
theorem rm2 (l : Launch) (Z : State) (a0 : Array Value) (hw : ∀ d ∈ tables_1, d.before a0 Z = true) (ws : List Jvm.Cond) (q0 : Int64) (q1 : Int64) (h0 : Heap) (n0 : Nat) (Z0 : n0 ≤ h0.size)  :
    MetFree l (⟨"java/lang/Math", "min", "(JJ)J"⟩ : MethodName) (head1 (Jvm.Cond.code (⟨"java/lang/Math", "min", "(JJ)J"⟩ : MethodName) jdk_29_method_70_code 4 (some .long) :: ws) ({ frames := 0, cells := 0, slots := 0, locals := 0 } : Room)) (fun a U => a = #[(.long q0), (.long q1)] ∧ Z.Warmed39 U.vm ∧ U.heap = h0) (fun _ _ _ _ _ => True) (fun _ U o U' => ∃ v L, o = .returned v ∧ Q_rm2 Z q0 q1 h0 n0 v U'.heap L ∧ FrameEnd U o U' L ({ frames := 0, cells := 0, slots := 0, locals := 0 } : Room).cells ({ frames := 0, cells := 0, slots := 0, locals := 0 } : Room).slots) := by
  refine body pn_java_lang_Math_min_2 ?_
  intro p e s m below meth c s₁ hx hby hml hown hnm hret hlk hZ e0 X0
  replace hml : c.maxLocals = 4 := hml
  replace hown : s.vm.findClass "java/lang/Math" = some m.cls := hown
  replace hnm : meth.name = "min" := hnm
  replace hret : meth.sig.returnType = (some .long) := hret
  have N0 := Fr.nil n0
  rw [ef_rm2]
  obtain ⟨G, hG⟩ : ∃ G, G = End (Q_rm2 Z q0 q1 h0 n0) s ({ frames := 0, cells := 0, slots := 0, locals := 0 } : Room).cells ({ frames := 0, cells := 0, slots := 0, locals := 0 } : Room).slots := ⟨_, rfl⟩
  rw [← hG]
  refine go (u' := s₁.setTop (mkF m 1 #[.val (.long q0), .second, .val (.long q1), .second] [(.long q0)])) (fun _ ks_ => XS.lloadN X0.here hx rfl (hb hby d2_0) rfl  ks_) ?_
  refine go (u' := s₁.setTop (mkF m 2 #[.val (.long q0), .second, .val (.long q1), .second] [(.long q1), (.long q0)])) (fun _ ks_ => XS.lloadN X0.here hx rfl (hb hby d2_1) rfl  ks_) ?_
  refine go (u' := s₁.setTop (mkF m 3 #[.val (.long q0), .second, .val (.long q1), .second] [(.int (lcmpW q0 q1))])) (fun _ ks_ => XS.lcmp X0.here hx rfl (hb hby d2_2) rfl ks_) ?_
  by_cases c3_1 : q1 < q0
  ·
    refine go (u' := s₁.setTop (mkF m 10 #[.val (.long q0), .second, .val (.long q1), .second] [])) (fun _ ks_ => XS.ifYes X0.here hx rfl (pc0 := 3) (pc' := 10) rfl (hb hby d2_3) rfl (lT c3_1).2.2.1 (by decide) (by decide) ks_) ?_
    refine go (u' := s₁.setTop (mkF m 11 #[.val (.long q0), .second, .val (.long q1), .second] [(.long q1)])) (fun _ ks_ => XS.lloadN X0.here hx rfl (hb hby d2_10) rfl  ks_) ?_
    rw [hG]
    refine gJ X0 hx hlk hret (hb hby d2_11) ?_ (Nat.le_of_ble_eq_true rfl) (Nat.le_of_ble_eq_true rfl)
    show Q_rm2 Z q0 q1 h0 n0 (some (.long q1)) s₁.heap _
    rw [e0]
    exact ⟨congrArg (fun z => some (Value.long z)) ((if_pos c3_1)).symm, N0, rfl⟩
  ·
    refine go (u' := s₁.setTop (mkF m 6 #[.val (.long q0), .second, .val (.long q1), .second] [])) (fun _ ks_ => XS.ifNo X0.here hx rfl (hb hby d2_3) rfl (lF c3_1).2.2.1 ks_) ?_
    refine go (u' := s₁.setTop (mkF m 7 #[.val (.long q0), .second, .val (.long q1), .second] [(.long q0)])) (fun _ ks_ => XS.lloadN X0.here hx rfl (hb hby d2_6) rfl  ks_) ?_
    refine go (u' := s₁.setTop (mkF m 11 #[.val (.long q0), .second, .val (.long q1), .second] [(.long q0)])) (fun _ ks_ => XS.goto X0.here hx rfl (pc0 := 7) (pc' := 11) rfl (hb hby d2_7) (by decide) (by decide) ks_) ?_
    rw [hG]
    refine gJ X0 hx hlk hret (hb hby d2_11) ?_ (Nat.le_of_ble_eq_true rfl) (Nat.le_of_ble_eq_true rfl)
    show Q_rm2 Z q0 q1 h0 n0 (some (.long q0)) s₁.heap _
    rw [e0]
    exact ⟨congrArg (fun z => some (Value.long z)) ((if_neg c3_1)).symm, N0, rfl⟩
theorem pd__40_JJ_41_J : parseMethodDescriptor "(JJ)J" = some ⟨[.long, .long], some .long⟩ := by decide +kernel
theorem pn_com_example_bowerbird_bowerbird_parse_Syntax_mostBytes_1 : plainFor (⟨"com/example/bowerbird/bowerbird/parse/Syntax", "mostBytes", "(J)I"⟩ : MethodName) = true := by first | exact plainFor_of_name (by first | (simp [plainName, overriddenIn]; done) | decide +kernel) | decide +kernel
def Q_rm1 (Z : State) (q0 : Int64) (h0 : Heap) (n0 : Nat) (v : Option Value) (h : Heap) (L : List Loc) : Prop := v = some (.int (own_most q0)) ∧ Fr n0 L ∧ h = h0
theorem ef_rm1 (m : MethodId) (q0 : Int64) : entryFrame m #[(.long q0)] 2 = mkF m 0 #[.val (.long q0), .second] [] := by first | rfl | (simp [entryFrame, mkF, argsToLocals, Value.category, maxLocals]; done)
theorem d1_0 : decode prog_69_method_5_code 0 = .ok (.ldc2_w 105, 3) := by decide +kernel
theorem d1_3 : decode prog_69_method_5_code 3 = .ok (.lload_n 0, 1) := by decide +kernel
theorem d1_4 : decode prog_69_method_5_code 4 = .ok (.ldc2_w 21, 3) := by decide +kernel
theorem d1_7 : decode prog_69_method_5_code 7 = .ok (.ldiv, 1) := by decide +kernel
theorem d1_8 : decode prog_69_method_5_code 8 = .ok (.invokestatic 107, 3) := by decide +kernel
theorem d1_11 : decode prog_69_method_5_code 11 = .ok (.l2i, 1) := by decide +kernel
theorem d1_12 : decode prog_69_method_5_code 12 = .ok (.ireturn, 1) := by decide +kernel
set_option maxRecDepth 65536 in
set_option maxHeartbeats 40000000 in
theorem rm1 (l : Launch) (Z : State) (a0 : Array Value) (hw : ∀ d ∈ tables_1, d.before a0 Z = true) (ws : List Jvm.Cond) (q0 : Int64) (h0 : Heap) (n0 : Nat) (Z0 : n0 ≤ h0.size)  :
    MetFree l (⟨"com/example/bowerbird/bowerbird/parse/Syntax", "mostBytes", "(J)I"⟩ : MethodName) (head1 (Jvm.Cond.code (⟨"com/example/bowerbird/bowerbird/parse/Syntax", "mostBytes", "(J)I"⟩ : MethodName) prog_69_method_5_code 2 (some .int) :: ws) ({ frames := 1, cells := 0, slots := 0, locals := 15 } : Room)) (fun a U => a = #[(.long q0)] ∧ Z.Warmed39 U.vm ∧ U.heap = h0) (fun _ _ _ _ _ => True) (fun _ U o U' => ∃ v L, o = .returned v ∧ Q_rm1 Z q0 h0 n0 v U'.heap L ∧ FrameEnd U o U' L ({ frames := 1, cells := 0, slots := 0, locals := 15 } : Room).cells ({ frames := 1, cells := 0, slots := 0, locals := 15 } : Room).slots) := by
  refine body pn_com_example_bowerbird_bowerbird_parse_Syntax_mostBytes_1 ?_
  intro p e s m below meth c s₁ hx hby hml hown hnm hret hlk hZ e0 X0
  replace hml : c.maxLocals = 2 := hml
  replace hown : s.vm.findClass "com/example/bowerbird/bowerbird/parse/Syntax" = some m.cls := hown
  replace hnm : meth.name = "mostBytes" := hnm
  replace hret : meth.sig.returnType = (some .int) := hret
  have N0 := Fr.nil n0
  rw [ef_rm1]
  obtain ⟨G, hG⟩ : ∃ G, G = End (Q_rm1 Z q0 h0 n0) s ({ frames := 1, cells := 0, slots := 0, locals := 15 } : Room).cells ({ frames := 1, cells := 0, slots := 0, locals := 15 } : Room).slots := ⟨_, rfl⟩
  rw [← hG]
  refine go (u' := s₁.setTop (mkF m 3 #[.val (.long q0), .second] [(.long (2147483647 : Int64))])) (X0.ldc2Long hx hown (mvT hZ (ww hw 5 rfl)) (g := (mkF m 0 #[.val (.long q0), .second] [])) rfl (hb hby d1_0)) ?_
  refine go (u' := s₁.setTop (mkF m 4 #[.val (.long q0), .second] [(.long q0), (.long (2147483647 : Int64))])) (fun _ ks_ => XS.lloadN X0.here hx rfl (hb hby d1_3) rfl  ks_) ?_
  refine go (u' := s₁.setTop (mkF m 7 #[.val (.long q0), .second] [(.long (7 : Int64)), (.long q0), (.long (2147483647 : Int64))])) (X0.ldc2Long hx hown (mvT hZ (ww hw 6 rfl)) (g := (mkF m 4 #[.val (.long q0), .second] [(.long q0), (.long (2147483647 : Int64))])) rfl (hb hby d1_4)) ?_
  refine go (u' := s₁.setTop (mkF m 8 #[.val (.long q0), .second] [(.long (q0 / (7 : Int64))), (.long (2147483647 : Int64))])) (fun _ ks_ => XS.ldiv X0.here hx rfl (hb hby d1_7) rfl (by decide) ks_) ?_
  obtain ⟨_, _, ⟨T1, L1, k1, n1⟩, -, X1, ⟨Lc1, hQ1, l1, y1, z1⟩, st1⟩ := Jvm.LawKit.callS X0 hx (y := (⟨"java/lang/Math", "min", "(JJ)J"⟩ : MethodName)) hown (mvT hZ (ww hw 7 rfl)) (mvT hZ (ww hw 8 rfl)) (mvT hZ (ww hw 9 rfl)) (mvT hZ (ww hw 10 rfl)) (by decide) (backOf (W := 0) (rm2 l Z a0 hw [] (2147483647 : Int64) (q0 / (7 : Int64)) h0 n0 Z0) hZ (ww hw 10 rfl) (ww hw 9 rfl) (by decide) (by decide)) (g := (mkF m 8 #[.val (.long q0), .second] [(.long (q0 / (7 : Int64))), (.long (2147483647 : Int64))])) rfl (by rw [hml]; rfl) (argsL := [(.long (2147483647 : Int64)), (.long (q0 / (7 : Int64)))]) (rest := []) (lenOf pd__40_JJ_41_J rfl) rfl (by show 2 * 0 + _ ≤ _; exact Nat.le_of_eq rfl) (hb hby d1_8) (fun _ _ => ⟨rfl, e0, (by decide : 0 + 0 ≤ _), (by decide : 0 + 0 ≤ _)⟩)
  dsimp only [Pt.U, Pt.locs, Pt.cells, Pt.slots] at X1 l1 y1 z1 st1 hQ1
  subst l1 y1 z1
  obtain ⟨rfl, N1q, eq1⟩ := hQ1
  have N1 := Fr.app N0 N1q
  refine go (u' := T1.setTop (mkF m 11 #[.val (.long q0), .second] [(.long (if (q0 / (7 : Int64)) < (2147483647 : Int64) then (q0 / (7 : Int64)) else (2147483647 : Int64)))])) st1 ?_
  refine go (u' := T1.setTop (mkF m 12 #[.val (.long q0), .second] [(.int ((if (q0 / (7 : Int64)) < (2147483647 : Int64) then (q0 / (7 : Int64)) else (2147483647 : Int64)).toInt32))])) (fun _ ks_ => XS.l2i X1.here hx rfl (hb hby d1_11) rfl ks_) ?_
  rw [hG]
  refine gI X1 hx hlk hret (hb hby d1_12) ?_ (Nat.le_of_ble_eq_true rfl) (Nat.le_of_ble_eq_true rfl)
  show Q_rm1 Z q0 h0 n0 (some (.int ((if (q0 / (7 : Int64)) < (2147483647 : Int64) then (q0 / (7 : Int64)) else (2147483647 : Int64)).toInt32))) T1.heap _
  rw [eq1]
  exact ⟨rfl, N1, rfl⟩
theorem pd__40_J_41_I : parseMethodDescriptor "(J)I" = some ⟨[.long], some .int⟩ := by decide +kernel
theorem pn_com_example_bowerbird_bowerbird_parse_SyntaxMostBytesPinLaw_law_0 : plainFor x = true := by first | exact plainFor_of_name (by first | (simp [plainName, overriddenIn]; done) | decide +kernel) | decide +kernel
def Q_rm0 (Z : State) (q0 : Int64) (p1 : Int32) (h0 : Heap) (n0 : Nat) (v : Option Value) (h : Heap) (L : List Loc) : Prop := v = some (.int (1 : Int32)) ∧ Fr n0 L
theorem ef_rm0 (m : MethodId) (q0 : Int64) (p1 : Int32) : entryFrame m #[(.long q0), (.int p1)] maxLocals = mkF m 0 #[.val (.long q0), .second, .val (.int p1), .unset, .unset, .unset, .unset, .unset, .unset] [] := by first | rfl | (simp [entryFrame, mkF, argsToLocals, Value.category, maxLocals]; done)
set_option maxRecDepth 65536 in
set_option maxHeartbeats 40000000 in
theorem rm0 (l : Launch) (Z : State) (a0 : Array Value) (hw : ∀ d ∈ tables_1, d.before a0 Z = true) (ws : List Jvm.Cond) (q0 : Int64) (p1 : Int32) (h0 : Heap) (n0 : Nat) (Z0 : n0 ≤ h0.size)  :
    MetFree l x (head1 (Jvm.Cond.code x code maxLocals ret :: ws) room_1) (fun a U => a = #[(.long q0), (.int p1)] ∧ Z.Warmed39 U.vm ∧ U.heap = h0) (fun _ _ _ _ _ => True) (fun _ U o U' => ∃ v L, o = .returned v ∧ Q_rm0 Z q0 p1 h0 n0 v U'.heap L ∧ FrameEnd U o U' L room_1.cells room_1.slots) := by
  refine body pn_com_example_bowerbird_bowerbird_parse_SyntaxMostBytesPinLaw_law_0 ?_
  intro p e s m below meth c s₁ hx hby hml hown hnm hret hlk hZ e0 X0
  replace hml : c.maxLocals = 9 := hml
  replace hown : s.vm.findClass "com/example/bowerbird/bowerbird/parse/SyntaxMostBytesPinLaw" = some m.cls := hown
  replace hnm : meth.name = "law" := hnm
  replace hret : meth.sig.returnType = (some .boolean) := hret
  have N0 := Fr.nil n0
  rw [ef_rm0]
  obtain ⟨G, hG⟩ : ∃ G, G = End (Q_rm0 Z q0 p1 h0 n0) s room_1.cells room_1.slots := ⟨_, rfl⟩
  rw [← hG]
  refine go (u' := s₁.setTop (mkF m 1 #[.val (.long q0), .second, .val (.int p1), .unset, .unset, .unset, .unset, .unset, .unset] [(.int p1)])) (fun _ ks_ => XS.iloadN X0.here hx rfl (hb hby at_0) rfl  ks_) ?_
  refine go (u' := s₁.setTop (mkF m 2 #[.val (.long q0), .second, .val (.int p1), .unset, .unset, .unset, .unset, .unset, .unset] [(.int (3 : Int32)), (.int p1)])) (fun _ ks_ => XS.iconst X0.here hx rfl (hb hby at_1) ks_) ?_
  refine go (u' := s₁.setTop (mkF m 3 #[.val (.long q0), .second, .val (.int p1), .unset, .unset, .unset, .unset, .unset, .unset] [(.int (p1 &&& (3 : Int32)))])) (fun _ ks_ => XS.iand X0.here hx rfl (hb hby at_2) rfl ks_) ?_
  refine go (u' := s₁.setTop (mkF m 5 #[.val (.long q0), .second, .val (.int p1), .unset, .unset, .val (.int (p1 &&& (3 : Int32))), .unset, .unset, .unset] [])) (fun _ ks_ => XS.istore X0.here hx rfl (hb hby at_3) rfl  (l' := #[.val (.long q0), .second, .val (.int p1), .unset, .unset, .val (.int (p1 &&& (3 : Int32))), .unset, .unset, .unset]) rfl ks_) ?_
  refine go (u' := s₁.setTop (mkF m 7 #[.val (.long q0), .second, .val (.int p1), .unset, .unset, .val (.int (p1 &&& (3 : Int32))), .unset, .unset, .unset] [(.int (p1 &&& (3 : Int32)))])) (fun _ ks_ => XS.iload X0.here hx rfl (hb hby at_5) rfl  ks_) ?_
  have J59_1 : ∀ mm : Int64, mm = (if (p1 &&& (3 : Int32)) = (0 : Int32) then (q0 &&& (9223372036854775807 : Int64)) else (if (p1 &&& (3 : Int32)) = (1 : Int32) then (q0 &&& (34359738367 : Int64)) else (if (p1 &&& (3 : Int32)) = (2 : Int32) then (q0 &&& (255 : Int64)) else ((15032385521 : Int64) + (q0 &&& (15 : Int64)))))) → Go p.tables e below G (s₁.setTop (mkF m 59 #[.val (.long q0), .second, .val (.int p1), .val (.long mm), .second, .val (.int (p1 &&& (3 : Int32))), .unset, .unset, .unset] [])) := by
    intro mm hmm
    obtain ⟨own_m0, own_m1⟩ : 0 ≤ mm.toInt ∧ mm.toInt ≤ 9223372036854775807 := own_range q0 p1 mm hmm
    refine go (u' := s₁.setTop (mkF m 60 #[.val (.long q0), .second, .val (.int p1), .val (.long mm), .second, .val (.int (p1 &&& (3 : Int32))), .unset, .unset, .unset] [(.long mm)])) (fun _ ks_ => XS.lloadN X0.here hx rfl (hb hby at_59) rfl  ks_) ?_
    obtain ⟨_, _, ⟨T1, L1, k1, n1⟩, -, X1, ⟨Lc1, hQ1, l1, y1, z1⟩, st1⟩ := Jvm.LawKit.callS X0 hx (y := (⟨"com/example/bowerbird/bowerbird/parse/Syntax", "mostBytes", "(J)I"⟩ : MethodName)) hown (mvT hZ (ww hw 1 rfl)) (mvT hZ (ww hw 2 rfl)) (mvT hZ (ww hw 3 rfl)) (mvT hZ (ww hw 4 rfl)) (by decide) (backOf (W := 0) (rm1 l Z a0 hw [] mm h0 n0 Z0) hZ (ww hw 4 rfl) (ww hw 3 rfl) (by decide) (by decide)) (g := (mkF m 60 #[.val (.long q0), .second, .val (.int p1), .val (.long mm), .second, .val (.int (p1 &&& (3 : Int32))), .unset, .unset, .unset] [(.long mm)])) rfl (by rw [hml]; rfl) (argsL := [(.long mm)]) (rest := []) (lenOf pd__40_J_41_I rfl) rfl (by show 2 * 0 + _ ≤ _; exact Nat.le_of_eq rfl) (hb hby at_60) (fun _ _ => ⟨rfl, e0, (by decide : 0 + 0 ≤ _), (by decide : 0 + 0 ≤ _)⟩)
    dsimp only [Pt.U, Pt.locs, Pt.cells, Pt.slots] at X1 l1 y1 z1 st1 hQ1
    subst l1 y1 z1
    obtain ⟨rfl, N1q, eq1⟩ := hQ1
    have N1 := Fr.app N0 N1q
    refine go (u' := T1.setTop (mkF m 63 #[.val (.long q0), .second, .val (.int p1), .val (.long mm), .second, .val (.int (p1 &&& (3 : Int32))), .unset, .unset, .unset] [(.int (own_most mm))])) st1 ?_
    refine go (u' := T1.setTop (mkF m 65 #[.val (.long q0), .second, .val (.int p1), .val (.long mm), .second, .val (.int (p1 &&& (3 : Int32))), .val (.int (own_most mm)), .unset, .unset] [])) (fun _ ks_ => XS.istore X1.here hx rfl (hb hby at_63) rfl  (l' := #[.val (.long q0), .second, .val (.int p1), .val (.long mm), .second, .val (.int (p1 &&& (3 : Int32))), .val (.int (own_most mm)), .unset, .unset]) rfl ks_) ?_
    refine go (u' := T1.setTop (mkF m 68 #[.val (.long q0), .second, .val (.int p1), .val (.long mm), .second, .val (.int (p1 &&& (3 : Int32))), .val (.int (own_most mm)), .unset, .unset] [(.long (7 : Int64))])) (X1.ldc2Long hx hown (mvT hZ (ww hw 11 rfl)) (g := (mkF m 65 #[.val (.long q0), .second, .val (.int p1), .val (.long mm), .second, .val (.int (p1 &&& (3 : Int32))), .val (.int (own_most mm)), .unset, .unset] [])) rfl (hb hby at_65)) ?_
    refine go (u' := T1.setTop (mkF m 70 #[.val (.long q0), .second, .val (.int p1), .val (.long mm), .second, .val (.int (p1 &&& (3 : Int32))), .val (.int (own_most mm)), .unset, .unset] [(.int (own_most mm)), (.long (7 : Int64))])) (fun _ ks_ => XS.iload X1.here hx rfl (hb hby at_68) rfl  ks_) ?_
    refine go (u' := T1.setTop (mkF m 71 #[.val (.long q0), .second, .val (.int p1), .val (.long mm), .second, .val (.int (p1 &&& (3 : Int32))), .val (.int (own_most mm)), .unset, .unset] [(.long ((own_most mm).toInt64)), (.long (7 : Int64))])) (fun _ ks_ => XS.i2l X1.here hx rfl (hb hby at_70) rfl ks_) ?_
    refine go (u' := T1.setTop (mkF m 72 #[.val (.long q0), .second, .val (.int p1), .val (.long mm), .second, .val (.int (p1 &&& (3 : Int32))), .val (.int (own_most mm)), .unset, .unset] [(.long ((7 : Int64) * ((own_most mm).toInt64)))])) (fun _ ks_ => XS.lmul X1.here hx rfl (hb hby at_71) rfl ks_) ?_
    refine go (u' := T1.setTop (mkF m 74 #[.val (.long q0), .second, .val (.int p1), .val (.long mm), .second, .val (.int (p1 &&& (3 : Int32))), .val (.int (own_most mm)), .val (.long ((7 : Int64) * ((own_most mm).toInt64))), .second] [])) (fun _ ks_ => XS.lstore X1.here hx rfl (hb hby at_72) rfl  (l' := #[.val (.long q0), .second, .val (.int p1), .val (.long mm), .second, .val (.int (p1 &&& (3 : Int32))), .val (.int (own_most mm)), .val (.long ((7 : Int64) * ((own_most mm).toInt64))), .second]) rfl ks_) ?_
    refine go (u' := T1.setTop (mkF m 76 #[.val (.long q0), .second, .val (.int p1), .val (.long mm), .second, .val (.int (p1 &&& (3 : Int32))), .val (.int (own_most mm)), .val (.long ((7 : Int64) * ((own_most mm).toInt64))), .second] [(.int (own_most mm))])) (fun _ ks_ => XS.iload X1.here hx rfl (hb hby at_74) rfl  ks_) ?_
    refine go (u' := T1.setTop (mkF m 79 #[.val (.long q0), .second, .val (.int p1), .val (.long mm), .second, .val (.int (p1 &&& (3 : Int32))), .val (.int (own_most mm)), .val (.long ((7 : Int64) * ((own_most mm).toInt64))), .second] [])) (fun _ ks_ => XS.ifNo X1.here hx rfl (hb hby at_76) rfl ((if0 _ _).trans (flt (show ¬ ((own_most mm) < (0 : Int32)) from (own_r0 mm own_m0))).1) ks_) ?_
    refine go (u' := T1.setTop (mkF m 81 #[.val (.long q0), .second, .val (.int p1), .val (.long mm), .second, .val (.int (p1 &&& (3 : Int32))), .val (.int (own_most mm)), .val (.long ((7 : Int64) * ((own_most mm).toInt64))), .second] [(.long ((7 : Int64) * ((own_most mm).toInt64)))])) (fun _ ks_ => XS.lload X1.here hx rfl (hb hby at_79) rfl  ks_) ?_
    refine go (u' := T1.setTop (mkF m 82 #[.val (.long q0), .second, .val (.int p1), .val (.long mm), .second, .val (.int (p1 &&& (3 : Int32))), .val (.int (own_most mm)), .val (.long ((7 : Int64) * ((own_most mm).toInt64))), .second] [(.long mm), (.long ((7 : Int64) * ((own_most mm).toInt64)))])) (fun _ ks_ => XS.lloadN X1.here hx rfl (hb hby at_81) rfl  ks_) ?_
    refine go (u' := T1.setTop (mkF m 83 #[.val (.long q0), .second, .val (.int p1), .val (.long mm), .second, .val (.int (p1 &&& (3 : Int32))), .val (.int (own_most mm)), .val (.long ((7 : Int64) * ((own_most mm).toInt64))), .second] [(.int (lcmpW ((7 : Int64) * ((own_most mm).toInt64)) mm))])) (fun _ ks_ => XS.lcmp X1.here hx rfl (hb hby at_82) rfl ks_) ?_
    refine go (u' := T1.setTop (mkF m 86 #[.val (.long q0), .second, .val (.int p1), .val (.long mm), .second, .val (.int (p1 &&& (3 : Int32))), .val (.int (own_most mm)), .val (.long ((7 : Int64) * ((own_most mm).toInt64))), .second] [])) (fun _ ks_ => XS.ifNo X1.here hx rfl (hb hby at_83) rfl (lF (show ¬ (mm < ((7 : Int64) * ((own_most mm).toInt64))) from (own_r1 mm own_m0))).2.2.1 ks_) ?_
    refine go (u' := T1.setTop (mkF m 88 #[.val (.long q0), .second, .val (.int p1), .val (.long mm), .second, .val (.int (p1 &&& (3 : Int32))), .val (.int (own_most mm)), .val (.long ((7 : Int64) * ((own_most mm).toInt64))), .second] [(.int (own_most mm))])) (fun _ ks_ => XS.iload X1.here hx rfl (hb hby at_86) rfl  ks_) ?_
    refine go (u' := T1.setTop (mkF m 90 #[.val (.long q0), .second, .val (.int p1), .val (.long mm), .second, .val (.int (p1 &&& (3 : Int32))), .val (.int (own_most mm)), .val (.long ((7 : Int64) * ((own_most mm).toInt64))), .second] [(.int (2147483647 : Int32)), (.int (own_most mm))])) (X1.ldcInt hx hown (mvT hZ (ww hw 12 rfl)) (g := (mkF m 88 #[.val (.long q0), .second, .val (.int p1), .val (.long mm), .second, .val (.int (p1 &&& (3 : Int32))), .val (.int (own_most mm)), .val (.long ((7 : Int64) * ((own_most mm).toInt64))), .second] [(.int (own_most mm))])) rfl (hb hby at_88)) ?_
    by_cases cmax : (own_most mm) = (2147483647 : Int32)
    ·
      refine go (u' := T1.setTop (mkF m 104 #[.val (.long q0), .second, .val (.int p1), .val (.long mm), .second, .val (.int (p1 &&& (3 : Int32))), .val (.int (own_most mm)), .val (.long ((7 : Int64) * ((own_most mm).toInt64))), .second] [])) (fun _ ks_ => XS.icmpYes X1.here hx rfl (pc0 := 90) (pc' := 104) rfl (hb hby at_90) rfl (teq cmax).1 (by decide) (by decide) ks_) ?_
      refine go (u' := T1.setTop (mkF m 105 #[.val (.long q0), .second, .val (.int p1), .val (.long mm), .second, .val (.int (p1 &&& (3 : Int32))), .val (.int (own_most mm)), .val (.long ((7 : Int64) * ((own_most mm).toInt64))), .second] [(.int (1 : Int32))])) (fun _ ks_ => XS.iconst X1.here hx rfl (hb hby at_104) ks_) ?_
      refine go (u' := T1.setTop (mkF m 109 #[.val (.long q0), .second, .val (.int p1), .val (.long mm), .second, .val (.int (p1 &&& (3 : Int32))), .val (.int (own_most mm)), .val (.long ((7 : Int64) * ((own_most mm).toInt64))), .second] [(.int (1 : Int32))])) (fun _ ks_ => XS.goto X1.here hx rfl (pc0 := 105) (pc' := 109) rfl (hb hby at_105) (by decide) (by decide) ks_) ?_
      rw [hG]
      refine gN X1 hx hlk (t := .boolean) hret (by simp) rfl (hb hby at_109) ?_ (Nat.le_of_ble_eq_true rfl) (Nat.le_of_ble_eq_true rfl)
      show Q_rm0 Z q0 p1 h0 n0 (some (.int (1 : Int32))) T1.heap _
      rw [eq1]
      exact ⟨rfl, N1⟩
    ·
      refine go (u' := T1.setTop (mkF m 93 #[.val (.long q0), .second, .val (.int p1), .val (.long mm), .second, .val (.int (p1 &&& (3 : Int32))), .val (.int (own_most mm)), .val (.long ((7 : Int64) * ((own_most mm).toInt64))), .second] [])) (fun _ ks_ => XS.icmpNo X1.here hx rfl (hb hby at_90) rfl (feq cmax).1 ks_) ?_
      refine go (u' := T1.setTop (mkF m 95 #[.val (.long q0), .second, .val (.int p1), .val (.long mm), .second, .val (.int (p1 &&& (3 : Int32))), .val (.int (own_most mm)), .val (.long ((7 : Int64) * ((own_most mm).toInt64))), .second] [(.long ((7 : Int64) * ((own_most mm).toInt64)))])) (fun _ ks_ => XS.lload X1.here hx rfl (hb hby at_93) rfl  ks_) ?_
      refine go (u' := T1.setTop (mkF m 98 #[.val (.long q0), .second, .val (.int p1), .val (.long mm), .second, .val (.int (p1 &&& (3 : Int32))), .val (.int (own_most mm)), .val (.long ((7 : Int64) * ((own_most mm).toInt64))), .second] [(.long (7 : Int64)), (.long ((7 : Int64) * ((own_most mm).toInt64)))])) (X1.ldc2Long hx hown (mvT hZ (ww hw 11 rfl)) (g := (mkF m 95 #[.val (.long q0), .second, .val (.int p1), .val (.long mm), .second, .val (.int (p1 &&& (3 : Int32))), .val (.int (own_most mm)), .val (.long ((7 : Int64) * ((own_most mm).toInt64))), .second] [(.long ((7 : Int64) * ((own_most mm).toInt64)))])) rfl (hb hby at_95)) ?_
      refine go (u' := T1.setTop (mkF m 99 #[.val (.long q0), .second, .val (.int p1), .val (.long mm), .second, .val (.int (p1 &&& (3 : Int32))), .val (.int (own_most mm)), .val (.long ((7 : Int64) * ((own_most mm).toInt64))), .second] [(.long (((7 : Int64) * ((own_most mm).toInt64)) + (7 : Int64)))])) (fun _ ks_ => XS.ladd X1.here hx rfl (hb hby at_98) rfl ks_) ?_
      refine go (u' := T1.setTop (mkF m 100 #[.val (.long q0), .second, .val (.int p1), .val (.long mm), .second, .val (.int (p1 &&& (3 : Int32))), .val (.int (own_most mm)), .val (.long ((7 : Int64) * ((own_most mm).toInt64))), .second] [(.long mm), (.long (((7 : Int64) * ((own_most mm).toInt64)) + (7 : Int64)))])) (fun _ ks_ => XS.lloadN X1.here hx rfl (hb hby at_99) rfl  ks_) ?_
      refine go (u' := T1.setTop (mkF m 101 #[.val (.long q0), .second, .val (.int p1), .val (.long mm), .second, .val (.int (p1 &&& (3 : Int32))), .val (.int (own_most mm)), .val (.long ((7 : Int64) * ((own_most mm).toInt64))), .second] [(.int (lcmpW (((7 : Int64) * ((own_most mm).toInt64)) + (7 : Int64)) mm))])) (fun _ ks_ => XS.lcmp X1.here hx rfl (hb hby at_100) rfl ks_) ?_
      refine go (u' := T1.setTop (mkF m 104 #[.val (.long q0), .second, .val (.int p1), .val (.long mm), .second, .val (.int (p1 &&& (3 : Int32))), .val (.int (own_most mm)), .val (.long ((7 : Int64) * ((own_most mm).toInt64))), .second] [])) (fun _ ks_ => XS.ifNo X1.here hx rfl (hb hby at_101) rfl (lT (show mm < (((7 : Int64) * ((own_most mm).toInt64)) + (7 : Int64)) from (own_r2 mm own_m0 cmax))).2.2.2 ks_) ?_
      refine go (u' := T1.setTop (mkF m 105 #[.val (.long q0), .second, .val (.int p1), .val (.long mm), .second, .val (.int (p1 &&& (3 : Int32))), .val (.int (own_most mm)), .val (.long ((7 : Int64) * ((own_most mm).toInt64))), .second] [(.int (1 : Int32))])) (fun _ ks_ => XS.iconst X1.here hx rfl (hb hby at_104) ks_) ?_
      refine go (u' := T1.setTop (mkF m 109 #[.val (.long q0), .second, .val (.int p1), .val (.long mm), .second, .val (.int (p1 &&& (3 : Int32))), .val (.int (own_most mm)), .val (.long ((7 : Int64) * ((own_most mm).toInt64))), .second] [(.int (1 : Int32))])) (fun _ ks_ => XS.goto X1.here hx rfl (pc0 := 105) (pc' := 109) rfl (hb hby at_105) (by decide) (by decide) ks_) ?_
      rw [hG]
      refine gN X1 hx hlk (t := .boolean) hret (by simp) rfl (hb hby at_109) ?_ (Nat.le_of_ble_eq_true rfl) (Nat.le_of_ble_eq_true rfl)
      show Q_rm0 Z q0 p1 h0 n0 (some (.int (1 : Int32))) T1.heap _
      rw [eq1]
      exact ⟨rfl, N1⟩
  by_cases c7_2 : (p1 &&& (3 : Int32)) = (0 : Int32)
  ·
    refine go (u' := s₁.setTop (mkF m 10 #[.val (.long q0), .second, .val (.int p1), .unset, .unset, .val (.int (p1 &&& (3 : Int32))), .unset, .unset, .unset] [])) (fun _ ks_ => XS.ifNo X0.here hx rfl (hb hby at_7) rfl ((if0 _ _).trans (teq c7_2).2) ks_) ?_
    refine go (u' := s₁.setTop (mkF m 11 #[.val (.long q0), .second, .val (.int p1), .unset, .unset, .val (.int (p1 &&& (3 : Int32))), .unset, .unset, .unset] [(.long q0)])) (fun _ ks_ => XS.lloadN X0.here hx rfl (hb hby at_10) rfl  ks_) ?_
    refine go (u' := s₁.setTop (mkF m 14 #[.val (.long q0), .second, .val (.int p1), .unset, .unset, .val (.int (p1 &&& (3 : Int32))), .unset, .unset, .unset] [(.long (9223372036854775807 : Int64)), (.long q0)])) (X0.ldc2Long hx hown (mvT hZ (ww hw 13 rfl)) (g := (mkF m 11 #[.val (.long q0), .second, .val (.int p1), .unset, .unset, .val (.int (p1 &&& (3 : Int32))), .unset, .unset, .unset] [(.long q0)])) rfl (hb hby at_11)) ?_
    refine go (u' := s₁.setTop (mkF m 15 #[.val (.long q0), .second, .val (.int p1), .unset, .unset, .val (.int (p1 &&& (3 : Int32))), .unset, .unset, .unset] [(.long (q0 &&& (9223372036854775807 : Int64)))])) (fun _ ks_ => XS.land X0.here hx rfl (hb hby at_14) rfl ks_) ?_
    refine go (u' := s₁.setTop (mkF m 16 #[.val (.long q0), .second, .val (.int p1), .val (.long (q0 &&& (9223372036854775807 : Int64))), .second, .val (.int (p1 &&& (3 : Int32))), .unset, .unset, .unset] [])) (fun _ ks_ => XS.lstoreN X0.here hx rfl (hb hby at_15) rfl  (l' := #[.val (.long q0), .second, .val (.int p1), .val (.long (q0 &&& (9223372036854775807 : Int64))), .second, .val (.int (p1 &&& (3 : Int32))), .unset, .unset, .unset]) rfl ks_) ?_
    refine go (u' := s₁.setTop (mkF m 59 #[.val (.long q0), .second, .val (.int p1), .val (.long (q0 &&& (9223372036854775807 : Int64))), .second, .val (.int (p1 &&& (3 : Int32))), .unset, .unset, .unset] [])) (fun _ ks_ => XS.goto X0.here hx rfl (pc0 := 16) (pc' := 59) rfl (hb hby at_16) (by decide) (by decide) ks_) ?_
    exact J59_1 _ ((if_pos c7_2)).symm
  ·
    refine go (u' := s₁.setTop (mkF m 19 #[.val (.long q0), .second, .val (.int p1), .unset, .unset, .val (.int (p1 &&& (3 : Int32))), .unset, .unset, .unset] [])) (fun _ ks_ => XS.ifYes X0.here hx rfl (pc0 := 7) (pc' := 19) rfl (hb hby at_7) rfl ((if0 _ _).trans (feq c7_2).2) (by decide) (by decide) ks_) ?_
    refine go (u' := s₁.setTop (mkF m 21 #[.val (.long q0), .second, .val (.int p1), .unset, .unset, .val (.int (p1 &&& (3 : Int32))), .unset, .unset, .unset] [(.int (p1 &&& (3 : Int32)))])) (fun _ ks_ => XS.iload X0.here hx rfl (hb hby at_19) rfl  ks_) ?_
    refine go (u' := s₁.setTop (mkF m 22 #[.val (.long q0), .second, .val (.int p1), .unset, .unset, .val (.int (p1 &&& (3 : Int32))), .unset, .unset, .unset] [(.int (1 : Int32)), (.int (p1 &&& (3 : Int32)))])) (fun _ ks_ => XS.iconst X0.here hx rfl (hb hby at_21) ks_) ?_
    by_cases c22_3 : (p1 &&& (3 : Int32)) = (1 : Int32)
    ·
      refine go (u' := s₁.setTop (mkF m 25 #[.val (.long q0), .second, .val (.int p1), .unset, .unset, .val (.int (p1 &&& (3 : Int32))), .unset, .unset, .unset] [])) (fun _ ks_ => XS.icmpNo X0.here hx rfl (hb hby at_22) rfl (teq c22_3).2 ks_) ?_
      refine go (u' := s₁.setTop (mkF m 26 #[.val (.long q0), .second, .val (.int p1), .unset, .unset, .val (.int (p1 &&& (3 : Int32))), .unset, .unset, .unset] [(.long q0)])) (fun _ ks_ => XS.lloadN X0.here hx rfl (hb hby at_25) rfl  ks_) ?_
      refine go (u' := s₁.setTop (mkF m 29 #[.val (.long q0), .second, .val (.int p1), .unset, .unset, .val (.int (p1 &&& (3 : Int32))), .unset, .unset, .unset] [(.long (34359738367 : Int64)), (.long q0)])) (X0.ldc2Long hx hown (mvT hZ (ww hw 16 rfl)) (g := (mkF m 26 #[.val (.long q0), .second, .val (.int p1), .unset, .unset, .val (.int (p1 &&& (3 : Int32))), .unset, .unset, .unset] [(.long q0)])) rfl (hb hby at_26)) ?_
      refine go (u' := s₁.setTop (mkF m 30 #[.val (.long q0), .second, .val (.int p1), .unset, .unset, .val (.int (p1 &&& (3 : Int32))), .unset, .unset, .unset] [(.long (q0 &&& (34359738367 : Int64)))])) (fun _ ks_ => XS.land X0.here hx rfl (hb hby at_29) rfl ks_) ?_
      refine go (u' := s₁.setTop (mkF m 31 #[.val (.long q0), .second, .val (.int p1), .val (.long (q0 &&& (34359738367 : Int64))), .second, .val (.int (p1 &&& (3 : Int32))), .unset, .unset, .unset] [])) (fun _ ks_ => XS.lstoreN X0.here hx rfl (hb hby at_30) rfl  (l' := #[.val (.long q0), .second, .val (.int p1), .val (.long (q0 &&& (34359738367 : Int64))), .second, .val (.int (p1 &&& (3 : Int32))), .unset, .unset, .unset]) rfl ks_) ?_
      refine go (u' := s₁.setTop (mkF m 59 #[.val (.long q0), .second, .val (.int p1), .val (.long (q0 &&& (34359738367 : Int64))), .second, .val (.int (p1 &&& (3 : Int32))), .unset, .unset, .unset] [])) (fun _ ks_ => XS.goto X0.here hx rfl (pc0 := 31) (pc' := 59) rfl (hb hby at_31) (by decide) (by decide) ks_) ?_
      exact J59_1 _ (((if_neg c7_2).trans (if_pos c22_3))).symm
    ·
      refine go (u' := s₁.setTop (mkF m 34 #[.val (.long q0), .second, .val (.int p1), .unset, .unset, .val (.int (p1 &&& (3 : Int32))), .unset, .unset, .unset] [])) (fun _ ks_ => XS.icmpYes X0.here hx rfl (pc0 := 22) (pc' := 34) rfl (hb hby at_22) rfl (feq c22_3).2 (by decide) (by decide) ks_) ?_
      refine go (u' := s₁.setTop (mkF m 36 #[.val (.long q0), .second, .val (.int p1), .unset, .unset, .val (.int (p1 &&& (3 : Int32))), .unset, .unset, .unset] [(.int (p1 &&& (3 : Int32)))])) (fun _ ks_ => XS.iload X0.here hx rfl (hb hby at_34) rfl  ks_) ?_
      refine go (u' := s₁.setTop (mkF m 37 #[.val (.long q0), .second, .val (.int p1), .unset, .unset, .val (.int (p1 &&& (3 : Int32))), .unset, .unset, .unset] [(.int (2 : Int32)), (.int (p1 &&& (3 : Int32)))])) (fun _ ks_ => XS.iconst X0.here hx rfl (hb hby at_36) ks_) ?_
      by_cases c37_4 : (p1 &&& (3 : Int32)) = (2 : Int32)
      ·
        refine go (u' := s₁.setTop (mkF m 40 #[.val (.long q0), .second, .val (.int p1), .unset, .unset, .val (.int (p1 &&& (3 : Int32))), .unset, .unset, .unset] [])) (fun _ ks_ => XS.icmpNo X0.here hx rfl (hb hby at_37) rfl (teq c37_4).2 ks_) ?_
        refine go (u' := s₁.setTop (mkF m 41 #[.val (.long q0), .second, .val (.int p1), .unset, .unset, .val (.int (p1 &&& (3 : Int32))), .unset, .unset, .unset] [(.long q0)])) (fun _ ks_ => XS.lloadN X0.here hx rfl (hb hby at_40) rfl  ks_) ?_
        refine go (u' := s₁.setTop (mkF m 44 #[.val (.long q0), .second, .val (.int p1), .unset, .unset, .val (.int (p1 &&& (3 : Int32))), .unset, .unset, .unset] [(.long (255 : Int64)), (.long q0)])) (X0.ldc2Long hx hown (mvT hZ (ww hw 0 rfl)) (g := (mkF m 41 #[.val (.long q0), .second, .val (.int p1), .unset, .unset, .val (.int (p1 &&& (3 : Int32))), .unset, .unset, .unset] [(.long q0)])) rfl (hb hby at_41)) ?_
        refine go (u' := s₁.setTop (mkF m 45 #[.val (.long q0), .second, .val (.int p1), .unset, .unset, .val (.int (p1 &&& (3 : Int32))), .unset, .unset, .unset] [(.long (q0 &&& (255 : Int64)))])) (fun _ ks_ => XS.land X0.here hx rfl (hb hby at_44) rfl ks_) ?_
        refine go (u' := s₁.setTop (mkF m 46 #[.val (.long q0), .second, .val (.int p1), .val (.long (q0 &&& (255 : Int64))), .second, .val (.int (p1 &&& (3 : Int32))), .unset, .unset, .unset] [])) (fun _ ks_ => XS.lstoreN X0.here hx rfl (hb hby at_45) rfl  (l' := #[.val (.long q0), .second, .val (.int p1), .val (.long (q0 &&& (255 : Int64))), .second, .val (.int (p1 &&& (3 : Int32))), .unset, .unset, .unset]) rfl ks_) ?_
        refine go (u' := s₁.setTop (mkF m 59 #[.val (.long q0), .second, .val (.int p1), .val (.long (q0 &&& (255 : Int64))), .second, .val (.int (p1 &&& (3 : Int32))), .unset, .unset, .unset] [])) (fun _ ks_ => XS.goto X0.here hx rfl (pc0 := 46) (pc' := 59) rfl (hb hby at_46) (by decide) (by decide) ks_) ?_
        exact J59_1 _ ((((if_neg c7_2).trans (if_neg c22_3)).trans (if_pos c37_4))).symm
      ·
        refine go (u' := s₁.setTop (mkF m 49 #[.val (.long q0), .second, .val (.int p1), .unset, .unset, .val (.int (p1 &&& (3 : Int32))), .unset, .unset, .unset] [])) (fun _ ks_ => XS.icmpYes X0.here hx rfl (pc0 := 37) (pc' := 49) rfl (hb hby at_37) rfl (feq c37_4).2 (by decide) (by decide) ks_) ?_
        refine go (u' := s₁.setTop (mkF m 52 #[.val (.long q0), .second, .val (.int p1), .unset, .unset, .val (.int (p1 &&& (3 : Int32))), .unset, .unset, .unset] [(.long (15032385521 : Int64))])) (X0.ldc2Long hx hown (mvT hZ (ww hw 14 rfl)) (g := (mkF m 49 #[.val (.long q0), .second, .val (.int p1), .unset, .unset, .val (.int (p1 &&& (3 : Int32))), .unset, .unset, .unset] [])) rfl (hb hby at_49)) ?_
        refine go (u' := s₁.setTop (mkF m 53 #[.val (.long q0), .second, .val (.int p1), .unset, .unset, .val (.int (p1 &&& (3 : Int32))), .unset, .unset, .unset] [(.long q0), (.long (15032385521 : Int64))])) (fun _ ks_ => XS.lloadN X0.here hx rfl (hb hby at_52) rfl  ks_) ?_
        refine go (u' := s₁.setTop (mkF m 56 #[.val (.long q0), .second, .val (.int p1), .unset, .unset, .val (.int (p1 &&& (3 : Int32))), .unset, .unset, .unset] [(.long (15 : Int64)), (.long q0), (.long (15032385521 : Int64))])) (X0.ldc2Long hx hown (mvT hZ (ww hw 15 rfl)) (g := (mkF m 53 #[.val (.long q0), .second, .val (.int p1), .unset, .unset, .val (.int (p1 &&& (3 : Int32))), .unset, .unset, .unset] [(.long q0), (.long (15032385521 : Int64))])) rfl (hb hby at_53)) ?_
        refine go (u' := s₁.setTop (mkF m 57 #[.val (.long q0), .second, .val (.int p1), .unset, .unset, .val (.int (p1 &&& (3 : Int32))), .unset, .unset, .unset] [(.long (q0 &&& (15 : Int64))), (.long (15032385521 : Int64))])) (fun _ ks_ => XS.land X0.here hx rfl (hb hby at_56) rfl ks_) ?_
        refine go (u' := s₁.setTop (mkF m 58 #[.val (.long q0), .second, .val (.int p1), .unset, .unset, .val (.int (p1 &&& (3 : Int32))), .unset, .unset, .unset] [(.long ((15032385521 : Int64) + (q0 &&& (15 : Int64))))])) (fun _ ks_ => XS.ladd X0.here hx rfl (hb hby at_57) rfl ks_) ?_
        refine go (u' := s₁.setTop (mkF m 59 #[.val (.long q0), .second, .val (.int p1), .val (.long ((15032385521 : Int64) + (q0 &&& (15 : Int64)))), .second, .val (.int (p1 &&& (3 : Int32))), .unset, .unset, .unset] [])) (fun _ ks_ => XS.lstoreN X0.here hx rfl (hb hby at_58) rfl  (l' := #[.val (.long q0), .second, .val (.int p1), .val (.long ((15032385521 : Int64) + (q0 &&& (15 : Int64)))), .second, .val (.int (p1 &&& (3 : Int32))), .unset, .unset, .unset]) rfl ks_) ?_
        exact J59_1 _ ((((if_neg c7_2).trans (if_neg c22_3)).trans (if_neg c37_4))).symm
set_option maxRecDepth 65536 in
set_option maxHeartbeats 40000000 in
theorem comes_1 {Post : Tables → Env → Array Value → State → Outcome → State → Prop} (hpost : ∀ tb e args s v u, (limb_1_1.after args s (.returned v) u = true ∧ limb_1_2.after args s (.returned v) u = true ∧ True) → FrameEnd s (.returned v) u (Jvm.fieldLocs frame_1_writes args s ++ Jvm.arrayLocs frame_1_arrays args s ++ Jvm.staticLocs frame_1_statics s) 0 0 → Post tb e args s (.returned v) u) :
    ArmFor flags0 classFile x code maxLocals ret World_1 tables_1 room_1 Calls_1 rest_1 Pre_1 Post := by
  intro l hfl _ _ p e ha hc hk s m args below hf hA hF happ hP
  obtain ⟨hcalls, hrest, hpre⟩ := hP
  obtain ⟨-, -, -, hnamed, -, -, -, hat⟩ := (Spec.applies_iff hf).mp happ
  obtain ⟨hg, hn⟩ := and_e (Cond.before_iff.mp (show (Jvm.Cond.and given_1 narrow_1).before args s = true from hpre))
  obtain ⟨hcount, r0⟩ := and_e hg
  obtain ⟨a0, r1⟩ := and_e r0
  obtain ⟨w0, w1, rfl⟩ : ∃ w0 w1 : Value, args = #[w0, w1] := by
    have hs : args.size = 2 := by simpa [Cond.value, given_1] using hcount
    obtain ⟨L⟩ := args
    match L, hs with
    | [w0, w1], _ => exact ⟨w0, w1, rfl⟩
  have hw := fun d (hd : d ∈ tables_1) => atoms_spec (ws := Jvm.Cond.code x code maxLocals ret :: tables_1) hat d (List.mem_cons_of_mem _ hd)
  have hfit : Fit s := fun {y c} hc i hi => by
    obtain ⟨ha, rfl⟩ := Array.getElem?_eq_some_iff.mp hc
    have q := List.all_eq_true.mp ((Array.all_eq_true_iff_forall_mem.mp hF) _ (Array.getElem_mem ha)) i (List.mem_range.mpr hi)
    simpa [Array.getElem?_eq_getElem hi] using q
  obtain ⟨x0, e0⟩ := isL_v a0
  obtain rfl : w0 = (.long x0) := Option.some.inj e0
  obtain ⟨x1, e1⟩ := is_v r1
  obtain rfl : w1 = (.int x1) := Option.some.inj e1
  obtain ⟨n, o, h1, h2, h3, _, L, rfl, ⟨rfl, N⟩, hq⟩ := rm0 l s _ hw tables_1 x0 x1 s.heap s.heap.size (Nat.le_refl _)  p e ha hc hk s m _ below hf ((Spec.applies_iff_loose hf).mp happ).1 ⟨rfl, State.Warmed39.refl s, rfl⟩ trivial
  refine ⟨n, _, h1, h2, h3, hpost _ _ _ _ _ _ ⟨Cond.after_iff.mpr rfl, Cond.after_iff.mpr (eq_i res_at (Term.int_eval (1)) rfl), trivial⟩ ⟨hq.1, hq.2.1, (hq.2.2.sift fun y hy => Or.inr (N y hy)).mono (by decide) (by decide)⟩⟩
theorem main_1_1 : Claimed_1_1 := comes_1 fun _ _ _ _ _ _ h hF => ⟨h.1, hF⟩
theorem main_1_2 : Claimed_1_2 := comes_1 fun _ _ _ _ _ _ h hF => ⟨h.2.1, hF⟩
end Jvm.Pilot.@@N@@
namespace Jvm.Pilot.@@N@@
open Jvm Jvm.ClassFile Sem Op Lib Jvm.Free Jvm.Stand Jvm.Pilot.@@N@@.Jvm.D
/-! MADE BY PROGRAM (witnessworld.py) out of the Statement's table words and the real class files: 10 classes; the members and pool entries that the words name. The judged class is class 1, her method 1. -/
namespace start1
open Jvm.ClassFile
def u (s : String) : CpInfo := .utf8 (stringToUtf16 s)
/-- a pool by its gaps: so many unusable entries, then the entry; so many at the end -/
def gap : Nat → List CpInfo → List CpInfo
  | 0, r => r
  | n + 1, r => .unusable :: gap n r
def poolList (es : List (Nat × CpInfo)) (last : Nat) : List CpInfo := es.foldr (fun e r => gap e.1 (e.2 :: r)) (gap last [])
def pool (es : List (Nat × CpInfo)) (last : Nat) : Array CpInfo := ⟨poolList es last⟩
def fileOf (pool : Array CpInfo) (this : Nat) (attrs : Array Attribute := #[]) (ms : Array MethodInfo := #[]) (fl : Nat := 33) (sup : Nat := 0) (ifs : Array Nat := #[]) (fds : Array FieldInfo := #[]) : ClassFile where
  minorVersion := 0
  majorVersion := 65
  constantPool := pool
  accessFlags := fl
  thisClass := this
  superClass := sup
  interfaces := ifs
  fields := fds
  methods := ms
  attributes := attrs
def plain (name : String) (sup : Option ClassId) : Class where
  name := name
  kind := .ordinary
  loader := none
  accessFlags := 33
  super := sup
  interfaces := #[]
  cf := none
  fields := #[]
  methods := #[]
  instanceTypes := #[]
  staticTypes := #[]
  resolved := #[]
  callSites := []
  init := .initialized
  statics := none
  mirror := none

def pool0 : Array CpInfo := pool [(5, u "<init>"), (0, u "()V"), (1, .class_ 10), (1, u "java/lang/Object")] 113

def k0m0 : Method := { name := "<init>", desc := "()V", sig := { parameters := [], returnType := none }, accessFlags := 1, code := none }
/-- java/lang/Object -/
def k0 : Class := { plain "java/lang/Object" none with
  accessFlags := 33
  interfaces := #[]
  cf := some (fileOf pool0 8 #[] #[{ accessFlags := 1, nameIndex := 5, descriptorIndex := 6, attributes := #[] }] 33 0 #[] #[])
  fields := #[]
  methods := #[k0m0]
  instanceTypes := #[]
  staticTypes := #[]
  resolved := Array.replicate 124 none
  statics := none }

def pool1 : Array CpInfo := pool [(2, .class_ 4), (1, u "java/lang/Object"), (0, u "<init>"), (0, u "()V"), (2, .long 9223372036854775807), (1, .long 34359738367), (1, .long 255), (3, .long 15032385521), (1, .long 15), (1, .methodref 22 23), (0, .class_ 24), (0, .nameAndType 25 26), (0, u "com/example/bowerbird/bowerbird/parse/Syntax"), (0, u "mostBytes"), (0, u "(J)I"), (0, .long 7), (1, .integer 2147483647), (0, .class_ 31), (0, u "com/example/bowerbird/bowerbird/parse/SyntaxMostBytesPinLaw"), (2, u "law"), (0, u "(JI)Z")] 3

def k1m0 : Method := { name := "<init>", desc := "()V", sig := { parameters := [], returnType := none }, accessFlags := 2, code := none }
def k1c1 : Code := { maxStack := 6, maxLocals := 9, code := code, exceptionTable := #[], attributes := #[] }
def k1m1 : Method := { name := "law", desc := "(JI)Z", sig := { parameters := [.long, .int], returnType := some .boolean }, accessFlags := 9, code := some k1c1 }
/-- com/example/bowerbird/bowerbird/parse/SyntaxMostBytesPinLaw -/
def k1 : Class := { plain "com/example/bowerbird/bowerbird/parse/SyntaxMostBytesPinLaw" (some 0) with
  accessFlags := 49
  interfaces := #[]
  cf := some (fileOf pool1 30 #[] #[{ accessFlags := 2, nameIndex := 5, descriptorIndex := 6, attributes := #[] }, { accessFlags := 9, nameIndex := 34, descriptorIndex := 35, attributes := #[] }] 49 2 #[] #[])
  fields := #[]
  methods := #[k1m0, k1m1]
  instanceTypes := #[]
  staticTypes := #[]
  resolved := Array.replicate 39 none
  statics := none }

def pool2 : Array CpInfo := pool [(2, .class_ 4), (1, u "java/lang/Object"), (0, u "<init>"), (0, u "()V"), (5, .class_ 14), (1, u "com/example/bowerbird/bowerbird/parse/Syntax"), (6, .long 7), (24, u "CLOSINGS"), (0, u "Ljava/util/Map;"), (57, .long 2147483647), (1, .methodref 108 109), (0, .class_ 110), (0, .nameAndType 111 112), (0, u "java/lang/Math"), (0, u "min"), (0, u "(JJ)J"), (143, u "MAX_NESTING"), (0, u "I"), (4, u "TEXT_BYTE_MEMORY"), (1, u "TOKEN_MEMORY"), (1, u "HELD_TEXT_BYTE_MEMORY"), (1, u "HELD_STRING_CHARACTER_MEMORY"), (0, u "HELD_TOKEN_MEMORY"), (7, u "mostBytes"), (0, u "(J)I")] 46

def k2m0 : Method := { name := "<init>", desc := "()V", sig := { parameters := [], returnType := none }, accessFlags := 2, code := none }
def k2c1 : Code := { maxStack := 6, maxLocals := 2, code := prog_69_method_5_code, exceptionTable := #[], attributes := #[] }
def k2m1 : Method := { name := "mostBytes", desc := "(J)I", sig := { parameters := [.long], returnType := some .int }, accessFlags := 9, code := some k2c1 }
/-- com/example/bowerbird/bowerbird/parse/Syntax -/
def k2 : Class := { plain "com/example/bowerbird/bowerbird/parse/Syntax" (some 0) with
  accessFlags := 49
  interfaces := #[]
  cf := some (fileOf pool2 12 #[] #[{ accessFlags := 2, nameIndex := 5, descriptorIndex := 6, attributes := #[] }, { accessFlags := 9, nameIndex := 277, descriptorIndex := 278, attributes := #[] }] 49 2 #[] #[{ accessFlags := 24, nameIndex := 256, descriptorIndex := 257, attributes := #[] }, { accessFlags := 26, nameIndex := 46, descriptorIndex := 47, attributes := #[] }, { accessFlags := 26, nameIndex := 262, descriptorIndex := 257, attributes := #[] }, { accessFlags := 26, nameIndex := 264, descriptorIndex := 257, attributes := #[] }, { accessFlags := 26, nameIndex := 266, descriptorIndex := 257, attributes := #[] }, { accessFlags := 26, nameIndex := 268, descriptorIndex := 257, attributes := #[] }, { accessFlags := 26, nameIndex := 269, descriptorIndex := 257, attributes := #[] }])
  fields := #[{ name := "MAX_NESTING", type := .int, accessFlags := 24, slot := 0, constantValue := 0 }, { name := "CLOSINGS", type := (.object "java/util/Map"), accessFlags := 26, slot := 1, constantValue := 0 }, { name := "TEXT_BYTE_MEMORY", type := .int, accessFlags := 26, slot := 2, constantValue := 0 }, { name := "TOKEN_MEMORY", type := .int, accessFlags := 26, slot := 3, constantValue := 0 }, { name := "HELD_TEXT_BYTE_MEMORY", type := .int, accessFlags := 26, slot := 4, constantValue := 0 }, { name := "HELD_STRING_CHARACTER_MEMORY", type := .int, accessFlags := 26, slot := 5, constantValue := 0 }, { name := "HELD_TOKEN_MEMORY", type := .int, accessFlags := 26, slot := 6, constantValue := 0 }]
  methods := #[k2m0, k2m1]
  instanceTypes := #[]
  staticTypes := #[.int, (.object "java/util/Map"), .int, .int, .int, .int, .int]
  resolved := Array.replicate 325 none
  statics := none }

def pool3 : Array CpInfo := pool [(1, .class_ 2), (0, u "java/lang/Math"), (1, .class_ 6), (1, u "java/lang/Object"), (0, u "<init>"), (0, u "()V"), (89, .class_ 100), (1, u "java/lang/Math$RandomNumberGeneratorHolder"), (20, u "(JJ)J"), (50, u "negativeZeroFloatBits"), (0, u "J"), (2, u "negativeZeroDoubleBits"), (24, u "min"), (43, u "$assertionsDisabled"), (0, u "Z"), (91, u "twoToTheDoubleScaleDown"), (0, u "D"), (4, u "twoToTheDoubleScaleUp"), (9, u "E"), (3, u "PI"), (2, u "TAU"), (2, u "DEGREES_TO_RADIANS"), (0, u "RADIANS_TO_DEGREES")] 94

def k3m0 : Method := { name := "<init>", desc := "()V", sig := { parameters := [], returnType := none }, accessFlags := 2, code := none }
def k3c1 : Code := { maxStack := 4, maxLocals := 4, code := jdk_29_method_70_code, exceptionTable := #[], attributes := #[] }
def k3m1 : Method := { name := "min", desc := "(JJ)J", sig := { parameters := [.long, .long], returnType := some .long }, accessFlags := 9, code := some k3c1 }
/-- java/lang/Math -/
def k3 : Class := { plain "java/lang/Math" (some 0) with
  accessFlags := 49
  interfaces := #[]
  cf := some (fileOf pool3 1 #[.nestMembers #[98]] #[{ accessFlags := 2, nameIndex := 7, descriptorIndex := 8, attributes := #[] }, { accessFlags := 9, nameIndex := 201, descriptorIndex := 121, attributes := #[] }] 49 4 #[] #[{ accessFlags := 25, nameIndex := 354, descriptorIndex := 339, attributes := #[] }, { accessFlags := 25, nameIndex := 358, descriptorIndex := 339, attributes := #[] }, { accessFlags := 25, nameIndex := 361, descriptorIndex := 339, attributes := #[] }, { accessFlags := 26, nameIndex := 364, descriptorIndex := 339, attributes := #[] }, { accessFlags := 26, nameIndex := 365, descriptorIndex := 339, attributes := #[] }, { accessFlags := 26, nameIndex := 172, descriptorIndex := 173, attributes := #[] }, { accessFlags := 26, nameIndex := 176, descriptorIndex := 173, attributes := #[] }, { accessFlags := 8, nameIndex := 344, descriptorIndex := 339, attributes := #[] }, { accessFlags := 8, nameIndex := 338, descriptorIndex := 339, attributes := #[] }, { accessFlags := 4120, nameIndex := 245, descriptorIndex := 246, attributes := #[] }])
  fields := #[{ name := "E", type := .double, accessFlags := 25, slot := 0, constantValue := 0 }, { name := "PI", type := .double, accessFlags := 25, slot := 1, constantValue := 0 }, { name := "TAU", type := .double, accessFlags := 25, slot := 2, constantValue := 0 }, { name := "DEGREES_TO_RADIANS", type := .double, accessFlags := 26, slot := 3, constantValue := 0 }, { name := "RADIANS_TO_DEGREES", type := .double, accessFlags := 26, slot := 4, constantValue := 0 }, { name := "negativeZeroFloatBits", type := .long, accessFlags := 26, slot := 5, constantValue := 0 }, { name := "negativeZeroDoubleBits", type := .long, accessFlags := 26, slot := 6, constantValue := 0 }, { name := "twoToTheDoubleScaleUp", type := .double, accessFlags := 8, slot := 7, constantValue := 0 }, { name := "twoToTheDoubleScaleDown", type := .double, accessFlags := 8, slot := 8, constantValue := 0 }, { name := "$assertionsDisabled", type := .boolean, accessFlags := 4120, slot := 9, constantValue := 0 }]
  methods := #[k3m0, k3m1]
  instanceTypes := #[]
  staticTypes := #[.double, .double, .double, .double, .double, .long, .long, .double, .double, .boolean]
  resolved := Array.replicate 460 none
  statics := none }

def pool4 : Array CpInfo := pool [(1, u "java/lang/Cloneable"), (0, .class_ 1), (0, u "java/lang/Object"), (0, .class_ 3)] 3

/-- java/lang/Cloneable -/
def k4 : Class := { plain "java/lang/Cloneable" (some 0) with
  accessFlags := 1537
  interfaces := #[]
  cf := some (fileOf pool4 2 #[] #[] 1537 4 #[] #[])
  fields := #[]
  methods := #[]
  instanceTypes := #[]
  staticTypes := #[]
  resolved := Array.replicate 8 none
  statics := none }

def pool5 : Array CpInfo := pool [(1, u "java/io/Serializable"), (0, .class_ 1), (0, u "java/lang/Object"), (0, .class_ 3)] 3

/-- java/io/Serializable -/
def k5 : Class := { plain "java/io/Serializable" (some 0) with
  accessFlags := 1537
  interfaces := #[]
  cf := some (fileOf pool5 2 #[] #[] 1537 4 #[] #[])
  fields := #[]
  methods := #[]
  instanceTypes := #[]
  staticTypes := #[]
  resolved := Array.replicate 8 none
  statics := none }

/-- the primitive byte -/
def k6 : Class := { plain "byte" none with kind := .primitive 'B', accessFlags := 0x411 }
/-- [B -/
def k7 : Class := { plain "[B" (some 0) with kind := .array 6 .byte, interfaces := #[4, 5], accessFlags := 1041 }

/-- the primitive int -/
def k8 : Class := { plain "int" none with kind := .primitive 'I', accessFlags := 0x411 }
/-- [I -/
def k9 : Class := { plain "[I" (some 0) with kind := .array 8 .int, interfaces := #[4, 5], accessFlags := 1041 }

def heap : Heap := #[]
def classes : Array Class := #[k0, k1, k2, k3, k4, k5, k6, k7, k8, k9]
def interned : List (Array UInt16 × Addr) := []
def slotsUsed : Nat := 0
def theMethod : MethodId := ⟨1, 1⟩
def args0 : Array Value := #[.long 100, .int 1]
def aboutOver (below : List Frame) : State where
  vm := { classes := classes, interned := interned.toArray }
  heap := heap
  slotsUsed := slotsUsed
  threads := #[{ frames := .invoking theMethod args0 :: below }]
def below0 : List Frame := [.native { method := ⟨0, 0⟩, args := #[] }]
def about1 : State := aboutOver below0
def p0 : Program := .bare "" "" ""
def e0 : Env := launch0.env 0 0 0
theorem w_frames : about1.frames = Frame.invoking theMethod args0 :: below0 := rfl
set_option maxRecDepth 65536 in
theorem w_args : argsFit about1.vm theMethod args0 = true := by decide +kernel
set_option maxRecDepth 65536 in
theorem w_heap : heapFits about1 = true := by decide +kernel
set_option maxRecDepth 65536 in
theorem w_runnable : about1.curStatus? = some .runnable := by decide +kernel
set_option maxRecDepth 65536 in
theorem w_alone : about1.alone = true := by decide +kernel
set_option maxRecDepth 65536 in
theorem w_named : about1.methodNamed? x = some theMethod := by decide +kernel
set_option maxRecDepth 65536 in
theorem w_hears : about1.hears theMethod below0 = true := by decide +kernel
set_option maxRecDepth 65536 in
theorem w_ripe : about1.ripe theMethod args0 below0 = true := by decide +kernel
theorem w_running : about1.status = .running := rfl
set_option maxRecDepth 65536 in
theorem w_room : about1.hasRoom e0.platform room_1 = true :=
  launch0.hasRoom_least _ room_1 (by decide +kernel) (by decide +kernel) (by decide +kernel) (by decide +kernel) (by decide +kernel) (by decide +kernel)
theorem allAtoms_all (ts : List Jvm.Cond) (a : Array Jvm.Value) (st : Jvm.State) : (allAtoms ts).before a st = ts.all (fun c => c.before a st) := by
  induction ts with
  | nil => rfl
  | cons c t ih =>
    show (Jvm.Cond.and c (allAtoms t)).before a st = _
    rw [Jvm.Cond.before_and, ih, List.all_cons]
def words1 : List Jvm.Cond := Jvm.Cond.code x code maxLocals ret :: tables_1
/-- a 'code' word, met by the world's own term for the bytes: nothing is compared byte by byte -/
theorem code_word {y : MethodName} {bytes : ByteArray} {mx : Nat} {rt : Option FieldType} {a : Array Value} {s : State} {m : MethodId} {meth : Method} {c : Code} (h1 : s.methodNamed? y = some m) (h2 : s.vm.method? m = some meth) (h3 : meth.code = some c) (h4 : c.code = bytes)
    (h5 : (c.maxLocals == mx && c.exceptionTable.isEmpty && decide (c.maxStack ≤ mostOperands) && decide (meth.sig.returnType = rt) && !meth.locks && decide (parseMethodDescriptor y.desc = some meth.sig)) = true) : (Jvm.Cond.code y bytes mx rt).before a s = true := by
  simp only [Bool.and_eq_true, beq_iff_eq, Bool.not_eq_true', decide_eq_true_eq] at h5
  obtain ⟨⟨⟨⟨⟨g1, g2⟩, g3⟩, g4⟩, g5⟩, g6⟩ := h5
  simp [Cond.before, Cond.holds, Cond.value, h1, h2, h3, h4, g1, g2, g3, g4, g5, g6]
def isCode : Jvm.Cond → Bool
  | .code _ _ _ _ => true
  | _ => false
theorem all_split {L : List Jvm.Cond} {P : Jvm.Cond → Bool} (h1 : L.all (fun c => isCode c || P c) = true) (h2 : ∀ c ∈ L.filter isCode, P c = true) : L.all P = true := by
  refine List.all_eq_true.mpr fun c hc => ?_
  have h := List.all_eq_true.mp h1 c hc
  rcases Bool.eq_false_or_eq_true (isCode c) with hi | hi
  · exact h2 c (List.mem_filter.mpr ⟨hc, hi⟩)
  · simpa [hi] using h
set_option maxRecDepth 65536 in
theorem w_c0 : (Jvm.Cond.code x code maxLocals ret).before args0 about1 = true := code_word (m := ⟨1, 1⟩) (meth := k1m1) (c := k1c1) (by decide +kernel) rfl rfl rfl (by decide +kernel)
set_option maxRecDepth 65536 in
theorem w_c1 : (Jvm.Cond.code ({ cls := "com/example/bowerbird/bowerbird/parse/Syntax", name := "mostBytes", desc := "(J)I" } : Jvm.MethodName) prog_69_method_5_code (2 : Nat) (Option.some Jvm.ClassFile.FieldType.int)).before args0 about1 = true := code_word (m := ⟨2, 1⟩) (meth := k2m1) (c := k2c1) (by decide +kernel) rfl rfl rfl (by decide +kernel)
set_option maxRecDepth 65536 in
theorem w_c2 : (Jvm.Cond.code ({ cls := "java/lang/Math", name := "min", desc := "(JJ)J" } : Jvm.MethodName) jdk_29_method_70_code (4 : Nat) (Option.some Jvm.ClassFile.FieldType.long)).before args0 about1 = true := code_word (m := ⟨3, 1⟩) (meth := k3m1) (c := k3c1) (by decide +kernel) rfl rfl rfl (by decide +kernel)
def codes1 : List Jvm.Cond := [Jvm.Cond.code x code maxLocals ret, Jvm.Cond.code ({ cls := "com/example/bowerbird/bowerbird/parse/Syntax", name := "mostBytes", desc := "(J)I" } : Jvm.MethodName) prog_69_method_5_code (2 : Nat) (Option.some Jvm.ClassFile.FieldType.int), Jvm.Cond.code ({ cls := "java/lang/Math", name := "min", desc := "(JJ)J" } : Jvm.MethodName) jdk_29_method_70_code (4 : Nat) (Option.some Jvm.ClassFile.FieldType.long)]
set_option maxRecDepth 65536 in
theorem codes_eq : words1.filter isCode = codes1 := rfl
theorem w_codes : ∀ c ∈ words1.filter isCode, c.before args0 about1 = true := by
  rw [codes_eq]
  intro c hc
  simp only [codes1, List.mem_cons, List.not_mem_nil, or_false] at hc
  rcases hc with rfl | rfl | rfl
  · exact w_c0
  · exact w_c1
  · exact w_c2
set_option maxRecDepth 65536 in
theorem w_t1 : words1.all (fun c => isCode c || c.before args0 about1) = true := by decide +kernel
theorem w_tables : (allAtoms (Jvm.Cond.code x code maxLocals ret :: tables_1)).before args0 about1 = true := by
  rw [allAtoms_all]
  show words1.all (fun c => c.before args0 about1) = true
  refine all_split ?_ w_codes
  rw [w_t1]
set_option maxRecDepth 65536 in
theorem w_case : (Jvm.Cond.and given_1 narrow_1).before args0 about1 = true := by decide +kernel
theorem w_applies : (headSpec (Jvm.Cond.code x code maxLocals ret :: tables_1) room_1).applies x e0.platform about1 = true :=
  (Spec.applies_iff w_frames).mpr ⟨w_running, w_runnable, w_alone, w_named, w_hears, w_ripe, w_room, w_tables⟩
theorem atStart : AtStart classFile x code maxLocals ret World_1 tables_1 room_1 Calls_1 rest_1 Pre_1 launch0 p0 e0 about1 theMethod args0 below0 :=
  ⟨lists_1, trivial, launch0.admits_env _ _ _, launch0.least_env, fairChoices_fair.cas, fairChoices_fair.clock, w_frames, w_args, w_heap, w_applies, trivial, trivial, w_case⟩
end start1
theorem witness_1 : WitnessClaimed_1 := ⟨start1.p0, start1.e0, start1.about1, start1.theMethod, start1.args0, start1.below0, start1.atStart⟩
end Jvm.Pilot.@@N@@
