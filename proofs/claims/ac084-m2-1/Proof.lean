import JvmDerived
import JvmDerived.Pilot.@@N@@Statement
import JvmDerived.Pilot.@@N@@Code
set_option linter.unusedVariables false
set_option linter.unusedSimpArgs false
namespace Jvm.Pilot.@@N@@
open Jvm Jvm.ClassFile Sem Op Lib Jvm.Free Jvm.Stand Jvm.LawKit Jvm.RoadKit Bundle Jvm.Pilot.@@N@@.Jvm.D
section OwnKit
variable {p : Program} {l : Launch} {e : Env} {R : Room} {s : State} {m : MethodId} {args : Array Value} {below : List Frame} {meth : Method} {c : Code} {T : State} {locs : List Loc} {cells slots : Nat}
/-- from the state u the run comes to an end of the invocation at which G holds -/
def Go (tb : Tables) (e : Env) (below : List Frame) (G : Outcome → State → Prop) (u : State) : Prop := ∃ s₂ o, Steps tb e below u s₂ ∧ s₂.status = .running ∧ Ended s₂ below o ∧ G o s₂
def End (Q : Option Value → Heap → List Loc → Prop) (s : State) (C S : Nat) (o : Outcome) (u : State) : Prop := ∃ v L, o = .returned v ∧ Q v u.heap L ∧ FrameEnd s o u L C S
theorem go {tb : Tables} {G : Outcome → State → Prop} {u u' : State} (st : ∀ t, Steps tb e below u' t → Steps tb e below u t) (k : Go tb e below G u') : Go tb e below G u := by
  obtain ⟨s₂, o, h1, h2⟩ := k
  exact ⟨s₂, o, st _ h1, h2⟩
theorem goT {tb : Tables} {G : Outcome → State → Prop} {u u' : State} (st : Steps tb e below u u') (k : Go tb e below G u') : Go tb e below G u := go (fun _ h => st.trans h) k
theorem own_fin (X : Stand p l e R s m args below meth c T locs cells slots) (hlk : meth.locks = false) {v : Option Value} (hv : meth.sig.returnType = none → v = none) {Q : Option Value → Heap → List Loc → Prop} {C S : Nat} (hq : Q v T.heap locs) (hc : cells ≤ C) (hs : slots ≤ S) {u : State}
    (st : ∀ fs, (∀ (f : JFrame) (acts : List Action), f.method = m → f.locked = none → f.entered = [] → (doReturn e (T.setTop f) acts v).1 = T.setFrames fs) → Steps p.tables e below u (T.setFrames fs)) : Go p.tables e below (End Q s C S) u := by
  obtain ⟨fs, hr, hrun, hended, hW, hsame⟩ := X.leave (v := v) hv hlk
  exact ⟨_, _, st fs hr, hrun, hended, _, _, rfl, hq, ⟨_, rfl⟩, hW, hsame.mono hc hs⟩
theorem own_retI (X : Stand p l e R s m args below meth c T locs cells slots) (hx : p.tables.exec = Jvm.exec) {pc : Nat} {Ls : Array Slot} {z : Int32} {rest : List Value} (hret : meth.sig.returnType = some .int) (hd : decode c.code pc = .ok (.ireturn, 1)) {fs : List Frame}
    (hl : ∀ (f : JFrame) (acts : List Action), f.method = m → f.locked = none → f.entered = [] → (doReturn e (T.setTop f) acts (some (.int z))).1 = T.setFrames fs) : Steps p.tables e below (T.setTop (mkF m pc Ls (.int z :: rest))) (T.setFrames fs) := by
  have hm' : T.vm.method? m = some meth := X.method'
  have hn : narrow .int (.int z) = .int z := rfl
  show Steps p.tables e below (T.setTop { method := m, pc := pc, locals := Ls, stack := _ :: rest, locked := none }) _
  jvm_step X.here [X.here.top, hx, hd, hm', hret, hn]
  first | (intro acts; rw [hl _ acts rfl rfl rfl]) | rw [hl _ _ rfl rfl rfl]
  exact Steps.refl _
theorem own_retA (X : Stand p l e R s m args below meth c T locs cells slots) (hx : p.tables.exec = Jvm.exec) {pc : Nat} {Ls : Array Slot} {z : Value} {t : FieldType} {rest : List Value} (hret : meth.sig.returnType = some t) (ht : t.isReference = true) (hz : z.isRef = true) (hd : decode c.code pc = .ok (.areturn, 1)) {fs : List Frame}
    (hl : ∀ (f : JFrame) (acts : List Action), f.method = m → f.locked = none → f.entered = [] → (doReturn e (T.setTop f) acts (some z)).1 = T.setFrames fs) : Steps p.tables e below (T.setTop (mkF m pc Ls (z :: rest))) (T.setFrames fs) := by
  have hm' : T.vm.method? m = some meth := X.method'
  show Steps p.tables e below (T.setTop { method := m, pc := pc, locals := Ls, stack := _ :: rest, locked := none }) _
  jvm_step X.here [X.here.top, hx, hd, hm', hret, ht, hz]
  first | (intro acts; rw [hl _ acts rfl rfl rfl]) | rw [hl _ _ rfl rfl rfl]
  exact Steps.refl _
theorem gI (X : Stand p l e R s m args below meth c T locs cells slots) (hx : p.tables.exec = Jvm.exec) (hlk : meth.locks = false) {pc : Nat} {Ls : Array Slot} {z : Int32} {rest : List Value} (hret : meth.sig.returnType = some .int) (hd : decode c.code pc = .ok (.ireturn, 1)) {Q : Option Value → Heap → List Loc → Prop} {C S : Nat} (hq : Q (some (.int z)) T.heap locs) (hc : cells ≤ C) (hs : slots ≤ S) :
    Go p.tables e below (End Q s C S) (T.setTop (mkF m pc Ls (.int z :: rest))) := own_fin X hlk (fun h => by rw [hret] at h; cases h) hq hc hs fun fs hr => own_retI X hx hret hd hr
theorem gN (X : Stand p l e R s m args below meth c T locs cells slots) (hx : p.tables.exec = Jvm.exec) (hlk : meth.locks = false) {pc : Nat} {Ls : Array Slot} {z : Int32} {t : FieldType} {rest : List Value} (hret : meth.sig.returnType = some t) (ht : t = .boolean ∨ t = .byte ∨ t = .char ∨ t = .short) (hn : nar t z = z) (hd : decode c.code pc = .ok (.ireturn, 1)) {Q : Option Value → Heap → List Loc → Prop} {C S : Nat} (hq : Q (some (.int z)) T.heap locs) (hc : cells ≤ C) (hs : slots ≤ S) :
    Go p.tables e below (End Q s C S) (T.setTop (mkF m pc Ls (.int z :: rest))) := own_fin X hlk (fun h => by rw [hret] at h; cases h) hq hc hs fun fs hr => retN X hx hret ht hd (by rw [hn]; exact hr)
theorem gJ (X : Stand p l e R s m args below meth c T locs cells slots) (hx : p.tables.exec = Jvm.exec) (hlk : meth.locks = false) {pc : Nat} {Ls : Array Slot} {z : Int64} (hret : meth.sig.returnType = some .long) (hd : decode c.code pc = .ok (.lreturn, 1)) {Q : Option Value → Heap → List Loc → Prop} {C S : Nat} (hq : Q (some (.long z)) T.heap locs) (hc : cells ≤ C) (hs : slots ≤ S) :
    Go p.tables e below (End Q s C S) (T.setTop (mkF m pc Ls [.long z])) := own_fin X hlk (fun h => by rw [hret] at h; cases h) hq hc hs fun fs hr => X.lreturnOut hx hret hd hr
theorem g0 (X : Stand p l e R s m args below meth c T locs cells slots) (hx : p.tables.exec = Jvm.exec) (hlk : meth.locks = false) {pc : Nat} {Ls : Array Slot} (hret : meth.sig.returnType = none) (hd : decode c.code pc = .ok (.return_, 1)) {Q : Option Value → Heap → List Loc → Prop} {C S : Nat} (hq : Q none T.heap locs) (hc : cells ≤ C) (hs : slots ≤ S) :
    Go p.tables e below (End Q s C S) (T.setTop (mkF m pc Ls [])) := own_fin X hlk (fun _ => rfl) hq hc hs fun fs hr => X.returnOut hx hret hd hr
theorem gA (X : Stand p l e R s m args below meth c T locs cells slots) (hx : p.tables.exec = Jvm.exec) (hlk : meth.locks = false) {pc : Nat} {Ls : Array Slot} {z : Value} {t : FieldType} {rest : List Value} (hret : meth.sig.returnType = some t) (ht : t.isReference = true) (hz : z.isRef = true) (hd : decode c.code pc = .ok (.areturn, 1)) {Q : Option Value → Heap → List Loc → Prop} {C S : Nat} (hq : Q (some z) T.heap locs) (hc : cells ≤ C) (hs : slots ≤ S) :
    Go p.tables e below (End Q s C S) (T.setTop (mkF m pc Ls (z :: rest))) := own_fin X hlk (fun h => by rw [hret] at h; cases h) hq hc hs fun fs hr => own_retA X hx hret ht hz hd hr
end OwnKit
/-- a body's contract out of its walk -/
theorem body {l : Launch} {y : MethodName} {bytes : ByteArray} {maxL : Nat} {ret : Option FieldType} {ws : List Jvm.Cond} {rm : Room} {as' : Array Value} {Z : State} {h0 : Heap} {Q : Option Value → Heap → List Loc → Prop} (pn : plainFor y = true)
    (k : ∀ (p : Program) (e : Env) (s : State) (m : MethodId) (below : List Frame) (meth : Method) (c : Code) (s₁ : State), p.tables.exec = Jvm.exec → c.code = bytes → c.maxLocals = maxL → s.vm.findClass y.cls = some m.cls → meth.name = y.name → meth.sig.returnType = ret → meth.locks = false → Z.Warmed39 s.vm → s₁.heap = h0 →
      Stand p l e rm s m as' below meth c s₁ [] 0 0 → Go p.tables e below (End Q s rm.cells rm.slots) (s₁.setTop (entryFrame m as' maxL))) :
    MetFree l y (head1 (Jvm.Cond.code y bytes maxL ret :: ws) rm) (fun a U => a = as' ∧ Z.Warmed39 U.vm ∧ U.heap = h0) (fun _ _ _ _ _ => True) (fun _ U o U' => ∃ v L, o = .returned v ∧ Q v U'.heap L ∧ FrameEnd U o U' L rm.cells rm.slots) := by
  refine MetFree.of_bodySF pn hisR ?_
  intro p e s m args below meth c s₁ Bd hml hP _
  obtain ⟨rfl, hZ, hh⟩ := hP
  obtain ⟨s₂, o, h1, h2, h3, h4⟩ := k p e s m below meth c s₁ Bd.exec Bd.bytes hml (findClass_of_methodNamed Bd.named) (name_of_methodNamed Bd.named Bd.method).1 Bd.returns Bd.notSynchronized hZ (by rw [← hh, Bd.state]; rfl) (Stand.of_body Bd)
  exact ⟨s₂, o, h1, h2, h3, h4⟩
/-- a boolean as an int -/
def B (P : Prop) [Decidable P] : Int32 := if P then 1 else 0
theorem Bt {P : Prop} [Decidable P] (h : P) : B P = 1 := if_pos h
theorem Bf {P : Prop} [Decidable P] (h : ¬ P) : B P = 0 := if_neg h
theorem B1 {P : Prop} [Decidable P] (h : P) : (1 : Int32) = B P := (if_pos h).symm
theorem B0 {P : Prop} [Decidable P] (h : ¬ P) : (0 : Int32) = B P := (if_neg h).symm
theorem B_iff {P Q : Prop} [Decidable P] [Decidable Q] (h : P ↔ Q) : B P = B Q := by simp only [B, h]
theorem B_nar {P : Prop} [Decidable P] : nar .boolean (B P) = B P := by by_cases h : P <;> simp only [B, h, if_true, if_false] <;> rfl
theorem bT {P : Prop} [Decidable P] (h : P) : ifCond.holds .ne (B P) = true ∧ ifCond.holds .eq (B P) = false := by rw [Bt h]; exact ⟨rfl, rfl⟩
theorem bF {P : Prop} [Decidable P] (h : ¬ P) : ifCond.holds .ne (B P) = false ∧ ifCond.holds .eq (B P) = true := by rw [Bf h]; exact ⟨rfl, rfl⟩
theorem lT {x y : Int64} (h : x < y) : ifCond.holds .lt (lcmpW x y) = true ∧ ifCond.holds .ge (lcmpW x y) = false ∧ ifCond.holds .gt (lcmpW y x) = true ∧ ifCond.holds .le (lcmpW y x) = false := by
  have h1 := tlt ((lw_lt x y).mpr h)
  have h2 := tlt ((lw_gt y x).mpr h)
  simp only [if0]; exact ⟨h1.1, h1.2.1, h2.2.2.1, h2.2.2.2⟩
theorem lF {x y : Int64} (h : ¬ x < y) : ifCond.holds .lt (lcmpW x y) = false ∧ ifCond.holds .ge (lcmpW x y) = true ∧ ifCond.holds .gt (lcmpW y x) = false ∧ ifCond.holds .le (lcmpW y x) = true := by
  have h1 := flt (fun q => h ((lw_lt x y).mp q))
  have h2 := flt (fun q => h ((lw_gt y x).mp q))
  simp only [if0]; exact ⟨h1.1, h1.2.1, h2.2.2.1, h2.2.2.2⟩
theorem lTe {x y : Int64} (h : x = y) : ifCond.holds .eq (lcmpW x y) = true ∧ ifCond.holds .ne (lcmpW x y) = false := by
  simp only [if0]; exact teq ((lw_eq x y).mpr h)
theorem lFe {x y : Int64} (h : ¬ x = y) : ifCond.holds .eq (lcmpW x y) = false ∧ ifCond.holds .ne (lcmpW x y) = true := by
  simp only [if0]; exact feq (fun q => h ((lw_eq x y).mp q))
theorem bTv {P : Prop} [Decidable P] {v : Int32} (hv : v = B P) (h : P) : ifCond.holds .ne v = true ∧ ifCond.holds .eq v = false := hv ▸ bT h
theorem bFv {P : Prop} [Decidable P] {v : Int32} (hv : v = B P) (h : ¬ P) : ifCond.holds .ne v = false ∧ ifCond.holds .eq v = true := hv ▸ bF h
theorem B_narv {P : Prop} [Decidable P] {v : Int32} (hv : v = B P) : nar .boolean v = v := hv ▸ B_nar
theorem own_fitb {v : Int32} (h : nar .boolean v = v) : fits .boolean (.int v) = true := h ▸ fits_nar_bool v
theorem ww {a0 : Array Value} {Z : State} (hw : ∀ d ∈ tables_1, d.before a0 Z = true) (i : Nat) {d : Jvm.Cond} (h : tables_1[i]? = some d) : d.before a0 Z = true := hw d (List.mem_of_getElem? h)
def own_s (q1 : Int64) : Int64 := ((((q1.toUInt64 >>> ((32 : Int32) &&& 0x3f).toInt64.toUInt64).toInt64).toInt32.toUInt32 >>> ((2 : Int32) &&& 31).toUInt32).toInt32).toInt64
def own_ev (sp q1 : Int64) : Int64 := ((own_s q1 * (sp / (256 : Int64))) + ((own_s q1 * (sp - (sp / (256 : Int64)) * (256 : Int64))) / (256 : Int64)))
def own_34 (re : Int64) : Int64 := ((re.toUInt64 >>> ((34 : Int32) &&& 0x3f).toInt64.toUInt64).toInt64)
theorem own_sV (q : Int64) : (own_s q).toInt = (q.toInt % 18446744073709551616) / 17179869184 := by
  have h1 := c_lushr q 32 32 (by decide) (by decide)
  have h2 := c_iushr ((q.toUInt64 >>> ((32 : Int32) &&& 0x3f).toInt64.toUInt64).toInt64).toInt32 2 2 (by decide) (by decide)
  have h3 := c_l2i ((q.toUInt64 >>> ((32 : Int32) &&& 0x3f).toInt64.toUInt64).toInt64)
  simp only [own_s]
  rw [c_i2l, h2]
  omega
theorem own_34V (q : Int64) : (own_34 q).toInt = (q.toInt % 18446744073709551616) / 17179869184 := by
  have h1 := c_lushr q 34 34 (by decide) (by decide)
  simp only [own_34]
  rw [h1]
  omega
theorem own_mulV (x y : Int64) (h0 : 0 ≤ x.toInt * y.toInt) (h1 : x.toInt * y.toInt < 9223372036854775808) : (x * y).toInt = x.toInt * y.toInt := by
  have h2 := c_lmul x y
  have h3 := rng64 (x * y)
  omega
theorem own_main (sp re : Int64) (hs : 0 < sp.toInt) (hk : ((re.toInt % 18446744073709551616) / 17179869184) * sp.toInt < 9223372036854775808) : own_ev sp re = (own_34 re * sp) / (256 : Int64) := by
  apply Int64.toInt_inj.mp
  have a1 := own_sV re
  have a2 := own_34V re
  obtain ⟨k, hk0⟩ : ∃ k, k = (re.toInt % 18446744073709551616) / 17179869184 := ⟨_, rfl⟩
  rw [← hk0] at a1 a2 hk
  have k0 : 0 ≤ k := by omega
  have d1 := (c_ldiv sp 256 256 rfl (by decide)).1 (by omega)
  have d2 := (c_lrem sp 256 256 rfl).1 (by omega)
  have e0 : k * sp.toInt = 256 * (k * (sp.toInt / 256)) + k * (sp.toInt % 256) := by
    have q : sp.toInt = 256 * (sp.toInt / 256) + sp.toInt % 256 := by omega
    conv => lhs; rw [q]
    rw [Int.mul_add, Int.mul_left_comm]
  have n1 : 0 ≤ k * (sp.toInt / 256) := Int.mul_nonneg k0 (by omega)
  have n2 : 0 ≤ k * (sp.toInt % 256) := Int.mul_nonneg k0 (by omega)
  have n3 : 0 ≤ k * sp.toInt := Int.mul_nonneg k0 (by omega)
  have m1 := own_mulV (own_s re) (sp / (256 : Int64)) (by rw [a1, d1]; exact n1) (by rw [a1, d1]; omega)
  have m2 := own_mulV (own_s re) (sp - (sp / (256 : Int64)) * (256 : Int64)) (by rw [a1, d2]; exact n2) (by rw [a1, d2]; omega)
  have m3 := own_mulV (own_34 re) sp (by rw [a2]; exact n3) (by rw [a2]; exact hk)
  rw [a1, d1] at m1
  rw [a1, d2] at m2
  rw [a2] at m3
  have v1 := (c_ldiv (own_s re * (sp - (sp / (256 : Int64)) * (256 : Int64))) 256 256 rfl (by decide)).1 (by omega)
  have v2 := (c_ldiv (own_34 re * sp) 256 256 rfl (by decide)).1 (by omega)
  have v3 := c_ladd (own_s re * (sp / (256 : Int64))) ((own_s re * (sp - (sp / (256 : Int64)) * (256 : Int64))) / (256 : Int64))
  have v4 := rng64 (own_ev sp re)
  simp only [own_ev] at v4 ⊢
  rw [v2, m3]
  rw [v1, m1, m2] at v3
  omega
theorem own_law (q0 q1 : Int64) (p2 : Int32) (sp re : Int64) (h1 : sp = (if (¬ ((p2 &&& (1 : Int32)) = (0 : Int32))) then ((q1 &&& (8589934591 : Int64)) + (1 : Int64)) else ((q1 &&& (18014398509481983 : Int64)) + (1 : Int64)))) (h2 : re = (if (¬ ((p2 &&& (1 : Int32)) = (0 : Int32))) then q0 else (q0 &&& (8796093022207 : Int64)))) : own_ev sp re = (own_34 re * sp) / (256 : Int64) := by
  have b1 := c_maskL q1 8589934591 33 (by decide) (by decide)
  have b2 := c_maskL q1 18014398509481983 54 (by decide) (by decide)
  have b3 := c_maskL q0 8796093022207 43 (by decide) (by decide)
  have o1 : (1 : Int64).toInt = 1 := rfl
  have g1 := c_ladd (q1 &&& (8589934591 : Int64)) 1
  have g2 := c_ladd (q1 &&& (18014398509481983 : Int64)) 1
  rw [o1] at g1 g2
  have hr := rng64 sp
  by_cases c : (¬ ((p2 &&& (1 : Int32)) = (0 : Int32)))
  · rw [if_pos c] at h1 h2
    subst h1 h2
    have s1 : 0 < ((q1 &&& (8589934591 : Int64)) + (1 : Int64)).toInt ∧ ((q1 &&& (8589934591 : Int64)) + (1 : Int64)).toInt ≤ 8589934592 := by omega
    refine own_main _ _ s1.1 ?_
    have t1 : (re.toInt % 18446744073709551616) / 17179869184 ≤ 1073741823 := by omega
    have t0 : 0 ≤ (re.toInt % 18446744073709551616) / 17179869184 := by omega
    have t2 := Int.mul_le_mul t1 s1.2 (by omega) (by omega)
    omega
  · rw [if_neg c] at h1 h2
    subst h1 h2
    have s1 : 0 < ((q1 &&& (18014398509481983 : Int64)) + (1 : Int64)).toInt ∧ ((q1 &&& (18014398509481983 : Int64)) + (1 : Int64)).toInt ≤ 18014398509481984 := by omega
    refine own_main _ _ s1.1 ?_
    have t1 : ((q0 &&& (8796093022207 : Int64)).toInt % 18446744073709551616) / 17179869184 ≤ 511 := by omega
    have t0 : 0 ≤ ((q0 &&& (8796093022207 : Int64)).toInt % 18446744073709551616) / 17179869184 := by omega
    have t2 := Int.mul_le_mul t1 s1.2 (by omega) (by omega)
    omega
theorem pn_java_lang_Math_min_3 : plainFor (⟨"java/lang/Math", "min", "(JJ)J"⟩ : MethodName) = true := by first | exact plainFor_of_name (by first | (simp [plainName, overriddenIn]; done) | decide +kernel) | decide +kernel
def Q_rm3 (Z : State) (q0 : Int64) (q1 : Int64) (h0 : Heap) (n0 : Nat) (v : Option Value) (h : Heap) (L : List Loc) : Prop := v = some (.long (if q1 < q0 then q1 else q0)) ∧ Fr n0 L ∧ h = h0
theorem ef_rm3 (m : MethodId) (q0 : Int64) (q1 : Int64) : entryFrame m #[(.long q0), (.long q1)] 4 = mkF m 0 #[.val (.long q0), .second, .val (.long q1), .second] [] := by first | rfl | (simp [entryFrame, mkF, argsToLocals, Value.category, maxLocals]; done)
theorem d3_0 : decode jdk_29_method_70_code 0 = .ok (.lload_n 0, 1) := by decide +kernel
theorem d3_1 : decode jdk_29_method_70_code 1 = .ok (.lload_n 2, 1) := by decide +kernel
theorem d3_2 : decode jdk_29_method_70_code 2 = .ok (.lcmp, 1) := by decide +kernel
theorem d3_3 : decode jdk_29_method_70_code 3 = .ok (.ifCond .gt 7, 3) := by decide +kernel
theorem d3_6 : decode jdk_29_method_70_code 6 = .ok (.lload_n 0, 1) := by decide +kernel
theorem d3_7 : decode jdk_29_method_70_code 7 = .ok (.goto 4, 3) := by decide +kernel
theorem d3_10 : decode jdk_29_method_70_code 10 = .ok (.lload_n 2, 1) := by decide +kernel
theorem d3_11 : decode jdk_29_method_70_code 11 = .ok (.lreturn, 1) := by decide +kernel
set_option maxRecDepth 65536 in
set_option maxHeartbeats 40000000 in
theorem rm3 (l : Launch) (Z : State) (a0 : Array Value) (hw : ∀ d ∈ tables_1, d.before a0 Z = true) (ws : List Jvm.Cond) (q0 : Int64) (q1 : Int64) (h0 : Heap) (n0 : Nat) (Z0 : n0 ≤ h0.size)  :
    MetFree l (⟨"java/lang/Math", "min", "(JJ)J"⟩ : MethodName) (head1 (Jvm.Cond.code (⟨"java/lang/Math", "min", "(JJ)J"⟩ : MethodName) jdk_29_method_70_code 4 (some .long) :: ws) ({ frames := 0, cells := 0, slots := 0, locals := 0 } : Room)) (fun a U => a = #[(.long q0), (.long q1)] ∧ Z.Warmed39 U.vm ∧ U.heap = h0) (fun _ _ _ _ _ => True) (fun _ U o U' => ∃ v L, o = .returned v ∧ Q_rm3 Z q0 q1 h0 n0 v U'.heap L ∧ FrameEnd U o U' L ({ frames := 0, cells := 0, slots := 0, locals := 0 } : Room).cells ({ frames := 0, cells := 0, slots := 0, locals := 0 } : Room).slots) := by
  refine body pn_java_lang_Math_min_3 ?_
  intro p e s m below meth c s₁ hx hby hml hown hnm hret hlk hZ e0 X0
  replace hml : c.maxLocals = 4 := hml
  replace hown : s.vm.findClass "java/lang/Math" = some m.cls := hown
  replace hnm : meth.name = "min" := hnm
  replace hret : meth.sig.returnType = (some .long) := hret
  have N0 := Fr.nil n0
  rw [ef_rm3]
  obtain ⟨G, hG⟩ : ∃ G, G = End (Q_rm3 Z q0 q1 h0 n0) s ({ frames := 0, cells := 0, slots := 0, locals := 0 } : Room).cells ({ frames := 0, cells := 0, slots := 0, locals := 0 } : Room).slots := ⟨_, rfl⟩
  rw [← hG]
  refine go (u' := s₁.setTop (mkF m 1 #[.val (.long q0), .second, .val (.long q1), .second] [(.long q0)])) (fun _ ks_ => XS.lloadN X0.here hx rfl (hb hby d3_0) rfl  ks_) ?_
  refine go (u' := s₁.setTop (mkF m 2 #[.val (.long q0), .second, .val (.long q1), .second] [(.long q1), (.long q0)])) (fun _ ks_ => XS.lloadN X0.here hx rfl (hb hby d3_1) rfl  ks_) ?_
  refine go (u' := s₁.setTop (mkF m 3 #[.val (.long q0), .second, .val (.long q1), .second] [(.int (lcmpW q0 q1))])) (fun _ ks_ => XS.lcmp X0.here hx rfl (hb hby d3_2) rfl ks_) ?_
  by_cases c3_1 : q1 < q0
  ·
    refine go (u' := s₁.setTop (mkF m 10 #[.val (.long q0), .second, .val (.long q1), .second] [])) (fun _ ks_ => XS.ifYes X0.here hx rfl (pc0 := 3) (pc' := 10) rfl (hb hby d3_3) rfl (lT c3_1).2.2.1 (by decide) (by decide) ks_) ?_
    refine go (u' := s₁.setTop (mkF m 11 #[.val (.long q0), .second, .val (.long q1), .second] [(.long q1)])) (fun _ ks_ => XS.lloadN X0.here hx rfl (hb hby d3_10) rfl  ks_) ?_
    rw [hG]
    refine gJ X0 hx hlk hret (hb hby d3_11) ?_ (Nat.le_of_ble_eq_true rfl) (Nat.le_of_ble_eq_true rfl)
    show Q_rm3 Z q0 q1 h0 n0 (some (.long q1)) s₁.heap _
    rw [e0]
    exact ⟨congrArg (fun z => some (Value.long z)) ((if_pos c3_1)).symm, N0, rfl⟩
  ·
    refine go (u' := s₁.setTop (mkF m 6 #[.val (.long q0), .second, .val (.long q1), .second] [])) (fun _ ks_ => XS.ifNo X0.here hx rfl (hb hby d3_3) rfl (lF c3_1).2.2.1 ks_) ?_
    refine go (u' := s₁.setTop (mkF m 7 #[.val (.long q0), .second, .val (.long q1), .second] [(.long q0)])) (fun _ ks_ => XS.lloadN X0.here hx rfl (hb hby d3_6) rfl  ks_) ?_
    refine go (u' := s₁.setTop (mkF m 11 #[.val (.long q0), .second, .val (.long q1), .second] [(.long q0)])) (fun _ ks_ => XS.goto X0.here hx rfl (pc0 := 7) (pc' := 11) rfl (hb hby d3_7) (by decide) (by decide) ks_) ?_
    rw [hG]
    refine gJ X0 hx hlk hret (hb hby d3_11) ?_ (Nat.le_of_ble_eq_true rfl) (Nat.le_of_ble_eq_true rfl)
    show Q_rm3 Z q0 q1 h0 n0 (some (.long q0)) s₁.heap _
    rw [e0]
    exact ⟨congrArg (fun z => some (Value.long z)) ((if_neg c3_1)).symm, N0, rfl⟩
theorem pd__40_JJ_41_J : parseMethodDescriptor "(JJ)J" = some ⟨[.long, .long], some .long⟩ := by decide +kernel
theorem pn_com_example_emberlot_emberlot_EvictedKeys__init__1 : plainFor (⟨"com/example/emberlot/emberlot/EvictedKeys", "<init>", "(J)V"⟩ : MethodName) = true := by first | exact plainFor_of_name (by first | (simp [plainName, overriddenIn]; done) | decide +kernel) | decide +kernel
def Q_rm1 (Z : State) (o0 : Addr) (q1 : Int64) (h0 : Heap) (n0 : Nat) (v : Option Value) (h : Heap) (L : List Loc) : Prop := v = none ∧ Fr n0 L ∧ Keep h0 h [o0] ∧ (Exa Z h o0 "com/example/emberlot/emberlot/EvictedKeys") ∧ (Fld Z h o0 "com/example/emberlot/emberlot/EvictedKeys" "span" "J" (.long q1)) ∧ (Fld Z h o0 "com/example/emberlot/emberlot/EvictedKeys" "buckets" "I" (.int ((if (268435454 : Int64) < (((q1 + (4 : Int64)) - (1 : Int64)) / (4 : Int64)) then (268435454 : Int64) else (((q1 + (4 : Int64)) - (1 : Int64)) / (4 : Int64))).toInt32)))
theorem ef_rm1 (m : MethodId) (o0 : Addr) (q1 : Int64) : entryFrame m #[(.ref o0), (.long q1)] 3 = mkF m 0 #[.val (.ref o0), .val (.long q1), .second] [] := by first | rfl | (simp [entryFrame, mkF, argsToLocals, Value.category, maxLocals]; done)
theorem d1_0 : decode prog_15_method_1_code 0 = .ok (.aload_n 0, 1) := by decide +kernel
theorem d1_1 : decode prog_15_method_1_code 1 = .ok (.invokespecial 5, 3) := by decide +kernel
theorem d1_4 : decode prog_15_method_1_code 4 = .ok (.aload_n 0, 1) := by decide +kernel
theorem d1_5 : decode prog_15_method_1_code 5 = .ok (.lload_n 1, 1) := by decide +kernel
theorem d1_6 : decode prog_15_method_1_code 6 = .ok (.putfield 11, 3) := by decide +kernel
theorem d1_9 : decode prog_15_method_1_code 9 = .ok (.aload_n 0, 1) := by decide +kernel
theorem d1_10 : decode prog_15_method_1_code 10 = .ok (.lload_n 1, 1) := by decide +kernel
theorem d1_11 : decode prog_15_method_1_code 11 = .ok (.ldc2_w 15, 3) := by decide +kernel
theorem d1_14 : decode prog_15_method_1_code 14 = .ok (.ladd, 1) := by decide +kernel
theorem d1_15 : decode prog_15_method_1_code 15 = .ok (.lconst 1, 1) := by decide +kernel
theorem d1_16 : decode prog_15_method_1_code 16 = .ok (.lsub, 1) := by decide +kernel
theorem d1_17 : decode prog_15_method_1_code 17 = .ok (.ldc2_w 15, 3) := by decide +kernel
theorem d1_20 : decode prog_15_method_1_code 20 = .ok (.ldiv, 1) := by decide +kernel
theorem d1_21 : decode prog_15_method_1_code 21 = .ok (.ldc2_w 17, 3) := by decide +kernel
theorem d1_24 : decode prog_15_method_1_code 24 = .ok (.invokestatic 19, 3) := by decide +kernel
theorem d1_27 : decode prog_15_method_1_code 27 = .ok (.l2i, 1) := by decide +kernel
theorem d1_28 : decode prog_15_method_1_code 28 = .ok (.putfield 25, 3) := by decide +kernel
theorem d1_31 : decode prog_15_method_1_code 31 = .ok (.return_, 1) := by decide +kernel
set_option maxRecDepth 65536 in
set_option maxHeartbeats 40000000 in
theorem rm1 (l : Launch) (Z : State) (a0 : Array Value) (hw : ∀ d ∈ tables_1, d.before a0 Z = true) (ws : List Jvm.Cond) (o0 : Addr) (q1 : Int64) (h0 : Heap) (n0 : Nat) (Z0 : n0 ≤ h0.size) (g_o0 : n0 ≤ o0) (F0 : Exa Z h0 o0 "com/example/emberlot/emberlot/EvictedKeys") (F1 : Fld Z h0 o0 "com/example/emberlot/emberlot/EvictedKeys" "span" "J" (.long (0 : Int64))) (F2 : Fld Z h0 o0 "com/example/emberlot/emberlot/EvictedKeys" "buckets" "I" (.int (0 : Int32))) :
    MetFree l (⟨"com/example/emberlot/emberlot/EvictedKeys", "<init>", "(J)V"⟩ : MethodName) (head1 (Jvm.Cond.code (⟨"com/example/emberlot/emberlot/EvictedKeys", "<init>", "(J)V"⟩ : MethodName) prog_15_method_1_code 3 none :: ws) ({ frames := 1, cells := 0, slots := 0, locals := 16 } : Room)) (fun a U => a = #[(.ref o0), (.long q1)] ∧ Z.Warmed39 U.vm ∧ U.heap = h0) (fun _ _ _ _ _ => True) (fun _ U o U' => ∃ v L, o = .returned v ∧ Q_rm1 Z o0 q1 h0 n0 v U'.heap L ∧ FrameEnd U o U' L ({ frames := 1, cells := 0, slots := 0, locals := 16 } : Room).cells ({ frames := 1, cells := 0, slots := 0, locals := 16 } : Room).slots) := by
  refine body pn_com_example_emberlot_emberlot_EvictedKeys__init__1 ?_
  intro p e s m below meth c s₁ hx hby hml hown hnm hret hlk hZ e0 X0
  replace hml : c.maxLocals = 3 := hml
  replace hown : s.vm.findClass "com/example/emberlot/emberlot/EvictedKeys" = some m.cls := hown
  replace hnm : meth.name = "<init>" := hnm
  replace hret : meth.sig.returnType = none := hret
  have N0 := Fr.nil n0
  rw [ef_rm1]
  obtain ⟨G, hG⟩ : ∃ G, G = End (Q_rm1 Z o0 q1 h0 n0) s ({ frames := 1, cells := 0, slots := 0, locals := 16 } : Room).cells ({ frames := 1, cells := 0, slots := 0, locals := 16 } : Room).slots := ⟨_, rfl⟩
  rw [← hG]
  refine go (u' := s₁.setTop (mkF m 1 #[.val (.ref o0), .val (.long q1), .second] [(.ref o0)])) (fun _ ks_ => XS.aloadN X0.here hx rfl (hb hby d1_0) rfl rfl ks_) ?_
  obtain ⟨T1, X1, e1, st1⟩ := initO X0 hx hZ hown (ww hw 9 rfl) (ww hw 10 rfl) (ww hw 11 rfl) e0 (g := (mkF m 1 #[.val (.ref o0), .val (.long q1), .second] [(.ref o0)])) rfl (by rw [hml]; rfl) rfl (hb hby d1_1) (by decide) (W := 0) (by show 2 * 0 + _ ≤ _; exact Nat.le_of_eq rfl) (by decide)
  refine go (u' := T1.setTop (mkF m 4 #[.val (.ref o0), .val (.long q1), .second] [])) st1 ?_
  refine go (u' := T1.setTop (mkF m 5 #[.val (.ref o0), .val (.long q1), .second] [(.ref o0)])) (fun _ ks_ => XS.aloadN X1.here hx rfl (hb hby d1_4) rfl rfl ks_) ?_
  refine go (u' := T1.setTop (mkF m 6 #[.val (.ref o0), .val (.long q1), .second] [(.long q1), (.ref o0)])) (fun _ ks_ => XS.lloadN X1.here hx rfl (hb hby d1_5) rfl  ks_) ?_
  obtain ⟨T2, h2, X2, e2, W2, st2⟩ := putF X1 hx hZ hown (host := "") (Or.inl (ww hw 12 rfl)) Via.refl e1 F1 F0 (Or.inr ⟨(ww hw 13 rfl), rfl, hnm⟩) (ww hw 4 rfl) (ty := .long) (by decide) rfl rfl (g := (mkF m 6 #[.val (.ref o0), .val (.long q1), .second] [(.long q1), (.ref o0)])) rfl rfl (hb hby d1_6)
  have N2 := Fr.snoc X2 N0 g_o0
  have K2 : Keep h0 h2 [o0] := (Keep.refl h0 [o0]).wr W2 (Or.inl (List.mem_of_getElem? (i := 0) rfl))
  have Z2 : n0 ≤ h2.size := Nat.le_trans Z0 (Keep.of_wr W2).1
  have F3 : Exa Z h2 o0 "com/example/emberlot/emberlot/EvictedKeys" := F0.wr W2
  have F4 : Fld Z h2 o0 "com/example/emberlot/emberlot/EvictedKeys" "buckets" "I" (.int (0 : Int32)) := F2.other W2 (Or.inr (slot_ne (Or.inr (ww hw 21 rfl)) (Or.inr (ww hw 13 rfl)) (by decide) (t := .int) (t' := .long) (by decide) (by decide)))
  have F5 : Fld Z h2 o0 "com/example/emberlot/emberlot/EvictedKeys" "span" "J" (.long q1) := F1.same W2
  refine go (u' := T2.setTop (mkF m 9 #[.val (.ref o0), .val (.long q1), .second] [])) st2 ?_
  refine go (u' := T2.setTop (mkF m 10 #[.val (.ref o0), .val (.long q1), .second] [(.ref o0)])) (fun _ ks_ => XS.aloadN X2.here hx rfl (hb hby d1_9) rfl rfl ks_) ?_
  refine go (u' := T2.setTop (mkF m 11 #[.val (.ref o0), .val (.long q1), .second] [(.long q1), (.ref o0)])) (fun _ ks_ => XS.lloadN X2.here hx rfl (hb hby d1_10) rfl  ks_) ?_
  refine go (u' := T2.setTop (mkF m 14 #[.val (.ref o0), .val (.long q1), .second] [(.long (4 : Int64)), (.long q1), (.ref o0)])) (X2.ldc2Long hx hown (mvT hZ (ww hw 14 rfl)) (g := (mkF m 11 #[.val (.ref o0), .val (.long q1), .second] [(.long q1), (.ref o0)])) rfl (hb hby d1_11)) ?_
  refine go (u' := T2.setTop (mkF m 15 #[.val (.ref o0), .val (.long q1), .second] [(.long (q1 + (4 : Int64))), (.ref o0)])) (fun _ ks_ => XS.ladd X2.here hx rfl (hb hby d1_14) rfl ks_) ?_
  refine go (u' := T2.setTop (mkF m 16 #[.val (.ref o0), .val (.long q1), .second] [(.long (1 : Int64)), (.long (q1 + (4 : Int64))), (.ref o0)])) (fun _ ks_ => XS.lconst X2.here hx rfl (hb hby d1_15) ks_) ?_
  refine go (u' := T2.setTop (mkF m 17 #[.val (.ref o0), .val (.long q1), .second] [(.long ((q1 + (4 : Int64)) - (1 : Int64))), (.ref o0)])) (fun _ ks_ => XS.lsub X2.here hx rfl (hb hby d1_16) rfl ks_) ?_
  refine go (u' := T2.setTop (mkF m 20 #[.val (.ref o0), .val (.long q1), .second] [(.long (4 : Int64)), (.long ((q1 + (4 : Int64)) - (1 : Int64))), (.ref o0)])) (X2.ldc2Long hx hown (mvT hZ (ww hw 14 rfl)) (g := (mkF m 17 #[.val (.ref o0), .val (.long q1), .second] [(.long ((q1 + (4 : Int64)) - (1 : Int64))), (.ref o0)])) rfl (hb hby d1_17)) ?_
  refine go (u' := T2.setTop (mkF m 21 #[.val (.ref o0), .val (.long q1), .second] [(.long (((q1 + (4 : Int64)) - (1 : Int64)) / (4 : Int64))), (.ref o0)])) (fun _ ks_ => XS.ldiv X2.here hx rfl (hb hby d1_20) rfl (by decide) ks_) ?_
  refine go (u' := T2.setTop (mkF m 24 #[.val (.ref o0), .val (.long q1), .second] [(.long (268435454 : Int64)), (.long (((q1 + (4 : Int64)) - (1 : Int64)) / (4 : Int64))), (.ref o0)])) (X2.ldc2Long hx hown (mvT hZ (ww hw 15 rfl)) (g := (mkF m 21 #[.val (.ref o0), .val (.long q1), .second] [(.long (((q1 + (4 : Int64)) - (1 : Int64)) / (4 : Int64))), (.ref o0)])) rfl (hb hby d1_21)) ?_
  obtain ⟨_, _, ⟨T6, L6, k6, n6⟩, -, X6, ⟨Lc6, hQ6, l6, y6, z6⟩, st6⟩ := Jvm.LawKit.callS X2 hx (y := (⟨"java/lang/Math", "min", "(JJ)J"⟩ : MethodName)) hown (mvT hZ (ww hw 16 rfl)) (mvT hZ (ww hw 17 rfl)) (mvT hZ (ww hw 18 rfl)) (mvT hZ (ww hw 19 rfl)) (by decide) (backOf (W := 1) (rm3 l Z a0 hw [] (((q1 + (4 : Int64)) - (1 : Int64)) / (4 : Int64)) (268435454 : Int64) h2 n0 Z2) hZ (ww hw 19 rfl) (ww hw 18 rfl) (by decide) (by decide)) (g := (mkF m 24 #[.val (.ref o0), .val (.long q1), .second] [(.long (268435454 : Int64)), (.long (((q1 + (4 : Int64)) - (1 : Int64)) / (4 : Int64))), (.ref o0)])) rfl (by rw [hml]; rfl) (argsL := [(.long (((q1 + (4 : Int64)) - (1 : Int64)) / (4 : Int64))), (.long (268435454 : Int64))]) (rest := [(.ref o0)]) (lenOf pd__40_JJ_41_J rfl) rfl (by show 2 * 0 + _ ≤ _; exact Nat.le_of_eq rfl) (hb hby d1_24) (fun _ _ => ⟨rfl, e2, (by decide : 0 + 0 ≤ _), (by decide : 0 + 0 ≤ _)⟩)
  dsimp only [Pt.U, Pt.locs, Pt.cells, Pt.slots] at X6 l6 y6 z6 st6 hQ6
  subst l6 y6 z6
  obtain ⟨rfl, N6q, eq6⟩ := hQ6
  have N6 := Fr.app N2 N6q
  refine go (u' := T6.setTop (mkF m 27 #[.val (.ref o0), .val (.long q1), .second] [(.long (if (268435454 : Int64) < (((q1 + (4 : Int64)) - (1 : Int64)) / (4 : Int64)) then (268435454 : Int64) else (((q1 + (4 : Int64)) - (1 : Int64)) / (4 : Int64)))), (.ref o0)])) st6 ?_
  refine go (u' := T6.setTop (mkF m 28 #[.val (.ref o0), .val (.long q1), .second] [(.int ((if (268435454 : Int64) < (((q1 + (4 : Int64)) - (1 : Int64)) / (4 : Int64)) then (268435454 : Int64) else (((q1 + (4 : Int64)) - (1 : Int64)) / (4 : Int64))).toInt32)), (.ref o0)])) (fun _ ks_ => XS.l2i X6.here hx rfl (hb hby d1_27) rfl ks_) ?_
  obtain ⟨T7, h7, X7, e7, W7, st7⟩ := putF X6 hx hZ hown (host := "") (Or.inl (ww hw 20 rfl)) Via.refl eq6 F4 F3 (Or.inr ⟨(ww hw 21 rfl), rfl, hnm⟩) (ww hw 4 rfl) (ty := .int) (by decide) rfl rfl (g := (mkF m 28 #[.val (.ref o0), .val (.long q1), .second] [(.int ((if (268435454 : Int64) < (((q1 + (4 : Int64)) - (1 : Int64)) / (4 : Int64)) then (268435454 : Int64) else (((q1 + (4 : Int64)) - (1 : Int64)) / (4 : Int64))).toInt32)), (.ref o0)])) rfl rfl (hb hby d1_28)
  have N7 := Fr.snoc X7 N6 g_o0
  have K7 : Keep h0 h7 [o0] := K2.wr W7 (Or.inl (List.mem_of_getElem? (i := 0) rfl))
  have Z7 : n0 ≤ h7.size := Nat.le_trans Z2 (Keep.of_wr W7).1
  have F8 : Exa Z h7 o0 "com/example/emberlot/emberlot/EvictedKeys" := F3.wr W7
  have F9 : Fld Z h7 o0 "com/example/emberlot/emberlot/EvictedKeys" "span" "J" (.long q1) := F5.other W7 (Or.inr (slot_ne (Or.inr (ww hw 13 rfl)) (Or.inr (ww hw 21 rfl)) (by decide) (t := .long) (t' := .int) (by decide) (by decide)))
  have F10 : Fld Z h7 o0 "com/example/emberlot/emberlot/EvictedKeys" "buckets" "I" (.int ((if (268435454 : Int64) < (((q1 + (4 : Int64)) - (1 : Int64)) / (4 : Int64)) then (268435454 : Int64) else (((q1 + (4 : Int64)) - (1 : Int64)) / (4 : Int64))).toInt32)) := F4.same W7
  refine go (u' := T7.setTop (mkF m 31 #[.val (.ref o0), .val (.long q1), .second] [])) st7 ?_
  rw [hG]
  refine g0 X7 hx hlk hret (hb hby d1_31) ?_ (Nat.le_of_ble_eq_true rfl) (Nat.le_of_ble_eq_true rfl)
  show Q_rm1 Z o0 q1 h0 n0 (none) T7.heap _
  rw [e7]
  exact ⟨rfl, N7, K7, F8, F9, F10⟩
theorem pn_com_example_emberlot_emberlot_EvictedKeys_evictionsSince_4 : plainFor (⟨"com/example/emberlot/emberlot/EvictedKeys", "evictionsSince", "(J)J"⟩ : MethodName) = true := by first | exact plainFor_of_name (by first | (simp [plainName, overriddenIn]; done) | decide +kernel) | decide +kernel
def Q_rm4 (Z : State) (o0 : Addr) (q1 : Int64) (sp : Int64) (h0 : Heap) (n0 : Nat) (v : Option Value) (h : Heap) (L : List Loc) : Prop := v = some (.long (own_ev sp q1)) ∧ Fr n0 L ∧ h = h0
theorem ef_rm4 (m : MethodId) (o0 : Addr) (q1 : Int64) : entryFrame m #[(.ref o0), (.long q1)] 5 = mkF m 0 #[.val (.ref o0), .val (.long q1), .second, .unset, .unset] [] := by first | rfl | (simp [entryFrame, mkF, argsToLocals, Value.category, maxLocals]; done)
theorem d4_0 : decode prog_15_method_6_code 0 = .ok (.lload_n 1, 1) := by decide +kernel
theorem d4_1 : decode prog_15_method_6_code 1 = .ok (.bipush 32, 2) := by decide +kernel
theorem d4_3 : decode prog_15_method_6_code 3 = .ok (.lushr, 1) := by decide +kernel
theorem d4_4 : decode prog_15_method_6_code 4 = .ok (.l2i, 1) := by decide +kernel
theorem d4_5 : decode prog_15_method_6_code 5 = .ok (.iconst 2, 1) := by decide +kernel
theorem d4_6 : decode prog_15_method_6_code 6 = .ok (.iushr, 1) := by decide +kernel
theorem d4_7 : decode prog_15_method_6_code 7 = .ok (.i2l, 1) := by decide +kernel
theorem d4_8 : decode prog_15_method_6_code 8 = .ok (.lstore_n 3, 1) := by decide +kernel
theorem d4_9 : decode prog_15_method_6_code 9 = .ok (.lload_n 3, 1) := by decide +kernel
theorem d4_10 : decode prog_15_method_6_code 10 = .ok (.aload_n 0, 1) := by decide +kernel
theorem d4_11 : decode prog_15_method_6_code 11 = .ok (.getfield 11, 3) := by decide +kernel
theorem d4_14 : decode prog_15_method_6_code 14 = .ok (.ldc2_w 77, 3) := by decide +kernel
theorem d4_17 : decode prog_15_method_6_code 17 = .ok (.ldiv, 1) := by decide +kernel
theorem d4_18 : decode prog_15_method_6_code 18 = .ok (.lmul, 1) := by decide +kernel
theorem d4_19 : decode prog_15_method_6_code 19 = .ok (.lload_n 3, 1) := by decide +kernel
theorem d4_20 : decode prog_15_method_6_code 20 = .ok (.aload_n 0, 1) := by decide +kernel
theorem d4_21 : decode prog_15_method_6_code 21 = .ok (.getfield 11, 3) := by decide +kernel
theorem d4_24 : decode prog_15_method_6_code 24 = .ok (.ldc2_w 77, 3) := by decide +kernel
theorem d4_27 : decode prog_15_method_6_code 27 = .ok (.lrem, 1) := by decide +kernel
theorem d4_28 : decode prog_15_method_6_code 28 = .ok (.lmul, 1) := by decide +kernel
theorem d4_29 : decode prog_15_method_6_code 29 = .ok (.ldc2_w 77, 3) := by decide +kernel
theorem d4_32 : decode prog_15_method_6_code 32 = .ok (.ldiv, 1) := by decide +kernel
theorem d4_33 : decode prog_15_method_6_code 33 = .ok (.ladd, 1) := by decide +kernel
theorem d4_34 : decode prog_15_method_6_code 34 = .ok (.lreturn, 1) := by decide +kernel
set_option maxRecDepth 65536 in
set_option maxHeartbeats 40000000 in
theorem rm4 (l : Launch) (Z : State) (a0 : Array Value) (hw : ∀ d ∈ tables_1, d.before a0 Z = true) (ws : List Jvm.Cond) (o0 : Addr) (q1 : Int64) (sp : Int64) (h0 : Heap) (n0 : Nat) (Z0 : n0 ≤ h0.size) (F0 : Fld Z h0 o0 "com/example/emberlot/emberlot/EvictedKeys" "span" "J" (.long sp)) :
    MetFree l (⟨"com/example/emberlot/emberlot/EvictedKeys", "evictionsSince", "(J)J"⟩ : MethodName) (head1 (Jvm.Cond.code (⟨"com/example/emberlot/emberlot/EvictedKeys", "evictionsSince", "(J)J"⟩ : MethodName) prog_15_method_6_code 5 (some .long) :: ws) ({ frames := 0, cells := 0, slots := 0, locals := 0 } : Room)) (fun a U => a = #[(.ref o0), (.long q1)] ∧ Z.Warmed39 U.vm ∧ U.heap = h0) (fun _ _ _ _ _ => True) (fun _ U o U' => ∃ v L, o = .returned v ∧ Q_rm4 Z o0 q1 sp h0 n0 v U'.heap L ∧ FrameEnd U o U' L ({ frames := 0, cells := 0, slots := 0, locals := 0 } : Room).cells ({ frames := 0, cells := 0, slots := 0, locals := 0 } : Room).slots) := by
  refine body pn_com_example_emberlot_emberlot_EvictedKeys_evictionsSince_4 ?_
  intro p e s m below meth c s₁ hx hby hml hown hnm hret hlk hZ e0 X0
  replace hml : c.maxLocals = 5 := hml
  replace hown : s.vm.findClass "com/example/emberlot/emberlot/EvictedKeys" = some m.cls := hown
  replace hnm : meth.name = "evictionsSince" := hnm
  replace hret : meth.sig.returnType = (some .long) := hret
  have N0 := Fr.nil n0
  rw [ef_rm4]
  obtain ⟨G, hG⟩ : ∃ G, G = End (Q_rm4 Z o0 q1 sp h0 n0) s ({ frames := 0, cells := 0, slots := 0, locals := 0 } : Room).cells ({ frames := 0, cells := 0, slots := 0, locals := 0 } : Room).slots := ⟨_, rfl⟩
  rw [← hG]
  refine go (u' := s₁.setTop (mkF m 1 #[.val (.ref o0), .val (.long q1), .second, .unset, .unset] [(.long q1)])) (fun _ ks_ => XS.lloadN X0.here hx rfl (hb hby d4_0) rfl  ks_) ?_
  refine go (u' := s₁.setTop (mkF m 3 #[.val (.ref o0), .val (.long q1), .second, .unset, .unset] [(.int (32 : Int32)), (.long q1)])) (fun _ ks_ => XS.bipush X0.here hx rfl (hb hby d4_1) ks_) ?_
  refine go (u' := s₁.setTop (mkF m 4 #[.val (.ref o0), .val (.long q1), .second, .unset, .unset] [(.long ((q1.toUInt64 >>> ((32 : Int32) &&& 0x3f).toInt64.toUInt64).toInt64))])) (fun _ ks_ => XS.lushr X0.here hx rfl (hb hby d4_3) rfl ks_) ?_
  refine go (u' := s₁.setTop (mkF m 5 #[.val (.ref o0), .val (.long q1), .second, .unset, .unset] [(.int (((q1.toUInt64 >>> ((32 : Int32) &&& 0x3f).toInt64.toUInt64).toInt64).toInt32))])) (fun _ ks_ => XS.l2i X0.here hx rfl (hb hby d4_4) rfl ks_) ?_
  refine go (u' := s₁.setTop (mkF m 6 #[.val (.ref o0), .val (.long q1), .second, .unset, .unset] [(.int (2 : Int32)), (.int (((q1.toUInt64 >>> ((32 : Int32) &&& 0x3f).toInt64.toUInt64).toInt64).toInt32))])) (fun _ ks_ => XS.iconst X0.here hx rfl (hb hby d4_5) ks_) ?_
  refine go (u' := s₁.setTop (mkF m 7 #[.val (.ref o0), .val (.long q1), .second, .unset, .unset] [(.int (((((q1.toUInt64 >>> ((32 : Int32) &&& 0x3f).toInt64.toUInt64).toInt64).toInt32).toUInt32 >>> ((2 : Int32) &&& 31).toUInt32).toInt32))])) (fun _ ks_ => XS.iushr X0.here hx rfl (hb hby d4_6) rfl ks_) ?_
  refine go (u' := s₁.setTop (mkF m 8 #[.val (.ref o0), .val (.long q1), .second, .unset, .unset] [(.long ((((((q1.toUInt64 >>> ((32 : Int32) &&& 0x3f).toInt64.toUInt64).toInt64).toInt32).toUInt32 >>> ((2 : Int32) &&& 31).toUInt32).toInt32).toInt64))])) (fun _ ks_ => XS.i2l X0.here hx rfl (hb hby d4_7) rfl ks_) ?_
  refine go (u' := s₁.setTop (mkF m 9 #[.val (.ref o0), .val (.long q1), .second, .val (.long ((((((q1.toUInt64 >>> ((32 : Int32) &&& 0x3f).toInt64.toUInt64).toInt64).toInt32).toUInt32 >>> ((2 : Int32) &&& 31).toUInt32).toInt32).toInt64)), .second] [])) (fun _ ks_ => XS.lstoreN X0.here hx rfl (hb hby d4_8) rfl  (l' := #[.val (.ref o0), .val (.long q1), .second, .val (.long ((((((q1.toUInt64 >>> ((32 : Int32) &&& 0x3f).toInt64.toUInt64).toInt64).toInt32).toUInt32 >>> ((2 : Int32) &&& 31).toUInt32).toInt32).toInt64)), .second]) rfl ks_) ?_
  refine go (u' := s₁.setTop (mkF m 10 #[.val (.ref o0), .val (.long q1), .second, .val (.long ((((((q1.toUInt64 >>> ((32 : Int32) &&& 0x3f).toInt64.toUInt64).toInt64).toInt32).toUInt32 >>> ((2 : Int32) &&& 31).toUInt32).toInt32).toInt64)), .second] [(.long ((((((q1.toUInt64 >>> ((32 : Int32) &&& 0x3f).toInt64.toUInt64).toInt64).toInt32).toUInt32 >>> ((2 : Int32) &&& 31).toUInt32).toInt32).toInt64))])) (fun _ ks_ => XS.lloadN X0.here hx rfl (hb hby d4_9) rfl  ks_) ?_
  refine go (u' := s₁.setTop (mkF m 11 #[.val (.ref o0), .val (.long q1), .second, .val (.long ((((((q1.toUInt64 >>> ((32 : Int32) &&& 0x3f).toInt64.toUInt64).toInt64).toInt32).toUInt32 >>> ((2 : Int32) &&& 31).toUInt32).toInt32).toInt64)), .second] [(.ref o0), (.long ((((((q1.toUInt64 >>> ((32 : Int32) &&& 0x3f).toInt64.toUInt64).toInt64).toInt32).toUInt32 >>> ((2 : Int32) &&& 31).toUInt32).toInt32).toInt64))])) (fun _ ks_ => XS.aloadN X0.here hx rfl (hb hby d4_10) rfl rfl ks_) ?_
  obtain ⟨T1, X1, e1, st1⟩ := getF X0 hx hZ hown (host := "") (Or.inl (ww hw 12 rfl)) Via.refl e0 F0 (g := (mkF m 11 #[.val (.ref o0), .val (.long q1), .second, .val (.long ((((((q1.toUInt64 >>> ((32 : Int32) &&& 0x3f).toInt64.toUInt64).toInt64).toInt32).toUInt32 >>> ((2 : Int32) &&& 31).toUInt32).toInt32).toInt64)), .second] [(.ref o0), (.long ((((((q1.toUInt64 >>> ((32 : Int32) &&& 0x3f).toInt64.toUInt64).toInt64).toInt32).toUInt32 >>> ((2 : Int32) &&& 31).toUInt32).toInt32).toInt64))])) rfl rfl (hb hby d4_11)
  refine go (u' := T1.setTop (mkF m 14 #[.val (.ref o0), .val (.long q1), .second, .val (.long ((((((q1.toUInt64 >>> ((32 : Int32) &&& 0x3f).toInt64.toUInt64).toInt64).toInt32).toUInt32 >>> ((2 : Int32) &&& 31).toUInt32).toInt32).toInt64)), .second] [(.long sp), (.long ((((((q1.toUInt64 >>> ((32 : Int32) &&& 0x3f).toInt64.toUInt64).toInt64).toInt32).toUInt32 >>> ((2 : Int32) &&& 31).toUInt32).toInt32).toInt64))])) st1 ?_
  refine go (u' := T1.setTop (mkF m 17 #[.val (.ref o0), .val (.long q1), .second, .val (.long ((((((q1.toUInt64 >>> ((32 : Int32) &&& 0x3f).toInt64.toUInt64).toInt64).toInt32).toUInt32 >>> ((2 : Int32) &&& 31).toUInt32).toInt32).toInt64)), .second] [(.long (256 : Int64)), (.long sp), (.long ((((((q1.toUInt64 >>> ((32 : Int32) &&& 0x3f).toInt64.toUInt64).toInt64).toInt32).toUInt32 >>> ((2 : Int32) &&& 31).toUInt32).toInt32).toInt64))])) (X1.ldc2Long hx hown (mvT hZ (ww hw 27 rfl)) (g := (mkF m 14 #[.val (.ref o0), .val (.long q1), .second, .val (.long ((((((q1.toUInt64 >>> ((32 : Int32) &&& 0x3f).toInt64.toUInt64).toInt64).toInt32).toUInt32 >>> ((2 : Int32) &&& 31).toUInt32).toInt32).toInt64)), .second] [(.long sp), (.long ((((((q1.toUInt64 >>> ((32 : Int32) &&& 0x3f).toInt64.toUInt64).toInt64).toInt32).toUInt32 >>> ((2 : Int32) &&& 31).toUInt32).toInt32).toInt64))])) rfl (hb hby d4_14)) ?_
  refine go (u' := T1.setTop (mkF m 18 #[.val (.ref o0), .val (.long q1), .second, .val (.long ((((((q1.toUInt64 >>> ((32 : Int32) &&& 0x3f).toInt64.toUInt64).toInt64).toInt32).toUInt32 >>> ((2 : Int32) &&& 31).toUInt32).toInt32).toInt64)), .second] [(.long (sp / (256 : Int64))), (.long ((((((q1.toUInt64 >>> ((32 : Int32) &&& 0x3f).toInt64.toUInt64).toInt64).toInt32).toUInt32 >>> ((2 : Int32) &&& 31).toUInt32).toInt32).toInt64))])) (fun _ ks_ => XS.ldiv X1.here hx rfl (hb hby d4_17) rfl (by decide) ks_) ?_
  refine go (u' := T1.setTop (mkF m 19 #[.val (.ref o0), .val (.long q1), .second, .val (.long ((((((q1.toUInt64 >>> ((32 : Int32) &&& 0x3f).toInt64.toUInt64).toInt64).toInt32).toUInt32 >>> ((2 : Int32) &&& 31).toUInt32).toInt32).toInt64)), .second] [(.long (((((((q1.toUInt64 >>> ((32 : Int32) &&& 0x3f).toInt64.toUInt64).toInt64).toInt32).toUInt32 >>> ((2 : Int32) &&& 31).toUInt32).toInt32).toInt64) * (sp / (256 : Int64))))])) (fun _ ks_ => XS.lmul X1.here hx rfl (hb hby d4_18) rfl ks_) ?_
  refine go (u' := T1.setTop (mkF m 20 #[.val (.ref o0), .val (.long q1), .second, .val (.long ((((((q1.toUInt64 >>> ((32 : Int32) &&& 0x3f).toInt64.toUInt64).toInt64).toInt32).toUInt32 >>> ((2 : Int32) &&& 31).toUInt32).toInt32).toInt64)), .second] [(.long ((((((q1.toUInt64 >>> ((32 : Int32) &&& 0x3f).toInt64.toUInt64).toInt64).toInt32).toUInt32 >>> ((2 : Int32) &&& 31).toUInt32).toInt32).toInt64)), (.long (((((((q1.toUInt64 >>> ((32 : Int32) &&& 0x3f).toInt64.toUInt64).toInt64).toInt32).toUInt32 >>> ((2 : Int32) &&& 31).toUInt32).toInt32).toInt64) * (sp / (256 : Int64))))])) (fun _ ks_ => XS.lloadN X1.here hx rfl (hb hby d4_19) rfl  ks_) ?_
  refine go (u' := T1.setTop (mkF m 21 #[.val (.ref o0), .val (.long q1), .second, .val (.long ((((((q1.toUInt64 >>> ((32 : Int32) &&& 0x3f).toInt64.toUInt64).toInt64).toInt32).toUInt32 >>> ((2 : Int32) &&& 31).toUInt32).toInt32).toInt64)), .second] [(.ref o0), (.long ((((((q1.toUInt64 >>> ((32 : Int32) &&& 0x3f).toInt64.toUInt64).toInt64).toInt32).toUInt32 >>> ((2 : Int32) &&& 31).toUInt32).toInt32).toInt64)), (.long (((((((q1.toUInt64 >>> ((32 : Int32) &&& 0x3f).toInt64.toUInt64).toInt64).toInt32).toUInt32 >>> ((2 : Int32) &&& 31).toUInt32).toInt32).toInt64) * (sp / (256 : Int64))))])) (fun _ ks_ => XS.aloadN X1.here hx rfl (hb hby d4_20) rfl rfl ks_) ?_
  obtain ⟨T2, X2, e2, st2⟩ := getF X1 hx hZ hown (host := "") (Or.inl (ww hw 12 rfl)) Via.refl e1 F0 (g := (mkF m 21 #[.val (.ref o0), .val (.long q1), .second, .val (.long ((((((q1.toUInt64 >>> ((32 : Int32) &&& 0x3f).toInt64.toUInt64).toInt64).toInt32).toUInt32 >>> ((2 : Int32) &&& 31).toUInt32).toInt32).toInt64)), .second] [(.ref o0), (.long ((((((q1.toUInt64 >>> ((32 : Int32) &&& 0x3f).toInt64.toUInt64).toInt64).toInt32).toUInt32 >>> ((2 : Int32) &&& 31).toUInt32).toInt32).toInt64)), (.long (((((((q1.toUInt64 >>> ((32 : Int32) &&& 0x3f).toInt64.toUInt64).toInt64).toInt32).toUInt32 >>> ((2 : Int32) &&& 31).toUInt32).toInt32).toInt64) * (sp / (256 : Int64))))])) rfl rfl (hb hby d4_21)
  refine go (u' := T2.setTop (mkF m 24 #[.val (.ref o0), .val (.long q1), .second, .val (.long ((((((q1.toUInt64 >>> ((32 : Int32) &&& 0x3f).toInt64.toUInt64).toInt64).toInt32).toUInt32 >>> ((2 : Int32) &&& 31).toUInt32).toInt32).toInt64)), .second] [(.long sp), (.long ((((((q1.toUInt64 >>> ((32 : Int32) &&& 0x3f).toInt64.toUInt64).toInt64).toInt32).toUInt32 >>> ((2 : Int32) &&& 31).toUInt32).toInt32).toInt64)), (.long (((((((q1.toUInt64 >>> ((32 : Int32) &&& 0x3f).toInt64.toUInt64).toInt64).toInt32).toUInt32 >>> ((2 : Int32) &&& 31).toUInt32).toInt32).toInt64) * (sp / (256 : Int64))))])) st2 ?_
  refine go (u' := T2.setTop (mkF m 27 #[.val (.ref o0), .val (.long q1), .second, .val (.long ((((((q1.toUInt64 >>> ((32 : Int32) &&& 0x3f).toInt64.toUInt64).toInt64).toInt32).toUInt32 >>> ((2 : Int32) &&& 31).toUInt32).toInt32).toInt64)), .second] [(.long (256 : Int64)), (.long sp), (.long ((((((q1.toUInt64 >>> ((32 : Int32) &&& 0x3f).toInt64.toUInt64).toInt64).toInt32).toUInt32 >>> ((2 : Int32) &&& 31).toUInt32).toInt32).toInt64)), (.long (((((((q1.toUInt64 >>> ((32 : Int32) &&& 0x3f).toInt64.toUInt64).toInt64).toInt32).toUInt32 >>> ((2 : Int32) &&& 31).toUInt32).toInt32).toInt64) * (sp / (256 : Int64))))])) (X2.ldc2Long hx hown (mvT hZ (ww hw 27 rfl)) (g := (mkF m 24 #[.val (.ref o0), .val (.long q1), .second, .val (.long ((((((q1.toUInt64 >>> ((32 : Int32) &&& 0x3f).toInt64.toUInt64).toInt64).toInt32).toUInt32 >>> ((2 : Int32) &&& 31).toUInt32).toInt32).toInt64)), .second] [(.long sp), (.long ((((((q1.toUInt64 >>> ((32 : Int32) &&& 0x3f).toInt64.toUInt64).toInt64).toInt32).toUInt32 >>> ((2 : Int32) &&& 31).toUInt32).toInt32).toInt64)), (.long (((((((q1.toUInt64 >>> ((32 : Int32) &&& 0x3f).toInt64.toUInt64).toInt64).toInt32).toUInt32 >>> ((2 : Int32) &&& 31).toUInt32).toInt32).toInt64) * (sp / (256 : Int64))))])) rfl (hb hby d4_24)) ?_
  refine go (u' := T2.setTop (mkF m 28 #[.val (.ref o0), .val (.long q1), .second, .val (.long ((((((q1.toUInt64 >>> ((32 : Int32) &&& 0x3f).toInt64.toUInt64).toInt64).toInt32).toUInt32 >>> ((2 : Int32) &&& 31).toUInt32).toInt32).toInt64)), .second] [(.long (sp - (sp / (256 : Int64)) * (256 : Int64))), (.long ((((((q1.toUInt64 >>> ((32 : Int32) &&& 0x3f).toInt64.toUInt64).toInt64).toInt32).toUInt32 >>> ((2 : Int32) &&& 31).toUInt32).toInt32).toInt64)), (.long (((((((q1.toUInt64 >>> ((32 : Int32) &&& 0x3f).toInt64.toUInt64).toInt64).toInt32).toUInt32 >>> ((2 : Int32) &&& 31).toUInt32).toInt32).toInt64) * (sp / (256 : Int64))))])) (fun _ ks_ => XS.lrem X2.here hx rfl (hb hby d4_27) rfl (by decide) ks_) ?_
  refine go (u' := T2.setTop (mkF m 29 #[.val (.ref o0), .val (.long q1), .second, .val (.long ((((((q1.toUInt64 >>> ((32 : Int32) &&& 0x3f).toInt64.toUInt64).toInt64).toInt32).toUInt32 >>> ((2 : Int32) &&& 31).toUInt32).toInt32).toInt64)), .second] [(.long (((((((q1.toUInt64 >>> ((32 : Int32) &&& 0x3f).toInt64.toUInt64).toInt64).toInt32).toUInt32 >>> ((2 : Int32) &&& 31).toUInt32).toInt32).toInt64) * (sp - (sp / (256 : Int64)) * (256 : Int64)))), (.long (((((((q1.toUInt64 >>> ((32 : Int32) &&& 0x3f).toInt64.toUInt64).toInt64).toInt32).toUInt32 >>> ((2 : Int32) &&& 31).toUInt32).toInt32).toInt64) * (sp / (256 : Int64))))])) (fun _ ks_ => XS.lmul X2.here hx rfl (hb hby d4_28) rfl ks_) ?_
  refine go (u' := T2.setTop (mkF m 32 #[.val (.ref o0), .val (.long q1), .second, .val (.long ((((((q1.toUInt64 >>> ((32 : Int32) &&& 0x3f).toInt64.toUInt64).toInt64).toInt32).toUInt32 >>> ((2 : Int32) &&& 31).toUInt32).toInt32).toInt64)), .second] [(.long (256 : Int64)), (.long (((((((q1.toUInt64 >>> ((32 : Int32) &&& 0x3f).toInt64.toUInt64).toInt64).toInt32).toUInt32 >>> ((2 : Int32) &&& 31).toUInt32).toInt32).toInt64) * (sp - (sp / (256 : Int64)) * (256 : Int64)))), (.long (((((((q1.toUInt64 >>> ((32 : Int32) &&& 0x3f).toInt64.toUInt64).toInt64).toInt32).toUInt32 >>> ((2 : Int32) &&& 31).toUInt32).toInt32).toInt64) * (sp / (256 : Int64))))])) (X2.ldc2Long hx hown (mvT hZ (ww hw 27 rfl)) (g := (mkF m 29 #[.val (.ref o0), .val (.long q1), .second, .val (.long ((((((q1.toUInt64 >>> ((32 : Int32) &&& 0x3f).toInt64.toUInt64).toInt64).toInt32).toUInt32 >>> ((2 : Int32) &&& 31).toUInt32).toInt32).toInt64)), .second] [(.long (((((((q1.toUInt64 >>> ((32 : Int32) &&& 0x3f).toInt64.toUInt64).toInt64).toInt32).toUInt32 >>> ((2 : Int32) &&& 31).toUInt32).toInt32).toInt64) * (sp - (sp / (256 : Int64)) * (256 : Int64)))), (.long (((((((q1.toUInt64 >>> ((32 : Int32) &&& 0x3f).toInt64.toUInt64).toInt64).toInt32).toUInt32 >>> ((2 : Int32) &&& 31).toUInt32).toInt32).toInt64) * (sp / (256 : Int64))))])) rfl (hb hby d4_29)) ?_
  refine go (u' := T2.setTop (mkF m 33 #[.val (.ref o0), .val (.long q1), .second, .val (.long ((((((q1.toUInt64 >>> ((32 : Int32) &&& 0x3f).toInt64.toUInt64).toInt64).toInt32).toUInt32 >>> ((2 : Int32) &&& 31).toUInt32).toInt32).toInt64)), .second] [(.long ((((((((q1.toUInt64 >>> ((32 : Int32) &&& 0x3f).toInt64.toUInt64).toInt64).toInt32).toUInt32 >>> ((2 : Int32) &&& 31).toUInt32).toInt32).toInt64) * (sp - (sp / (256 : Int64)) * (256 : Int64))) / (256 : Int64))), (.long (((((((q1.toUInt64 >>> ((32 : Int32) &&& 0x3f).toInt64.toUInt64).toInt64).toInt32).toUInt32 >>> ((2 : Int32) &&& 31).toUInt32).toInt32).toInt64) * (sp / (256 : Int64))))])) (fun _ ks_ => XS.ldiv X2.here hx rfl (hb hby d4_32) rfl (by decide) ks_) ?_
  refine go (u' := T2.setTop (mkF m 34 #[.val (.ref o0), .val (.long q1), .second, .val (.long ((((((q1.toUInt64 >>> ((32 : Int32) &&& 0x3f).toInt64.toUInt64).toInt64).toInt32).toUInt32 >>> ((2 : Int32) &&& 31).toUInt32).toInt32).toInt64)), .second] [(.long ((((((((q1.toUInt64 >>> ((32 : Int32) &&& 0x3f).toInt64.toUInt64).toInt64).toInt32).toUInt32 >>> ((2 : Int32) &&& 31).toUInt32).toInt32).toInt64) * (sp / (256 : Int64))) + ((((((((q1.toUInt64 >>> ((32 : Int32) &&& 0x3f).toInt64.toUInt64).toInt64).toInt32).toUInt32 >>> ((2 : Int32) &&& 31).toUInt32).toInt32).toInt64) * (sp - (sp / (256 : Int64)) * (256 : Int64))) / (256 : Int64))))])) (fun _ ks_ => XS.ladd X2.here hx rfl (hb hby d4_33) rfl ks_) ?_
  rw [hG]
  refine gJ X2 hx hlk hret (hb hby d4_34) ?_ (Nat.le_of_ble_eq_true rfl) (Nat.le_of_ble_eq_true rfl)
  show Q_rm4 Z o0 q1 sp h0 n0 (some (.long ((((((((q1.toUInt64 >>> ((32 : Int32) &&& 0x3f).toInt64.toUInt64).toInt64).toInt32).toUInt32 >>> ((2 : Int32) &&& 31).toUInt32).toInt32).toInt64) * (sp / (256 : Int64))) + ((((((((q1.toUInt64 >>> ((32 : Int32) &&& 0x3f).toInt64.toUInt64).toInt64).toInt32).toUInt32 >>> ((2 : Int32) &&& 31).toUInt32).toInt32).toInt64) * (sp - (sp / (256 : Int64)) * (256 : Int64))) / (256 : Int64))))) T2.heap _
  rw [e2]
  exact ⟨rfl, N0, rfl⟩
theorem pd__40_J_41_V : parseMethodDescriptor "(J)V" = some ⟨[.long], none⟩ := by decide +kernel
theorem pd__40_J_41_J : parseMethodDescriptor "(J)J" = some ⟨[.long], some .long⟩ := by decide +kernel
theorem pn_com_example_emberlot_emberlot_EvictedKeysEvictionsSincePinLaw_law_0 : plainFor x = true := by first | exact plainFor_of_name (by first | (simp [plainName, overriddenIn]; done) | decide +kernel) | decide +kernel
def Q_rm0 (Z : State) (q0 : Int64) (q1 : Int64) (p2 : Int32) (h0 : Heap) (n0 : Nat) (v : Option Value) (h : Heap) (L : List Loc) : Prop := v = some (.int (1 : Int32)) ∧ Fr n0 L
theorem ef_rm0 (m : MethodId) (q0 : Int64) (q1 : Int64) (p2 : Int32) : entryFrame m #[(.long q0), (.long q1), (.int p2)] maxLocals = mkF m 0 #[.val (.long q0), .second, .val (.long q1), .second, .val (.int p2), .unset, .unset, .unset, .unset, .unset, .unset, .unset, .unset, .unset, .unset] [] := by first | rfl | (simp [entryFrame, mkF, argsToLocals, Value.category, maxLocals]; done)
set_option maxRecDepth 65536 in
set_option maxHeartbeats 40000000 in
theorem rm0 (l : Launch) (Z : State) (a0 : Array Value) (hw : ∀ d ∈ tables_1, d.before a0 Z = true) (ws : List Jvm.Cond) (q0 : Int64) (q1 : Int64) (p2 : Int32) (h0 : Heap) (n0 : Nat) (Z0 : n0 ≤ h0.size)  :
    MetFree l x (head1 (Jvm.Cond.code x code maxLocals ret :: ws) room_1) (fun a U => a = #[(.long q0), (.long q1), (.int p2)] ∧ Z.Warmed39 U.vm ∧ U.heap = h0) (fun _ _ _ _ _ => True) (fun _ U o U' => ∃ v L, o = .returned v ∧ Q_rm0 Z q0 q1 p2 h0 n0 v U'.heap L ∧ FrameEnd U o U' L room_1.cells room_1.slots) := by
  refine body pn_com_example_emberlot_emberlot_EvictedKeysEvictionsSincePinLaw_law_0 ?_
  intro p e s m below meth c s₁ hx hby hml hown hnm hret hlk hZ e0 X0
  replace hml : c.maxLocals = 15 := hml
  replace hown : s.vm.findClass "com/example/emberlot/emberlot/EvictedKeysEvictionsSincePinLaw" = some m.cls := hown
  replace hnm : meth.name = "law" := hnm
  replace hret : meth.sig.returnType = (some .boolean) := hret
  have N0 := Fr.nil n0
  rw [ef_rm0]
  obtain ⟨G, hG⟩ : ∃ G, G = End (Q_rm0 Z q0 q1 p2 h0 n0) s room_1.cells room_1.slots := ⟨_, rfl⟩
  rw [← hG]
  refine go (u' := s₁.setTop (mkF m 2 #[.val (.long q0), .second, .val (.long q1), .second, .val (.int p2), .unset, .unset, .unset, .unset, .unset, .unset, .unset, .unset, .unset, .unset] [(.int p2)])) (fun _ ks_ => XS.iload X0.here hx rfl (hb hby at_0) rfl  ks_) ?_
  refine go (u' := s₁.setTop (mkF m 3 #[.val (.long q0), .second, .val (.long q1), .second, .val (.int p2), .unset, .unset, .unset, .unset, .unset, .unset, .unset, .unset, .unset, .unset] [(.int (1 : Int32)), (.int p2)])) (fun _ ks_ => XS.iconst X0.here hx rfl (hb hby at_2) ks_) ?_
  refine go (u' := s₁.setTop (mkF m 4 #[.val (.long q0), .second, .val (.long q1), .second, .val (.int p2), .unset, .unset, .unset, .unset, .unset, .unset, .unset, .unset, .unset, .unset] [(.int (p2 &&& (1 : Int32)))])) (fun _ ks_ => XS.iand X0.here hx rfl (hb hby at_3) rfl ks_) ?_
  have J12_1 : ∀ v12_1 : Int32, v12_1 = (B (¬ ((p2 &&& (1 : Int32)) = (0 : Int32)))) → Go p.tables e below G (s₁.setTop (mkF m 12 #[.val (.long q0), .second, .val (.long q1), .second, .val (.int p2), .unset, .unset, .unset, .unset, .unset, .unset, .unset, .unset, .unset, .unset] [(.int v12_1)])) := by
    intro v12_1 hv12_1
    subst hv12_1
    refine go (u' := s₁.setTop (mkF m 14 #[.val (.long q0), .second, .val (.long q1), .second, .val (.int p2), .val (.int (B (¬ ((p2 &&& (1 : Int32)) = (0 : Int32))))), .unset, .unset, .unset, .unset, .unset, .unset, .unset, .unset, .unset] [])) (fun _ ks_ => XS.istore X0.here hx rfl (hb hby at_12) rfl  (l' := #[.val (.long q0), .second, .val (.long q1), .second, .val (.int p2), .val (.int (B (¬ ((p2 &&& (1 : Int32)) = (0 : Int32))))), .unset, .unset, .unset, .unset, .unset, .unset, .unset, .unset, .unset]) rfl ks_) ?_
    refine go (u' := s₁.setTop (mkF m 16 #[.val (.long q0), .second, .val (.long q1), .second, .val (.int p2), .val (.int (B (¬ ((p2 &&& (1 : Int32)) = (0 : Int32))))), .unset, .unset, .unset, .unset, .unset, .unset, .unset, .unset, .unset] [(.int (B (¬ ((p2 &&& (1 : Int32)) = (0 : Int32)))))])) (fun _ ks_ => XS.iload X0.here hx rfl (hb hby at_14) rfl  ks_) ?_
    have J50_2 : ∀ sp : Int64, ∀ re : Int64, sp = (if (¬ ((p2 &&& (1 : Int32)) = (0 : Int32))) then ((q1 &&& (8589934591 : Int64)) + (1 : Int64)) else ((q1 &&& (18014398509481983 : Int64)) + (1 : Int64))) → re = (if (¬ ((p2 &&& (1 : Int32)) = (0 : Int32))) then q0 else (q0 &&& (8796093022207 : Int64))) → Go p.tables e below G (s₁.setTop (mkF m 50 #[.val (.long q0), .second, .val (.long q1), .second, .val (.int p2), .val (.int (B (¬ ((p2 &&& (1 : Int32)) = (0 : Int32))))), .val (.long sp), .second, .val (.long re), .second, .unset, .unset, .unset, .unset, .unset] [])) := by
      intro sp re hsp hre
      refine go (u' := s₁.setTop (mkF m 52 #[.val (.long q0), .second, .val (.long q1), .second, .val (.int p2), .val (.int (B (¬ ((p2 &&& (1 : Int32)) = (0 : Int32))))), .val (.long sp), .second, .val (.long re), .second, .unset, .unset, .unset, .unset, .unset] [(.long re)])) (fun _ ks_ => XS.lload X0.here hx rfl (hb hby at_50) rfl  ks_) ?_
      refine go (u' := s₁.setTop (mkF m 54 #[.val (.long q0), .second, .val (.long q1), .second, .val (.int p2), .val (.int (B (¬ ((p2 &&& (1 : Int32)) = (0 : Int32))))), .val (.long sp), .second, .val (.long re), .second, .unset, .unset, .unset, .unset, .unset] [(.int (34 : Int32)), (.long re)])) (fun _ ks_ => XS.bipush X0.here hx rfl (hb hby at_52) ks_) ?_
      refine go (u' := s₁.setTop (mkF m 55 #[.val (.long q0), .second, .val (.long q1), .second, .val (.int p2), .val (.int (B (¬ ((p2 &&& (1 : Int32)) = (0 : Int32))))), .val (.long sp), .second, .val (.long re), .second, .unset, .unset, .unset, .unset, .unset] [(.long ((re.toUInt64 >>> ((34 : Int32) &&& 0x3f).toInt64.toUInt64).toInt64))])) (fun _ ks_ => XS.lushr X0.here hx rfl (hb hby at_54) rfl ks_) ?_
      refine go (u' := s₁.setTop (mkF m 57 #[.val (.long q0), .second, .val (.long q1), .second, .val (.int p2), .val (.int (B (¬ ((p2 &&& (1 : Int32)) = (0 : Int32))))), .val (.long sp), .second, .val (.long re), .second, .val (.long ((re.toUInt64 >>> ((34 : Int32) &&& 0x3f).toInt64.toUInt64).toInt64)), .second, .unset, .unset, .unset] [])) (fun _ ks_ => XS.lstore X0.here hx rfl (hb hby at_55) rfl  (l' := #[.val (.long q0), .second, .val (.long q1), .second, .val (.int p2), .val (.int (B (¬ ((p2 &&& (1 : Int32)) = (0 : Int32))))), .val (.long sp), .second, .val (.long re), .second, .val (.long ((re.toUInt64 >>> ((34 : Int32) &&& 0x3f).toInt64.toUInt64).toInt64)), .second, .unset, .unset, .unset]) rfl ks_) ?_
      refine go (u' := s₁.setTop (mkF m 59 #[.val (.long q0), .second, .val (.long q1), .second, .val (.int p2), .val (.int (B (¬ ((p2 &&& (1 : Int32)) = (0 : Int32))))), .val (.long sp), .second, .val (.long re), .second, .val (.long ((re.toUInt64 >>> ((34 : Int32) &&& 0x3f).toInt64.toUInt64).toInt64)), .second, .unset, .unset, .unset] [(.long ((re.toUInt64 >>> ((34 : Int32) &&& 0x3f).toInt64.toUInt64).toInt64))])) (fun _ ks_ => XS.lload X0.here hx rfl (hb hby at_57) rfl  ks_) ?_
      refine go (u' := s₁.setTop (mkF m 61 #[.val (.long q0), .second, .val (.long q1), .second, .val (.int p2), .val (.int (B (¬ ((p2 &&& (1 : Int32)) = (0 : Int32))))), .val (.long sp), .second, .val (.long re), .second, .val (.long ((re.toUInt64 >>> ((34 : Int32) &&& 0x3f).toInt64.toUInt64).toInt64)), .second, .unset, .unset, .unset] [(.long sp), (.long ((re.toUInt64 >>> ((34 : Int32) &&& 0x3f).toInt64.toUInt64).toInt64))])) (fun _ ks_ => XS.lload X0.here hx rfl (hb hby at_59) rfl  ks_) ?_
      refine go (u' := s₁.setTop (mkF m 62 #[.val (.long q0), .second, .val (.long q1), .second, .val (.int p2), .val (.int (B (¬ ((p2 &&& (1 : Int32)) = (0 : Int32))))), .val (.long sp), .second, .val (.long re), .second, .val (.long ((re.toUInt64 >>> ((34 : Int32) &&& 0x3f).toInt64.toUInt64).toInt64)), .second, .unset, .unset, .unset] [(.long (((re.toUInt64 >>> ((34 : Int32) &&& 0x3f).toInt64.toUInt64).toInt64) * sp))])) (fun _ ks_ => XS.lmul X0.here hx rfl (hb hby at_61) rfl ks_) ?_
      refine go (u' := s₁.setTop (mkF m 65 #[.val (.long q0), .second, .val (.long q1), .second, .val (.int p2), .val (.int (B (¬ ((p2 &&& (1 : Int32)) = (0 : Int32))))), .val (.long sp), .second, .val (.long re), .second, .val (.long ((re.toUInt64 >>> ((34 : Int32) &&& 0x3f).toInt64.toUInt64).toInt64)), .second, .unset, .unset, .unset] [(.long (256 : Int64)), (.long (((re.toUInt64 >>> ((34 : Int32) &&& 0x3f).toInt64.toUInt64).toInt64) * sp))])) (X0.ldc2Long hx hown (mvT hZ (ww hw 2 rfl)) (g := (mkF m 62 #[.val (.long q0), .second, .val (.long q1), .second, .val (.int p2), .val (.int (B (¬ ((p2 &&& (1 : Int32)) = (0 : Int32))))), .val (.long sp), .second, .val (.long re), .second, .val (.long ((re.toUInt64 >>> ((34 : Int32) &&& 0x3f).toInt64.toUInt64).toInt64)), .second, .unset, .unset, .unset] [(.long (((re.toUInt64 >>> ((34 : Int32) &&& 0x3f).toInt64.toUInt64).toInt64) * sp))])) rfl (hb hby at_62)) ?_
      refine go (u' := s₁.setTop (mkF m 66 #[.val (.long q0), .second, .val (.long q1), .second, .val (.int p2), .val (.int (B (¬ ((p2 &&& (1 : Int32)) = (0 : Int32))))), .val (.long sp), .second, .val (.long re), .second, .val (.long ((re.toUInt64 >>> ((34 : Int32) &&& 0x3f).toInt64.toUInt64).toInt64)), .second, .unset, .unset, .unset] [(.long ((((re.toUInt64 >>> ((34 : Int32) &&& 0x3f).toInt64.toUInt64).toInt64) * sp) / (256 : Int64)))])) (fun _ ks_ => XS.ldiv X0.here hx rfl (hb hby at_65) rfl (by decide) ks_) ?_
      refine go (u' := s₁.setTop (mkF m 68 #[.val (.long q0), .second, .val (.long q1), .second, .val (.int p2), .val (.int (B (¬ ((p2 &&& (1 : Int32)) = (0 : Int32))))), .val (.long sp), .second, .val (.long re), .second, .val (.long ((re.toUInt64 >>> ((34 : Int32) &&& 0x3f).toInt64.toUInt64).toInt64)), .second, .val (.long ((((re.toUInt64 >>> ((34 : Int32) &&& 0x3f).toInt64.toUInt64).toInt64) * sp) / (256 : Int64))), .second, .unset] [])) (fun _ ks_ => XS.lstore X0.here hx rfl (hb hby at_66) rfl  (l' := #[.val (.long q0), .second, .val (.long q1), .second, .val (.int p2), .val (.int (B (¬ ((p2 &&& (1 : Int32)) = (0 : Int32))))), .val (.long sp), .second, .val (.long re), .second, .val (.long ((re.toUInt64 >>> ((34 : Int32) &&& 0x3f).toInt64.toUInt64).toInt64)), .second, .val (.long ((((re.toUInt64 >>> ((34 : Int32) &&& 0x3f).toInt64.toUInt64).toInt64) * sp) / (256 : Int64))), .second, .unset]) rfl ks_) ?_
      obtain ⟨T1, h1, X1, e1, E1, A1, D1, -, st1⟩ := newO X0 hx hZ hown (ww hw 3 rfl) (ww hw 4 rfl) (ww hw 5 rfl) e0 (g := (mkF m 68 #[.val (.long q0), .second, .val (.long q1), .second, .val (.int p2), .val (.int (B (¬ ((p2 &&& (1 : Int32)) = (0 : Int32))))), .val (.long sp), .second, .val (.long re), .second, .val (.long ((re.toUInt64 >>> ((34 : Int32) &&& 0x3f).toInt64.toUInt64).toInt64)), .second, .val (.long ((((re.toUInt64 >>> ((34 : Int32) &&& 0x3f).toInt64.toUInt64).toInt64) * sp) / (256 : Int64))), .second, .unset] [])) rfl (hb hby at_68) (by decide) (by decide)
      obtain ⟨b1, g1⟩ : ∃ z, z = h0.size := ⟨_, rfl⟩
      rw [← g1] at A1 D1 st1
      have g_b1 : n0 ≤ b1 := Nat.le_trans Z0 (Nat.le_of_eq g1.symm)
      have sz_b1 : h0.size ≤ b1 := Nat.le_trans (Keep.refl h0 []).1 (Nat.le_of_eq g1.symm)
      have K1 : Keep h0 h1 [] := (Keep.refl h0 []).ext E1
      have Z1 : n0 ≤ h1.size := Nat.le_trans Z0 E1.1
      have F2 : Fld Z h1 b1 "com/example/emberlot/emberlot/EvictedKeys" "span" "J" (.long (0 : Int64)) := D1 (Or.inr (ww hw 13 rfl)) (ty := .long) (by decide)
      have F3 : Fld Z h1 b1 "com/example/emberlot/emberlot/EvictedKeys" "buckets" "I" (.int (0 : Int32)) := D1 (Or.inr (ww hw 21 rfl)) (ty := .int) (by decide)
      refine go (u' := T1.setTop (mkF m 71 #[.val (.long q0), .second, .val (.long q1), .second, .val (.int p2), .val (.int (B (¬ ((p2 &&& (1 : Int32)) = (0 : Int32))))), .val (.long sp), .second, .val (.long re), .second, .val (.long ((re.toUInt64 >>> ((34 : Int32) &&& 0x3f).toInt64.toUInt64).toInt64)), .second, .val (.long ((((re.toUInt64 >>> ((34 : Int32) &&& 0x3f).toInt64.toUInt64).toInt64) * sp) / (256 : Int64))), .second, .unset] [(.ref b1)])) st1 ?_
      refine go (u' := T1.setTop (mkF m 72 #[.val (.long q0), .second, .val (.long q1), .second, .val (.int p2), .val (.int (B (¬ ((p2 &&& (1 : Int32)) = (0 : Int32))))), .val (.long sp), .second, .val (.long re), .second, .val (.long ((re.toUInt64 >>> ((34 : Int32) &&& 0x3f).toInt64.toUInt64).toInt64)), .second, .val (.long ((((re.toUInt64 >>> ((34 : Int32) &&& 0x3f).toInt64.toUInt64).toInt64) * sp) / (256 : Int64))), .second, .unset] [(.ref b1), (.ref b1)])) (fun _ ks_ => XS.dup X1.here hx rfl (hb hby at_71) rfl rfl ks_) ?_
      refine go (u' := T1.setTop (mkF m 74 #[.val (.long q0), .second, .val (.long q1), .second, .val (.int p2), .val (.int (B (¬ ((p2 &&& (1 : Int32)) = (0 : Int32))))), .val (.long sp), .second, .val (.long re), .second, .val (.long ((re.toUInt64 >>> ((34 : Int32) &&& 0x3f).toInt64.toUInt64).toInt64)), .second, .val (.long ((((re.toUInt64 >>> ((34 : Int32) &&& 0x3f).toInt64.toUInt64).toInt64) * sp) / (256 : Int64))), .second, .unset] [(.long sp), (.ref b1), (.ref b1)])) (fun _ ks_ => XS.lload X1.here hx rfl (hb hby at_72) rfl  ks_) ?_
      obtain ⟨_, _, ⟨T4, L4, k4, n4⟩, -, X4, ⟨Lc4, hQ4, l4, y4, z4⟩, st4⟩ := X1.specialBack hx (y := (⟨"com/example/emberlot/emberlot/EvictedKeys", "<init>", "(J)V"⟩ : MethodName)) rfl hown (mvT hZ (ww hw 6 rfl)) (mvT hZ (ww hw 7 rfl)) (mvT hZ (ww hw 8 rfl)) (by decide) (backOf (W := 1) (rm1 l Z a0 hw [] b1 sp h1 n0 Z1 g_b1 A1 F2 F3) hZ (ww hw 8 rfl) (ww hw 5 rfl) (by decide) (by decide)) (g := (mkF m 74 #[.val (.long q0), .second, .val (.long q1), .second, .val (.int p2), .val (.int (B (¬ ((p2 &&& (1 : Int32)) = (0 : Int32))))), .val (.long sp), .second, .val (.long re), .second, .val (.long ((re.toUInt64 >>> ((34 : Int32) &&& 0x3f).toInt64.toUInt64).toInt64)), .second, .val (.long ((((re.toUInt64 >>> ((34 : Int32) &&& 0x3f).toInt64.toUInt64).toInt64) * sp) / (256 : Int64))), .second, .unset] [(.long sp), (.ref b1), (.ref b1)])) rfl (by rw [hml]; rfl) (Steps.refl _) (a := b1) (argsL := [(.long sp)]) (rest := [(.ref b1)]) (lenOf pd__40_J_41_V rfl) rfl (by show 2 * 0 + _ ≤ _; exact Nat.le_of_eq rfl) (hb hby at_74) (fun _ _ => ⟨rfl, e1, (by decide : 1 + 0 ≤ _), (by decide : 5 + 0 ≤ _)⟩)
      dsimp only [Pt.U, Pt.locs, Pt.cells, Pt.slots] at X4 l4 y4 z4 st4 hQ4
      subst l4 y4 z4
      obtain ⟨rfl, N4q, Kq4, F5, F6, F7⟩ := hQ4
      have N4 := Fr.app N0 N4q
      have K4 : Keep h0 T4.heap [] := K1.trans Kq4 (allS (P := fun x => x ∈ [] ∨ h0.size ≤ x) (Or.inr sz_b1) all0)
      have Z4 : n0 ≤ T4.heap.size := Nat.le_trans Z1 Kq4.1
      have F8 : Exa Z T4.heap b1 "com/example/emberlot/emberlot/EvictedKeys" := A1.keep Kq4
      refine goT (u' := T4.setTop (mkF m 77 #[.val (.long q0), .second, .val (.long q1), .second, .val (.int p2), .val (.int (B (¬ ((p2 &&& (1 : Int32)) = (0 : Int32))))), .val (.long sp), .second, .val (.long re), .second, .val (.long ((re.toUInt64 >>> ((34 : Int32) &&& 0x3f).toInt64.toUInt64).toInt64)), .second, .val (.long ((((re.toUInt64 >>> ((34 : Int32) &&& 0x3f).toInt64.toUInt64).toInt64) * sp) / (256 : Int64))), .second, .unset] [(.ref b1)])) st4 ?_
      refine go (u' := T4.setTop (mkF m 79 #[.val (.long q0), .second, .val (.long q1), .second, .val (.int p2), .val (.int (B (¬ ((p2 &&& (1 : Int32)) = (0 : Int32))))), .val (.long sp), .second, .val (.long re), .second, .val (.long ((re.toUInt64 >>> ((34 : Int32) &&& 0x3f).toInt64.toUInt64).toInt64)), .second, .val (.long ((((re.toUInt64 >>> ((34 : Int32) &&& 0x3f).toInt64.toUInt64).toInt64) * sp) / (256 : Int64))), .second, .val (.ref b1)] [])) (fun _ ks_ => XS.astore X4.here hx rfl (hb hby at_77) rfl rfl (l' := #[.val (.long q0), .second, .val (.long q1), .second, .val (.int p2), .val (.int (B (¬ ((p2 &&& (1 : Int32)) = (0 : Int32))))), .val (.long sp), .second, .val (.long re), .second, .val (.long ((re.toUInt64 >>> ((34 : Int32) &&& 0x3f).toInt64.toUInt64).toInt64)), .second, .val (.long ((((re.toUInt64 >>> ((34 : Int32) &&& 0x3f).toInt64.toUInt64).toInt64) * sp) / (256 : Int64))), .second, .val (.ref b1)]) rfl ks_) ?_
      refine go (u' := T4.setTop (mkF m 81 #[.val (.long q0), .second, .val (.long q1), .second, .val (.int p2), .val (.int (B (¬ ((p2 &&& (1 : Int32)) = (0 : Int32))))), .val (.long sp), .second, .val (.long re), .second, .val (.long ((re.toUInt64 >>> ((34 : Int32) &&& 0x3f).toInt64.toUInt64).toInt64)), .second, .val (.long ((((re.toUInt64 >>> ((34 : Int32) &&& 0x3f).toInt64.toUInt64).toInt64) * sp) / (256 : Int64))), .second, .val (.ref b1)] [(.ref b1)])) (fun _ ks_ => XS.aload X4.here hx rfl (hb hby at_79) rfl rfl ks_) ?_
      refine go (u' := T4.setTop (mkF m 83 #[.val (.long q0), .second, .val (.long q1), .second, .val (.int p2), .val (.int (B (¬ ((p2 &&& (1 : Int32)) = (0 : Int32))))), .val (.long sp), .second, .val (.long re), .second, .val (.long ((re.toUInt64 >>> ((34 : Int32) &&& 0x3f).toInt64.toUInt64).toInt64)), .second, .val (.long ((((re.toUInt64 >>> ((34 : Int32) &&& 0x3f).toInt64.toUInt64).toInt64) * sp) / (256 : Int64))), .second, .val (.ref b1)] [(.long re), (.ref b1)])) (fun _ ks_ => XS.lload X4.here hx rfl (hb hby at_81) rfl  ks_) ?_
      obtain ⟨cq9, kq9, q9a, q9b, q9c⟩ := isOf hZ (rfl : T4.heap = _) F5
      obtain ⟨_, _, ⟨T9, L9, k9, n9⟩, -, X9, ⟨Lc9, hQ9, l9, y9, z9⟩, st9⟩ := X4.virtualBack hx (y := (⟨"com/example/emberlot/emberlot/EvictedKeys", "evictionsSince", "(J)J"⟩ : MethodName)) (z := (⟨"com/example/emberlot/emberlot/EvictedKeys", "evictionsSince", "(J)J"⟩ : MethodName)) hown (mvT hZ (ww hw 22 rfl)) (mvT hZ (ww hw 23 rfl)) (notFace_of_selects (args := #[]) (mvT hZ (ww hw 25 rfl))) (mvT hZ (ww hw 25 rfl)) (mvT hZ (ww hw 24 rfl)) (by decide) (backOf (W := 0) (rm4 l Z a0 hw [] b1 re sp T4.heap n0 Z4 F6) hZ (ww hw 26 rfl) (ww hw 5 rfl) (by decide) (by decide)) q9a q9c (g := (mkF m 83 #[.val (.long q0), .second, .val (.long q1), .second, .val (.int p2), .val (.int (B (¬ ((p2 &&& (1 : Int32)) = (0 : Int32))))), .val (.long sp), .second, .val (.long re), .second, .val (.long ((re.toUInt64 >>> ((34 : Int32) &&& 0x3f).toInt64.toUInt64).toInt64)), .second, .val (.long ((((re.toUInt64 >>> ((34 : Int32) &&& 0x3f).toInt64.toUInt64).toInt64) * sp) / (256 : Int64))), .second, .val (.ref b1)] [(.long re), (.ref b1)])) rfl (by rw [hml]; rfl) (Steps.refl _) (argsL := [(.long re)]) (rest := []) (lenOf pd__40_J_41_J rfl) rfl (by show 2 * 0 + _ ≤ _; exact Nat.le_of_eq rfl) (hb hby at_83) (fun _ _ => ⟨rfl, (rfl : T4.heap = _), (by decide : 1 + 0 ≤ _), (by decide : 5 + 0 ≤ _)⟩)
      dsimp only [Pt.U, Pt.locs, Pt.cells, Pt.slots] at X9 l9 y9 z9 st9 hQ9
      subst l9 y9 z9
      obtain ⟨rfl, N9q, eq9⟩ := hQ9
      have N9 := Fr.app N4 N9q
      refine goT (u' := T9.setTop (mkF m 86 #[.val (.long q0), .second, .val (.long q1), .second, .val (.int p2), .val (.int (B (¬ ((p2 &&& (1 : Int32)) = (0 : Int32))))), .val (.long sp), .second, .val (.long re), .second, .val (.long ((re.toUInt64 >>> ((34 : Int32) &&& 0x3f).toInt64.toUInt64).toInt64)), .second, .val (.long ((((re.toUInt64 >>> ((34 : Int32) &&& 0x3f).toInt64.toUInt64).toInt64) * sp) / (256 : Int64))), .second, .val (.ref b1)] [(.long (own_ev sp re))])) st9 ?_
      refine go (u' := T9.setTop (mkF m 88 #[.val (.long q0), .second, .val (.long q1), .second, .val (.int p2), .val (.int (B (¬ ((p2 &&& (1 : Int32)) = (0 : Int32))))), .val (.long sp), .second, .val (.long re), .second, .val (.long ((re.toUInt64 >>> ((34 : Int32) &&& 0x3f).toInt64.toUInt64).toInt64)), .second, .val (.long ((((re.toUInt64 >>> ((34 : Int32) &&& 0x3f).toInt64.toUInt64).toInt64) * sp) / (256 : Int64))), .second, .val (.ref b1)] [(.long ((((re.toUInt64 >>> ((34 : Int32) &&& 0x3f).toInt64.toUInt64).toInt64) * sp) / (256 : Int64))), (.long (own_ev sp re))])) (fun _ ks_ => XS.lload X9.here hx rfl (hb hby at_86) rfl  ks_) ?_
      refine go (u' := T9.setTop (mkF m 89 #[.val (.long q0), .second, .val (.long q1), .second, .val (.int p2), .val (.int (B (¬ ((p2 &&& (1 : Int32)) = (0 : Int32))))), .val (.long sp), .second, .val (.long re), .second, .val (.long ((re.toUInt64 >>> ((34 : Int32) &&& 0x3f).toInt64.toUInt64).toInt64)), .second, .val (.long ((((re.toUInt64 >>> ((34 : Int32) &&& 0x3f).toInt64.toUInt64).toInt64) * sp) / (256 : Int64))), .second, .val (.ref b1)] [(.int (lcmpW (own_ev sp re) ((((re.toUInt64 >>> ((34 : Int32) &&& 0x3f).toInt64.toUInt64).toInt64) * sp) / (256 : Int64))))])) (fun _ ks_ => XS.lcmp X9.here hx rfl (hb hby at_88) rfl ks_) ?_
      refine go (u' := T9.setTop (mkF m 92 #[.val (.long q0), .second, .val (.long q1), .second, .val (.int p2), .val (.int (B (¬ ((p2 &&& (1 : Int32)) = (0 : Int32))))), .val (.long sp), .second, .val (.long re), .second, .val (.long ((re.toUInt64 >>> ((34 : Int32) &&& 0x3f).toInt64.toUInt64).toInt64)), .second, .val (.long ((((re.toUInt64 >>> ((34 : Int32) &&& 0x3f).toInt64.toUInt64).toInt64) * sp) / (256 : Int64))), .second, .val (.ref b1)] [])) (fun _ ks_ => XS.ifNo X9.here hx rfl (hb hby at_89) rfl (lTe (show (own_ev sp re) = ((((re.toUInt64 >>> ((34 : Int32) &&& 0x3f).toInt64.toUInt64).toInt64) * sp) / (256 : Int64)) from (own_law q0 q1 p2 sp re hsp hre))).2 ks_) ?_
      refine go (u' := T9.setTop (mkF m 93 #[.val (.long q0), .second, .val (.long q1), .second, .val (.int p2), .val (.int (B (¬ ((p2 &&& (1 : Int32)) = (0 : Int32))))), .val (.long sp), .second, .val (.long re), .second, .val (.long ((re.toUInt64 >>> ((34 : Int32) &&& 0x3f).toInt64.toUInt64).toInt64)), .second, .val (.long ((((re.toUInt64 >>> ((34 : Int32) &&& 0x3f).toInt64.toUInt64).toInt64) * sp) / (256 : Int64))), .second, .val (.ref b1)] [(.int (1 : Int32))])) (fun _ ks_ => XS.iconst X9.here hx rfl (hb hby at_92) ks_) ?_
      refine go (u' := T9.setTop (mkF m 97 #[.val (.long q0), .second, .val (.long q1), .second, .val (.int p2), .val (.int (B (¬ ((p2 &&& (1 : Int32)) = (0 : Int32))))), .val (.long sp), .second, .val (.long re), .second, .val (.long ((re.toUInt64 >>> ((34 : Int32) &&& 0x3f).toInt64.toUInt64).toInt64)), .second, .val (.long ((((re.toUInt64 >>> ((34 : Int32) &&& 0x3f).toInt64.toUInt64).toInt64) * sp) / (256 : Int64))), .second, .val (.ref b1)] [(.int (1 : Int32))])) (fun _ ks_ => XS.goto X9.here hx rfl (pc0 := 93) (pc' := 97) rfl (hb hby at_93) (by decide) (by decide) ks_) ?_
      rw [hG]
      refine gN X9 hx hlk (t := .boolean) hret (by simp) rfl (hb hby at_97) ?_ (Nat.le_of_ble_eq_true rfl) (Nat.le_of_ble_eq_true rfl)
      show Q_rm0 Z q0 q1 p2 h0 n0 (some (.int (1 : Int32))) T9.heap _
      rw [eq9]
      exact ⟨rfl, N9⟩
    by_cases c16_1 : (¬ ((p2 &&& (1 : Int32)) = (0 : Int32)))
    ·
      refine go (u' := s₁.setTop (mkF m 19 #[.val (.long q0), .second, .val (.long q1), .second, .val (.int p2), .val (.int (B (¬ ((p2 &&& (1 : Int32)) = (0 : Int32))))), .unset, .unset, .unset, .unset, .unset, .unset, .unset, .unset, .unset] [])) (fun _ ks_ => XS.ifNo X0.here hx rfl (hb hby at_16) rfl (bT c16_1).2 ks_) ?_
      refine go (u' := s₁.setTop (mkF m 20 #[.val (.long q0), .second, .val (.long q1), .second, .val (.int p2), .val (.int (B (¬ ((p2 &&& (1 : Int32)) = (0 : Int32))))), .unset, .unset, .unset, .unset, .unset, .unset, .unset, .unset, .unset] [(.long q1)])) (fun _ ks_ => XS.lloadN X0.here hx rfl (hb hby at_19) rfl  ks_) ?_
      refine go (u' := s₁.setTop (mkF m 23 #[.val (.long q0), .second, .val (.long q1), .second, .val (.int p2), .val (.int (B (¬ ((p2 &&& (1 : Int32)) = (0 : Int32))))), .unset, .unset, .unset, .unset, .unset, .unset, .unset, .unset, .unset] [(.long (8589934591 : Int64)), (.long q1)])) (X0.ldc2Long hx hown (mvT hZ (ww hw 28 rfl)) (g := (mkF m 20 #[.val (.long q0), .second, .val (.long q1), .second, .val (.int p2), .val (.int (B (¬ ((p2 &&& (1 : Int32)) = (0 : Int32))))), .unset, .unset, .unset, .unset, .unset, .unset, .unset, .unset, .unset] [(.long q1)])) rfl (hb hby at_20)) ?_
      refine go (u' := s₁.setTop (mkF m 24 #[.val (.long q0), .second, .val (.long q1), .second, .val (.int p2), .val (.int (B (¬ ((p2 &&& (1 : Int32)) = (0 : Int32))))), .unset, .unset, .unset, .unset, .unset, .unset, .unset, .unset, .unset] [(.long (q1 &&& (8589934591 : Int64)))])) (fun _ ks_ => XS.land X0.here hx rfl (hb hby at_23) rfl ks_) ?_
      refine go (u' := s₁.setTop (mkF m 25 #[.val (.long q0), .second, .val (.long q1), .second, .val (.int p2), .val (.int (B (¬ ((p2 &&& (1 : Int32)) = (0 : Int32))))), .unset, .unset, .unset, .unset, .unset, .unset, .unset, .unset, .unset] [(.long (1 : Int64)), (.long (q1 &&& (8589934591 : Int64)))])) (fun _ ks_ => XS.lconst X0.here hx rfl (hb hby at_24) ks_) ?_
      refine go (u' := s₁.setTop (mkF m 26 #[.val (.long q0), .second, .val (.long q1), .second, .val (.int p2), .val (.int (B (¬ ((p2 &&& (1 : Int32)) = (0 : Int32))))), .unset, .unset, .unset, .unset, .unset, .unset, .unset, .unset, .unset] [(.long ((q1 &&& (8589934591 : Int64)) + (1 : Int64)))])) (fun _ ks_ => XS.ladd X0.here hx rfl (hb hby at_25) rfl ks_) ?_
      refine go (u' := s₁.setTop (mkF m 28 #[.val (.long q0), .second, .val (.long q1), .second, .val (.int p2), .val (.int (B (¬ ((p2 &&& (1 : Int32)) = (0 : Int32))))), .val (.long ((q1 &&& (8589934591 : Int64)) + (1 : Int64))), .second, .unset, .unset, .unset, .unset, .unset, .unset, .unset] [])) (fun _ ks_ => XS.lstore X0.here hx rfl (hb hby at_26) rfl  (l' := #[.val (.long q0), .second, .val (.long q1), .second, .val (.int p2), .val (.int (B (¬ ((p2 &&& (1 : Int32)) = (0 : Int32))))), .val (.long ((q1 &&& (8589934591 : Int64)) + (1 : Int64))), .second, .unset, .unset, .unset, .unset, .unset, .unset, .unset]) rfl ks_) ?_
      refine go (u' := s₁.setTop (mkF m 29 #[.val (.long q0), .second, .val (.long q1), .second, .val (.int p2), .val (.int (B (¬ ((p2 &&& (1 : Int32)) = (0 : Int32))))), .val (.long ((q1 &&& (8589934591 : Int64)) + (1 : Int64))), .second, .unset, .unset, .unset, .unset, .unset, .unset, .unset] [(.long q0)])) (fun _ ks_ => XS.lloadN X0.here hx rfl (hb hby at_28) rfl  ks_) ?_
      refine go (u' := s₁.setTop (mkF m 31 #[.val (.long q0), .second, .val (.long q1), .second, .val (.int p2), .val (.int (B (¬ ((p2 &&& (1 : Int32)) = (0 : Int32))))), .val (.long ((q1 &&& (8589934591 : Int64)) + (1 : Int64))), .second, .val (.long q0), .second, .unset, .unset, .unset, .unset, .unset] [])) (fun _ ks_ => XS.lstore X0.here hx rfl (hb hby at_29) rfl  (l' := #[.val (.long q0), .second, .val (.long q1), .second, .val (.int p2), .val (.int (B (¬ ((p2 &&& (1 : Int32)) = (0 : Int32))))), .val (.long ((q1 &&& (8589934591 : Int64)) + (1 : Int64))), .second, .val (.long q0), .second, .unset, .unset, .unset, .unset, .unset]) rfl ks_) ?_
      refine go (u' := s₁.setTop (mkF m 50 #[.val (.long q0), .second, .val (.long q1), .second, .val (.int p2), .val (.int (B (¬ ((p2 &&& (1 : Int32)) = (0 : Int32))))), .val (.long ((q1 &&& (8589934591 : Int64)) + (1 : Int64))), .second, .val (.long q0), .second, .unset, .unset, .unset, .unset, .unset] [])) (fun _ ks_ => XS.goto X0.here hx rfl (pc0 := 31) (pc' := 50) rfl (hb hby at_31) (by decide) (by decide) ks_) ?_
      exact J50_2 _ _ ((if_pos c16_1)).symm ((if_pos c16_1)).symm
    ·
      refine go (u' := s₁.setTop (mkF m 34 #[.val (.long q0), .second, .val (.long q1), .second, .val (.int p2), .val (.int (B (¬ ((p2 &&& (1 : Int32)) = (0 : Int32))))), .unset, .unset, .unset, .unset, .unset, .unset, .unset, .unset, .unset] [])) (fun _ ks_ => XS.ifYes X0.here hx rfl (pc0 := 16) (pc' := 34) rfl (hb hby at_16) rfl (bF c16_1).2 (by decide) (by decide) ks_) ?_
      refine go (u' := s₁.setTop (mkF m 35 #[.val (.long q0), .second, .val (.long q1), .second, .val (.int p2), .val (.int (B (¬ ((p2 &&& (1 : Int32)) = (0 : Int32))))), .unset, .unset, .unset, .unset, .unset, .unset, .unset, .unset, .unset] [(.long q1)])) (fun _ ks_ => XS.lloadN X0.here hx rfl (hb hby at_34) rfl  ks_) ?_
      refine go (u' := s₁.setTop (mkF m 38 #[.val (.long q0), .second, .val (.long q1), .second, .val (.int p2), .val (.int (B (¬ ((p2 &&& (1 : Int32)) = (0 : Int32))))), .unset, .unset, .unset, .unset, .unset, .unset, .unset, .unset, .unset] [(.long (18014398509481983 : Int64)), (.long q1)])) (X0.ldc2Long hx hown (mvT hZ (ww hw 0 rfl)) (g := (mkF m 35 #[.val (.long q0), .second, .val (.long q1), .second, .val (.int p2), .val (.int (B (¬ ((p2 &&& (1 : Int32)) = (0 : Int32))))), .unset, .unset, .unset, .unset, .unset, .unset, .unset, .unset, .unset] [(.long q1)])) rfl (hb hby at_35)) ?_
      refine go (u' := s₁.setTop (mkF m 39 #[.val (.long q0), .second, .val (.long q1), .second, .val (.int p2), .val (.int (B (¬ ((p2 &&& (1 : Int32)) = (0 : Int32))))), .unset, .unset, .unset, .unset, .unset, .unset, .unset, .unset, .unset] [(.long (q1 &&& (18014398509481983 : Int64)))])) (fun _ ks_ => XS.land X0.here hx rfl (hb hby at_38) rfl ks_) ?_
      refine go (u' := s₁.setTop (mkF m 40 #[.val (.long q0), .second, .val (.long q1), .second, .val (.int p2), .val (.int (B (¬ ((p2 &&& (1 : Int32)) = (0 : Int32))))), .unset, .unset, .unset, .unset, .unset, .unset, .unset, .unset, .unset] [(.long (1 : Int64)), (.long (q1 &&& (18014398509481983 : Int64)))])) (fun _ ks_ => XS.lconst X0.here hx rfl (hb hby at_39) ks_) ?_
      refine go (u' := s₁.setTop (mkF m 41 #[.val (.long q0), .second, .val (.long q1), .second, .val (.int p2), .val (.int (B (¬ ((p2 &&& (1 : Int32)) = (0 : Int32))))), .unset, .unset, .unset, .unset, .unset, .unset, .unset, .unset, .unset] [(.long ((q1 &&& (18014398509481983 : Int64)) + (1 : Int64)))])) (fun _ ks_ => XS.ladd X0.here hx rfl (hb hby at_40) rfl ks_) ?_
      refine go (u' := s₁.setTop (mkF m 43 #[.val (.long q0), .second, .val (.long q1), .second, .val (.int p2), .val (.int (B (¬ ((p2 &&& (1 : Int32)) = (0 : Int32))))), .val (.long ((q1 &&& (18014398509481983 : Int64)) + (1 : Int64))), .second, .unset, .unset, .unset, .unset, .unset, .unset, .unset] [])) (fun _ ks_ => XS.lstore X0.here hx rfl (hb hby at_41) rfl  (l' := #[.val (.long q0), .second, .val (.long q1), .second, .val (.int p2), .val (.int (B (¬ ((p2 &&& (1 : Int32)) = (0 : Int32))))), .val (.long ((q1 &&& (18014398509481983 : Int64)) + (1 : Int64))), .second, .unset, .unset, .unset, .unset, .unset, .unset, .unset]) rfl ks_) ?_
      refine go (u' := s₁.setTop (mkF m 44 #[.val (.long q0), .second, .val (.long q1), .second, .val (.int p2), .val (.int (B (¬ ((p2 &&& (1 : Int32)) = (0 : Int32))))), .val (.long ((q1 &&& (18014398509481983 : Int64)) + (1 : Int64))), .second, .unset, .unset, .unset, .unset, .unset, .unset, .unset] [(.long q0)])) (fun _ ks_ => XS.lloadN X0.here hx rfl (hb hby at_43) rfl  ks_) ?_
      refine go (u' := s₁.setTop (mkF m 47 #[.val (.long q0), .second, .val (.long q1), .second, .val (.int p2), .val (.int (B (¬ ((p2 &&& (1 : Int32)) = (0 : Int32))))), .val (.long ((q1 &&& (18014398509481983 : Int64)) + (1 : Int64))), .second, .unset, .unset, .unset, .unset, .unset, .unset, .unset] [(.long (8796093022207 : Int64)), (.long q0)])) (X0.ldc2Long hx hown (mvT hZ (ww hw 1 rfl)) (g := (mkF m 44 #[.val (.long q0), .second, .val (.long q1), .second, .val (.int p2), .val (.int (B (¬ ((p2 &&& (1 : Int32)) = (0 : Int32))))), .val (.long ((q1 &&& (18014398509481983 : Int64)) + (1 : Int64))), .second, .unset, .unset, .unset, .unset, .unset, .unset, .unset] [(.long q0)])) rfl (hb hby at_44)) ?_
      refine go (u' := s₁.setTop (mkF m 48 #[.val (.long q0), .second, .val (.long q1), .second, .val (.int p2), .val (.int (B (¬ ((p2 &&& (1 : Int32)) = (0 : Int32))))), .val (.long ((q1 &&& (18014398509481983 : Int64)) + (1 : Int64))), .second, .unset, .unset, .unset, .unset, .unset, .unset, .unset] [(.long (q0 &&& (8796093022207 : Int64)))])) (fun _ ks_ => XS.land X0.here hx rfl (hb hby at_47) rfl ks_) ?_
      refine go (u' := s₁.setTop (mkF m 50 #[.val (.long q0), .second, .val (.long q1), .second, .val (.int p2), .val (.int (B (¬ ((p2 &&& (1 : Int32)) = (0 : Int32))))), .val (.long ((q1 &&& (18014398509481983 : Int64)) + (1 : Int64))), .second, .val (.long (q0 &&& (8796093022207 : Int64))), .second, .unset, .unset, .unset, .unset, .unset] [])) (fun _ ks_ => XS.lstore X0.here hx rfl (hb hby at_48) rfl  (l' := #[.val (.long q0), .second, .val (.long q1), .second, .val (.int p2), .val (.int (B (¬ ((p2 &&& (1 : Int32)) = (0 : Int32))))), .val (.long ((q1 &&& (18014398509481983 : Int64)) + (1 : Int64))), .second, .val (.long (q0 &&& (8796093022207 : Int64))), .second, .unset, .unset, .unset, .unset, .unset]) rfl ks_) ?_
      exact J50_2 _ _ ((if_neg c16_1)).symm ((if_neg c16_1)).symm
  by_cases c4_2 : (p2 &&& (1 : Int32)) = (0 : Int32)
  ·
    refine go (u' := s₁.setTop (mkF m 11 #[.val (.long q0), .second, .val (.long q1), .second, .val (.int p2), .unset, .unset, .unset, .unset, .unset, .unset, .unset, .unset, .unset, .unset] [])) (fun _ ks_ => XS.ifYes X0.here hx rfl (pc0 := 4) (pc' := 11) rfl (hb hby at_4) rfl ((if0 _ _).trans (teq c4_2).1) (by decide) (by decide) ks_) ?_
    refine go (u' := s₁.setTop (mkF m 12 #[.val (.long q0), .second, .val (.long q1), .second, .val (.int p2), .unset, .unset, .unset, .unset, .unset, .unset, .unset, .unset, .unset, .unset] [(.int (0 : Int32))])) (fun _ ks_ => XS.iconst X0.here hx rfl (hb hby at_11) ks_) ?_
    exact J12_1 _ (B0 (fun q => q c4_2))
  ·
    refine go (u' := s₁.setTop (mkF m 7 #[.val (.long q0), .second, .val (.long q1), .second, .val (.int p2), .unset, .unset, .unset, .unset, .unset, .unset, .unset, .unset, .unset, .unset] [])) (fun _ ks_ => XS.ifNo X0.here hx rfl (hb hby at_4) rfl ((if0 _ _).trans (feq c4_2).1) ks_) ?_
    refine go (u' := s₁.setTop (mkF m 8 #[.val (.long q0), .second, .val (.long q1), .second, .val (.int p2), .unset, .unset, .unset, .unset, .unset, .unset, .unset, .unset, .unset, .unset] [(.int (1 : Int32))])) (fun _ ks_ => XS.iconst X0.here hx rfl (hb hby at_7) ks_) ?_
    refine go (u' := s₁.setTop (mkF m 12 #[.val (.long q0), .second, .val (.long q1), .second, .val (.int p2), .unset, .unset, .unset, .unset, .unset, .unset, .unset, .unset, .unset, .unset] [(.int (1 : Int32))])) (fun _ ks_ => XS.goto X0.here hx rfl (pc0 := 8) (pc' := 12) rfl (hb hby at_8) (by decide) (by decide) ks_) ?_
    exact J12_1 _ (B1 c4_2)
set_option maxRecDepth 65536 in
set_option maxHeartbeats 40000000 in
theorem comes_1 {Post : Tables → Env → Array Value → State → Outcome → State → Prop} (hpost : ∀ tb e args s v u, (limb_1_1.after args s (.returned v) u = true ∧ limb_1_2.after args s (.returned v) u = true ∧ True) → FrameEnd s (.returned v) u (Jvm.fieldLocs frame_1_writes args s ++ Jvm.arrayLocs frame_1_arrays args s ++ Jvm.staticLocs frame_1_statics s) 16 128 → Post tb e args s (.returned v) u) :
    ArmFor flags0 classFile x code maxLocals ret World_1 tables_1 room_1 Calls_1 rest_1 Pre_1 Post := by
  intro l hfl _ _ p e ha hc hk s m args below hf hA hF happ hP
  obtain ⟨hcalls, hrest, hpre⟩ := hP
  obtain ⟨-, -, -, hnamed, -, -, -, hat⟩ := (Spec.applies_iff hf).mp happ
  obtain ⟨hg, hn⟩ := and_e (Cond.before_iff.mp (show (Jvm.Cond.and given_1 narrow_1).before args s = true from hpre))
  obtain ⟨hcount, r0⟩ := and_e hg
  obtain ⟨a0, r1⟩ := and_e r0
  obtain ⟨a1, r2⟩ := and_e r1
  obtain ⟨w0, w1, w2, rfl⟩ : ∃ w0 w1 w2 : Value, args = #[w0, w1, w2] := by
    have hs : args.size = 3 := by simpa [Cond.value, given_1] using hcount
    obtain ⟨L⟩ := args
    match L, hs with
    | [w0, w1, w2], _ => exact ⟨w0, w1, w2, rfl⟩
  have hw := fun d (hd : d ∈ tables_1) => atoms_spec (ws := Jvm.Cond.code x code maxLocals ret :: tables_1) hat d (List.mem_cons_of_mem _ hd)
  have hfit : Fit s := fun {y c} hc i hi => by
    obtain ⟨ha, rfl⟩ := Array.getElem?_eq_some_iff.mp hc
    have q := List.all_eq_true.mp ((Array.all_eq_true_iff_forall_mem.mp hF) _ (Array.getElem_mem ha)) i (List.mem_range.mpr hi)
    simpa [Array.getElem?_eq_getElem hi] using q
  obtain ⟨x0, e0⟩ := isL_v a0
  obtain rfl : w0 = (.long x0) := Option.some.inj e0
  obtain ⟨x1, e1⟩ := isL_v a1
  obtain rfl : w1 = (.long x1) := Option.some.inj e1
  obtain ⟨x2, e2⟩ := is_v r2
  obtain rfl : w2 = (.int x2) := Option.some.inj e2
  obtain ⟨n, o, h1, h2, h3, _, L, rfl, ⟨rfl, N⟩, hq⟩ := rm0 l s _ hw tables_1 x0 x1 x2 s.heap s.heap.size (Nat.le_refl _)  p e ha hc hk s m _ below hf ((Spec.applies_iff_loose hf).mp happ).1 ⟨rfl, State.Warmed39.refl s, rfl⟩ trivial
  refine ⟨n, _, h1, h2, h3, hpost _ _ _ _ _ _ ⟨Cond.after_iff.mpr rfl, Cond.after_iff.mpr (eq_i res_at (Term.int_eval (1)) rfl), trivial⟩ ⟨hq.1, hq.2.1, (hq.2.2.sift fun y hy => Or.inr (N y hy)).mono (by decide) (by decide)⟩⟩
theorem main_1_1 : Claimed_1_1 := comes_1 fun _ _ _ _ _ _ h hF => ⟨h.1, hF⟩
theorem main_1_2 : Claimed_1_2 := comes_1 fun _ _ _ _ _ _ h hF => ⟨h.2.1, hF⟩
end Jvm.Pilot.@@N@@
namespace Jvm.Pilot.@@N@@
open Jvm Jvm.ClassFile Sem Op Lib Jvm.Free Jvm.Stand Jvm.Pilot.@@N@@.Jvm.D
/-! MADE BY PROGRAM (witnessworld.py) out of the Statement's table words and the real class files: 10 classes; the members and pool entries that the words name. The judged class is class 1, her method 1. -/
namespace start1
open Jvm.ClassFile
def u (s : String) : CpInfo := .utf8 (stringToUtf16 s)
/-- a pool by its gaps: so many unusable entries, then the entry; so many at the end -/
def gap : Nat → List CpInfo → List CpInfo
  | 0, r => r
  | n + 1, r => .unusable :: gap n r
def poolList (es : List (Nat × CpInfo)) (last : Nat) : List CpInfo := es.foldr (fun e r => gap e.1 (e.2 :: r)) (gap last [])
def pool (es : List (Nat × CpInfo)) (last : Nat) : Array CpInfo := ⟨poolList es last⟩
def fileOf (pool : Array CpInfo) (this : Nat) (attrs : Array Attribute := #[]) (ms : Array MethodInfo := #[]) (fl : Nat := 33) (sup : Nat := 0) (ifs : Array Nat := #[]) (fds : Array FieldInfo := #[]) : ClassFile where
  minorVersion := 0
  majorVersion := 65
  constantPool := pool
  accessFlags := fl
  thisClass := this
  superClass := sup
  interfaces := ifs
  fields := fds
  methods := ms
  attributes := attrs
def plain (name : String) (sup : Option ClassId) : Class where
  name := name
  kind := .ordinary
  loader := none
  accessFlags := 33
  super := sup
  interfaces := #[]
  cf := none
  fields := #[]
  methods := #[]
  instanceTypes := #[]
  staticTypes := #[]
  resolved := #[]
  callSites := []
  init := .initialized
  statics := none
  mirror := none

def pool0 : Array CpInfo := pool [(5, u "<init>"), (0, u "()V"), (1, .class_ 10), (1, u "java/lang/Object")] 113

def k0c0 : Code := { maxStack := 0, maxLocals := 1, code := object_method_1_code, exceptionTable := #[], attributes := #[] }
def k0m0 : Method := { name := "<init>", desc := "()V", sig := { parameters := [], returnType := none }, accessFlags := 1, code := some k0c0 }
/-- java/lang/Object -/
def k0 : Class := { plain "java/lang/Object" none with
  accessFlags := 33
  interfaces := #[]
  cf := some (fileOf pool0 8 #[] #[{ accessFlags := 1, nameIndex := 5, descriptorIndex := 6, attributes := #[] }] 33 0 #[] #[])
  fields := #[]
  methods := #[k0m0]
  instanceTypes := #[]
  staticTypes := #[]
  resolved := Array.replicate 124 none
  statics := none }

def pool1 : Array CpInfo := pool [(2, .class_ 4), (1, u "java/lang/Object"), (0, u "<init>"), (0, u "()V"), (0, .long 8589934591), (1, .long 18014398509481983), (1, .long 8796093022207), (1, .long 256), (1, .class_ 16), (0, u "com/example/emberlot/emberlot/EvictedKeys"), (0, .methodref 15 18), (0, .nameAndType 5 19), (0, u "(J)V"), (0, .methodref 15 21), (0, .nameAndType 22 23), (0, u "evictionsSince"), (0, u "(J)J"), (0, .class_ 25), (0, u "com/example/emberlot/emberlot/EvictedKeysEvictionsSincePinLaw"), (2, u "law"), (0, u "(JJI)Z")] 3

def k1m0 : Method := { name := "<init>", desc := "()V", sig := { parameters := [], returnType := none }, accessFlags := 1, code := none }
def k1c1 : Code := { maxStack := 4, maxLocals := 15, code := code, exceptionTable := #[], attributes := #[] }
def k1m1 : Method := { name := "law", desc := "(JJI)Z", sig := { parameters := [.long, .long, .int], returnType := some .boolean }, accessFlags := 9, code := some k1c1 }
/-- com/example/emberlot/emberlot/EvictedKeysEvictionsSincePinLaw -/
def k1 : Class := { plain "com/example/emberlot/emberlot/EvictedKeysEvictionsSincePinLaw" (some 0) with
  accessFlags := 49
  interfaces := #[]
  cf := some (fileOf pool1 24 #[] #[{ accessFlags := 1, nameIndex := 5, descriptorIndex := 6, attributes := #[] }, { accessFlags := 9, nameIndex := 28, descriptorIndex := 29, attributes := #[] }] 49 2 #[] #[])
  fields := #[]
  methods := #[k1m0, k1m1]
  instanceTypes := #[]
  staticTypes := #[]
  resolved := Array.replicate 33 none
  statics := none }

def pool2 : Array CpInfo := pool [(3, .class_ 4), (0, u "com/example/emberlot/emberlot/EvictedKeys"), (0, .methodref 6 7), (0, .class_ 8), (0, .nameAndType 9 10), (0, u "java/lang/Object"), (0, u "<init>"), (0, u "()V"), (0, .fieldref 3 12), (0, .nameAndType 13 14), (0, u "span"), (0, u "J"), (0, .long 4), (1, .long 268435454), (1, .methodref 20 21), (0, .class_ 22), (0, .nameAndType 23 24), (0, u "java/lang/Math"), (0, u "min"), (0, u "(JJ)J"), (0, .fieldref 3 26), (0, .nameAndType 27 28), (0, u "buckets"), (0, u "I"), (2, u "current"), (0, u "[J"), (2, u "previous"), (34, u "added"), (6, .long 256), (1, u "UNKNOWN"), (3, u "MAX_FINDS"), (1, u "SLOTS"), (1, u "KEYS_PER_BUCKET"), (0, u "MAX_BUCKETS"), (1, u "STAMPS"), (1, u "STAMP_SHIFT"), (1, u "STAMP_MASK"), (1, u "FINDS_SHIFT"), (1, u "FINDS_MASK"), (1, u "STATE_MASK"), (1, u "FREE"), (1, u "TURNED_AWAY"), (1, u "SPENT"), (0, u "EVICTED"), (0, u "(J)V"), (10, u "evictionsSince"), (0, u "(J)J")] 2

def k2c0 : Code := { maxStack := 5, maxLocals := 3, code := prog_15_method_1_code, exceptionTable := #[], attributes := #[] }
def k2m0 : Method := { name := "<init>", desc := "(J)V", sig := { parameters := [.long], returnType := none }, accessFlags := 0, code := some k2c0 }
def k2c1 : Code := { maxStack := 8, maxLocals := 5, code := prog_15_method_6_code, exceptionTable := #[], attributes := #[] }
def k2m1 : Method := { name := "evictionsSince", desc := "(J)J", sig := { parameters := [.long], returnType := some .long }, accessFlags := 0, code := some k2c1 }
/-- com/example/emberlot/emberlot/EvictedKeys -/
def k2 : Class := { plain "com/example/emberlot/emberlot/EvictedKeys" (some 0) with
  accessFlags := 48
  interfaces := #[]
  cf := some (fileOf pool2 3 #[] #[{ accessFlags := 0, nameIndex := 9, descriptorIndex := 108, attributes := #[] }, { accessFlags := 0, nameIndex := 119, descriptorIndex := 120, attributes := #[] }] 48 6 #[] #[{ accessFlags := 24, nameIndex := 79, descriptorIndex := 14, attributes := #[] }, { accessFlags := 24, nameIndex := 83, descriptorIndex := 28, attributes := #[] }, { accessFlags := 26, nameIndex := 85, descriptorIndex := 28, attributes := #[] }, { accessFlags := 26, nameIndex := 87, descriptorIndex := 28, attributes := #[] }, { accessFlags := 26, nameIndex := 88, descriptorIndex := 28, attributes := #[] }, { accessFlags := 26, nameIndex := 90, descriptorIndex := 28, attributes := #[] }, { accessFlags := 26, nameIndex := 92, descriptorIndex := 28, attributes := #[] }, { accessFlags := 26, nameIndex := 94, descriptorIndex := 28, attributes := #[] }, { accessFlags := 26, nameIndex := 96, descriptorIndex := 28, attributes := #[] }, { accessFlags := 26, nameIndex := 98, descriptorIndex := 28, attributes := #[] }, { accessFlags := 26, nameIndex := 100, descriptorIndex := 28, attributes := #[] }, { accessFlags := 26, nameIndex := 102, descriptorIndex := 28, attributes := #[] }, { accessFlags := 26, nameIndex := 104, descriptorIndex := 28, attributes := #[] }, { accessFlags := 26, nameIndex := 106, descriptorIndex := 28, attributes := #[] }, { accessFlags := 26, nameIndex := 107, descriptorIndex := 28, attributes := #[] }, { accessFlags := 18, nameIndex := 13, descriptorIndex := 14, attributes := #[] }, { accessFlags := 18, nameIndex := 27, descriptorIndex := 28, attributes := #[] }, { accessFlags := 2, nameIndex := 31, descriptorIndex := 32, attributes := #[] }, { accessFlags := 2, nameIndex := 35, descriptorIndex := 32, attributes := #[] }, { accessFlags := 2, nameIndex := 70, descriptorIndex := 14, attributes := #[] }])
  fields := #[{ name := "UNKNOWN", type := .long, accessFlags := 24, slot := 0, constantValue := 0 }, { name := "MAX_FINDS", type := .int, accessFlags := 24, slot := 1, constantValue := 0 }, { name := "SLOTS", type := .int, accessFlags := 26, slot := 2, constantValue := 0 }, { name := "KEYS_PER_BUCKET", type := .int, accessFlags := 26, slot := 3, constantValue := 0 }, { name := "MAX_BUCKETS", type := .int, accessFlags := 26, slot := 4, constantValue := 0 }, { name := "STAMPS", type := .int, accessFlags := 26, slot := 5, constantValue := 0 }, { name := "STAMP_SHIFT", type := .int, accessFlags := 26, slot := 6, constantValue := 0 }, { name := "STAMP_MASK", type := .int, accessFlags := 26, slot := 7, constantValue := 0 }, { name := "FINDS_SHIFT", type := .int, accessFlags := 26, slot := 8, constantValue := 0 }, { name := "FINDS_MASK", type := .int, accessFlags := 26, slot := 9, constantValue := 0 }, { name := "STATE_MASK", type := .int, accessFlags := 26, slot := 10, constantValue := 0 }, { name := "FREE", type := .int, accessFlags := 26, slot := 11, constantValue := 0 }, { name := "TURNED_AWAY", type := .int, accessFlags := 26, slot := 12, constantValue := 0 }, { name := "SPENT", type := .int, accessFlags := 26, slot := 13, constantValue := 0 }, { name := "EVICTED", type := .int, accessFlags := 26, slot := 14, constantValue := 0 }, { name := "span", type := .long, accessFlags := 18, slot := 0, constantValue := 0 }, { name := "buckets", type := .int, accessFlags := 18, slot := 1, constantValue := 0 }, { name := "current", type := (.array .long), accessFlags := 2, slot := 2, constantValue := 0 }, { name := "previous", type := (.array .long), accessFlags := 2, slot := 3, constantValue := 0 }, { name := "added", type := .long, accessFlags := 2, slot := 4, constantValue := 0 }]
  methods := #[k2m0, k2m1]
  instanceTypes := #[.long, .int, (.array .long), (.array .long), .long]
  staticTypes := #[.long, .int, .int, .int, .int, .int, .int, .int, .int, .int, .int, .int, .int, .int, .int]
  resolved := Array.replicate 123 none
  statics := none }

def pool3 : Array CpInfo := pool [(1, .class_ 2), (0, u "java/lang/Math"), (1, .class_ 6), (1, u "java/lang/Object"), (0, u "<init>"), (0, u "()V"), (89, .class_ 100), (1, u "java/lang/Math$RandomNumberGeneratorHolder"), (20, u "(JJ)J"), (50, u "negativeZeroFloatBits"), (0, u "J"), (2, u "negativeZeroDoubleBits"), (24, u "min"), (43, u "$assertionsDisabled"), (0, u "Z"), (91, u "twoToTheDoubleScaleDown"), (0, u "D"), (4, u "twoToTheDoubleScaleUp"), (9, u "E"), (3, u "PI"), (2, u "TAU"), (2, u "DEGREES_TO_RADIANS"), (0, u "RADIANS_TO_DEGREES")] 94

def k3m0 : Method := { name := "<init>", desc := "()V", sig := { parameters := [], returnType := none }, accessFlags := 2, code := none }
def k3c1 : Code := { maxStack := 4, maxLocals := 4, code := jdk_29_method_70_code, exceptionTable := #[], attributes := #[] }
def k3m1 : Method := { name := "min", desc := "(JJ)J", sig := { parameters := [.long, .long], returnType := some .long }, accessFlags := 9, code := some k3c1 }
/-- java/lang/Math -/
def k3 : Class := { plain "java/lang/Math" (some 0) with
  accessFlags := 49
  interfaces := #[]
  cf := some (fileOf pool3 1 #[.nestMembers #[98]] #[{ accessFlags := 2, nameIndex := 7, descriptorIndex := 8, attributes := #[] }, { accessFlags := 9, nameIndex := 201, descriptorIndex := 121, attributes := #[] }] 49 4 #[] #[{ accessFlags := 25, nameIndex := 354, descriptorIndex := 339, attributes := #[] }, { accessFlags := 25, nameIndex := 358, descriptorIndex := 339, attributes := #[] }, { accessFlags := 25, nameIndex := 361, descriptorIndex := 339, attributes := #[] }, { accessFlags := 26, nameIndex := 364, descriptorIndex := 339, attributes := #[] }, { accessFlags := 26, nameIndex := 365, descriptorIndex := 339, attributes := #[] }, { accessFlags := 26, nameIndex := 172, descriptorIndex := 173, attributes := #[] }, { accessFlags := 26, nameIndex := 176, descriptorIndex := 173, attributes := #[] }, { accessFlags := 8, nameIndex := 344, descriptorIndex := 339, attributes := #[] }, { accessFlags := 8, nameIndex := 338, descriptorIndex := 339, attributes := #[] }, { accessFlags := 4120, nameIndex := 245, descriptorIndex := 246, attributes := #[] }])
  fields := #[{ name := "E", type := .double, accessFlags := 25, slot := 0, constantValue := 0 }, { name := "PI", type := .double, accessFlags := 25, slot := 1, constantValue := 0 }, { name := "TAU", type := .double, accessFlags := 25, slot := 2, constantValue := 0 }, { name := "DEGREES_TO_RADIANS", type := .double, accessFlags := 26, slot := 3, constantValue := 0 }, { name := "RADIANS_TO_DEGREES", type := .double, accessFlags := 26, slot := 4, constantValue := 0 }, { name := "negativeZeroFloatBits", type := .long, accessFlags := 26, slot := 5, constantValue := 0 }, { name := "negativeZeroDoubleBits", type := .long, accessFlags := 26, slot := 6, constantValue := 0 }, { name := "twoToTheDoubleScaleUp", type := .double, accessFlags := 8, slot := 7, constantValue := 0 }, { name := "twoToTheDoubleScaleDown", type := .double, accessFlags := 8, slot := 8, constantValue := 0 }, { name := "$assertionsDisabled", type := .boolean, accessFlags := 4120, slot := 9, constantValue := 0 }]
  methods := #[k3m0, k3m1]
  instanceTypes := #[]
  staticTypes := #[.double, .double, .double, .double, .double, .long, .long, .double, .double, .boolean]
  resolved := Array.replicate 460 none
  statics := none }

def pool4 : Array CpInfo := pool [(1, u "java/lang/Cloneable"), (0, .class_ 1), (0, u "java/lang/Object"), (0, .class_ 3)] 3

/-- java/lang/Cloneable -/
def k4 : Class := { plain "java/lang/Cloneable" (some 0) with
  accessFlags := 1537
  interfaces := #[]
  cf := some (fileOf pool4 2 #[] #[] 1537 4 #[] #[])
  fields := #[]
  methods := #[]
  instanceTypes := #[]
  staticTypes := #[]
  resolved := Array.replicate 8 none
  statics := none }

def pool5 : Array CpInfo := pool [(1, u "java/io/Serializable"), (0, .class_ 1), (0, u "java/lang/Object"), (0, .class_ 3)] 3

/-- java/io/Serializable -/
def k5 : Class := { plain "java/io/Serializable" (some 0) with
  accessFlags := 1537
  interfaces := #[]
  cf := some (fileOf pool5 2 #[] #[] 1537 4 #[] #[])
  fields := #[]
  methods := #[]
  instanceTypes := #[]
  staticTypes := #[]
  resolved := Array.replicate 8 none
  statics := none }

/-- the primitive byte -/
def k6 : Class := { plain "byte" none with kind := .primitive 'B', accessFlags := 0x411 }
/-- [B -/
def k7 : Class := { plain "[B" (some 0) with kind := .array 6 .byte, interfaces := #[4, 5], accessFlags := 1041 }

/-- the primitive int -/
def k8 : Class := { plain "int" none with kind := .primitive 'I', accessFlags := 0x411 }
/-- [I -/
def k9 : Class := { plain "[I" (some 0) with kind := .array 8 .int, interfaces := #[4, 5], accessFlags := 1041 }

def heap : Heap := #[]
def classes : Array Class := #[k0, k1, k2, k3, k4, k5, k6, k7, k8, k9]
def interned : List (Array UInt16 × Addr) := []
def slotsUsed : Nat := 0
def theMethod : MethodId := ⟨1, 1⟩
def args0 : Array Value := #[.long 100, .long 9, .int 1]
def aboutOver (below : List Frame) : State where
  vm := { classes := classes, interned := interned.toArray }
  heap := heap
  slotsUsed := slotsUsed
  threads := #[{ frames := .invoking theMethod args0 :: below }]
def below0 : List Frame := [.native { method := ⟨0, 0⟩, args := #[] }]
def about1 : State := aboutOver below0
def p0 : Program := .bare "" "" ""
def e0 : Env := launch0.env 0 0 0
theorem w_frames : about1.frames = Frame.invoking theMethod args0 :: below0 := rfl
set_option maxRecDepth 65536 in
theorem w_args : argsFit about1.vm theMethod args0 = true := by decide +kernel
set_option maxRecDepth 65536 in
theorem w_heap : heapFits about1 = true := by decide +kernel
set_option maxRecDepth 65536 in
theorem w_runnable : about1.curStatus? = some .runnable := by decide +kernel
set_option maxRecDepth 65536 in
theorem w_alone : about1.alone = true := by decide +kernel
set_option maxRecDepth 65536 in
theorem w_named : about1.methodNamed? x = some theMethod := by decide +kernel
set_option maxRecDepth 65536 in
theorem w_hears : about1.hears theMethod below0 = true := by decide +kernel
set_option maxRecDepth 65536 in
theorem w_ripe : about1.ripe theMethod args0 below0 = true := by decide +kernel
theorem w_running : about1.status = .running := rfl
set_option maxRecDepth 65536 in
theorem w_room : about1.hasRoom e0.platform room_1 = true :=
  launch0.hasRoom_least _ room_1 (by decide +kernel) (by decide +kernel) (by decide +kernel) (by decide +kernel) (by decide +kernel) (by decide +kernel)
theorem allAtoms_all (ts : List Jvm.Cond) (a : Array Jvm.Value) (st : Jvm.State) : (allAtoms ts).before a st = ts.all (fun c => c.before a st) := by
  induction ts with
  | nil => rfl
  | cons c t ih =>
    show (Jvm.Cond.and c (allAtoms t)).before a st = _
    rw [Jvm.Cond.before_and, ih, List.all_cons]
def words1 : List Jvm.Cond := Jvm.Cond.code x code maxLocals ret :: tables_1
/-- a 'code' word, met by the world's own term for the bytes: nothing is compared byte by byte -/
theorem code_word {y : MethodName} {bytes : ByteArray} {mx : Nat} {rt : Option FieldType} {a : Array Value} {s : State} {m : MethodId} {meth : Method} {c : Code} (h1 : s.methodNamed? y = some m) (h2 : s.vm.method? m = some meth) (h3 : meth.code = some c) (h4 : c.code = bytes)
    (h5 : (c.maxLocals == mx && c.exceptionTable.isEmpty && decide (c.maxStack ≤ mostOperands) && decide (meth.sig.returnType = rt) && !meth.locks && decide (parseMethodDescriptor y.desc = some meth.sig)) = true) : (Jvm.Cond.code y bytes mx rt).before a s = true := by
  simp only [Bool.and_eq_true, beq_iff_eq, Bool.not_eq_true', decide_eq_true_eq] at h5
  obtain ⟨⟨⟨⟨⟨g1, g2⟩, g3⟩, g4⟩, g5⟩, g6⟩ := h5
  simp [Cond.before, Cond.holds, Cond.value, h1, h2, h3, h4, g1, g2, g3, g4, g5, g6]
def isCode : Jvm.Cond → Bool
  | .code _ _ _ _ => true
  | _ => false
theorem all_split {L : List Jvm.Cond} {P : Jvm.Cond → Bool} (h1 : L.all (fun c => isCode c || P c) = true) (h2 : ∀ c ∈ L.filter isCode, P c = true) : L.all P = true := by
  refine List.all_eq_true.mpr fun c hc => ?_
  have h := List.all_eq_true.mp h1 c hc
  rcases Bool.eq_false_or_eq_true (isCode c) with hi | hi
  · exact h2 c (List.mem_filter.mpr ⟨hc, hi⟩)
  · simpa [hi] using h
set_option maxRecDepth 65536 in
theorem w_c0 : (Jvm.Cond.code x code maxLocals ret).before args0 about1 = true := code_word (m := ⟨1, 1⟩) (meth := k1m1) (c := k1c1) (by decide +kernel) rfl rfl rfl (by decide +kernel)
set_option maxRecDepth 65536 in
theorem w_c1 : (Jvm.Cond.code ({ cls := "com/example/emberlot/emberlot/EvictedKeys", name := "<init>", desc := "(J)V" } : Jvm.MethodName) prog_15_method_1_code (3 : Nat) (Option.none : Option Jvm.ClassFile.FieldType)).before args0 about1 = true := code_word (m := ⟨2, 0⟩) (meth := k2m0) (c := k2c0) (by decide +kernel) rfl rfl rfl (by decide +kernel)
set_option maxRecDepth 65536 in
theorem w_c2 : (Jvm.Cond.code ({ cls := "java/lang/Object", name := "<init>", desc := "()V" } : Jvm.MethodName) object_method_1_code (1 : Nat) (Option.none : Option Jvm.ClassFile.FieldType)).before args0 about1 = true := code_word (m := ⟨0, 0⟩) (meth := k0m0) (c := k0c0) (by decide +kernel) rfl rfl rfl (by decide +kernel)
set_option maxRecDepth 65536 in
theorem w_c3 : (Jvm.Cond.code ({ cls := "java/lang/Math", name := "min", desc := "(JJ)J" } : Jvm.MethodName) jdk_29_method_70_code (4 : Nat) (Option.some Jvm.ClassFile.FieldType.long)).before args0 about1 = true := code_word (m := ⟨3, 1⟩) (meth := k3m1) (c := k3c1) (by decide +kernel) rfl rfl rfl (by decide +kernel)
set_option maxRecDepth 65536 in
theorem w_c4 : (Jvm.Cond.code ({ cls := "com/example/emberlot/emberlot/EvictedKeys", name := "evictionsSince", desc := "(J)J" } : Jvm.MethodName) prog_15_method_6_code (5 : Nat) (Option.some Jvm.ClassFile.FieldType.long)).before args0 about1 = true := code_word (m := ⟨2, 1⟩) (meth := k2m1) (c := k2c1) (by decide +kernel) rfl rfl rfl (by decide +kernel)
def codes1 : List Jvm.Cond := [Jvm.Cond.code x code maxLocals ret, Jvm.Cond.code ({ cls := "com/example/emberlot/emberlot/EvictedKeys", name := "<init>", desc := "(J)V" } : Jvm.MethodName) prog_15_method_1_code (3 : Nat) (Option.none : Option Jvm.ClassFile.FieldType), Jvm.Cond.code ({ cls := "java/lang/Object", name := "<init>", desc := "()V" } : Jvm.MethodName) object_method_1_code (1 : Nat) (Option.none : Option Jvm.ClassFile.FieldType), Jvm.Cond.code ({ cls := "java/lang/Math", name := "min", desc := "(JJ)J" } : Jvm.MethodName) jdk_29_method_70_code (4 : Nat) (Option.some Jvm.ClassFile.FieldType.long), Jvm.Cond.code ({ cls := "com/example/emberlot/emberlot/EvictedKeys", name := "evictionsSince", desc := "(J)J" } : Jvm.MethodName) prog_15_method_6_code (5 : Nat) (Option.some Jvm.ClassFile.FieldType.long)]
set_option maxRecDepth 65536 in
theorem codes_eq : words1.filter isCode = codes1 := rfl
theorem w_codes : ∀ c ∈ words1.filter isCode, c.before args0 about1 = true := by
  rw [codes_eq]
  intro c hc
  simp only [codes1, List.mem_cons, List.not_mem_nil, or_false] at hc
  rcases hc with rfl | rfl | rfl | rfl | rfl
  · exact w_c0
  · exact w_c1
  · exact w_c2
  · exact w_c3
  · exact w_c4
set_option maxRecDepth 65536 in
theorem w_t1 : (words1.take 24).all (fun c => isCode c || c.before args0 about1) = true := by decide +kernel
set_option maxRecDepth 65536 in
theorem w_t2 : (words1.drop 24).all (fun c => isCode c || c.before args0 about1) = true := by decide +kernel
theorem w_tables : (allAtoms (Jvm.Cond.code x code maxLocals ret :: tables_1)).before args0 about1 = true := by
  rw [allAtoms_all]
  show words1.all (fun c => c.before args0 about1) = true
  refine all_split ?_ w_codes
  rw [← List.take_append_drop 24 words1, List.all_append, w_t1, w_t2]
  rfl
set_option maxRecDepth 65536 in
theorem w_case : (Jvm.Cond.and given_1 narrow_1).before args0 about1 = true := by decide +kernel
theorem w_applies : (headSpec (Jvm.Cond.code x code maxLocals ret :: tables_1) room_1).applies x e0.platform about1 = true :=
  (Spec.applies_iff w_frames).mpr ⟨w_running, w_runnable, w_alone, w_named, w_hears, w_ripe, w_room, w_tables⟩
theorem atStart : AtStart classFile x code maxLocals ret World_1 tables_1 room_1 Calls_1 rest_1 Pre_1 launch0 p0 e0 about1 theMethod args0 below0 :=
  ⟨lists_1, trivial, launch0.admits_env _ _ _, launch0.least_env, fairChoices_fair.cas, fairChoices_fair.clock, w_frames, w_args, w_heap, w_applies, trivial, trivial, w_case⟩
end start1
theorem witness_1 : WitnessClaimed_1 := ⟨start1.p0, start1.e0, start1.about1, start1.theMethod, start1.args0, start1.below0, start1.atStart⟩
end Jvm.Pilot.@@N@@
