import JvmDerived
import JvmDerived.Pilot.@@N@@Statement
import JvmDerived.Pilot.@@N@@Code
set_option linter.unusedVariables false
set_option linter.unusedSimpArgs false
namespace Jvm.Pilot.@@N@@
open Jvm Jvm.ClassFile Sem Op Lib Jvm.Free Jvm.Stand Jvm.LawKit Jvm.RoadKit Bundle Jvm.Pilot.@@N@@.Jvm.D
section OwnKit
variable {p : Program} {l : Launch} {e : Env} {R : Room} {s : State} {m : MethodId} {args : Array Value} {below : List Frame} {meth : Method} {c : Code} {T : State} {locs : List Loc} {cells slots : Nat}
/-- from the state u the run comes to an end of the invocation at which G holds -/
def Go (tb : Tables) (e : Env) (below : List Frame) (G : Outcome → State → Prop) (u : State) : Prop := ∃ s₂ o, Steps tb e below u s₂ ∧ s₂.status = .running ∧ Ended s₂ below o ∧ G o s₂
def End (Q : Option Value → Heap → List Loc → Prop) (s : State) (C S : Nat) (o : Outcome) (u : State) : Prop := ∃ v L, o = .returned v ∧ Q v u.heap L ∧ FrameEnd s o u L C S
theorem go {tb : Tables} {G : Outcome → State → Prop} {u u' : State} (st : ∀ t, Steps tb e below u' t → Steps tb e below u t) (k : Go tb e below G u') : Go tb e below G u := by
  obtain ⟨s₂, o, h1, h2⟩ := k
  exact ⟨s₂, o, st _ h1, h2⟩
theorem goT {tb : Tables} {G : Outcome → State → Prop} {u u' : State} (st : Steps tb e below u u') (k : Go tb e below G u') : Go tb e below G u := go (fun _ h => st.trans h) k
theorem own_fin (X : Stand p l e R s m args below meth c T locs cells slots) (hlk : meth.locks = false) {v : Option Value} (hv : meth.sig.returnType = none → v = none) {Q : Option Value → Heap → List Loc → Prop} {C S : Nat} (hq : Q v T.heap locs) (hc : cells ≤ C) (hs : slots ≤ S) {u : State}
    (st : ∀ fs, (∀ (f : JFrame) (acts : List Action), f.method = m → f.locked = none → f.entered = [] → (doReturn e (T.setTop f) acts v).1 = T.setFrames fs) → Steps p.tables e below u (T.setFrames fs)) : Go p.tables e below (End Q s C S) u := by
  obtain ⟨fs, hr, hrun, hended, hW, hsame⟩ := X.leave (v := v) hv hlk
  exact ⟨_, _, st fs hr, hrun, hended, _, _, rfl, hq, ⟨_, rfl⟩, hW, hsame.mono hc hs⟩
theorem own_retI (X : Stand p l e R s m args below meth c T locs cells slots) (hx : p.tables.exec = Jvm.exec) {pc : Nat} {Ls : Array Slot} {z : Int32} {rest : List Value} (hret : meth.sig.returnType = some .int) (hd : decode c.code pc = .ok (.ireturn, 1)) {fs : List Frame}
    (hl : ∀ (f : JFrame) (acts : List Action), f.method = m → f.locked = none → f.entered = [] → (doReturn e (T.setTop f) acts (some (.int z))).1 = T.setFrames fs) : Steps p.tables e below (T.setTop (mkF m pc Ls (.int z :: rest))) (T.setFrames fs) := by
  have hm' : T.vm.method? m = some meth := X.method'
  have hn : narrow .int (.int z) = .int z := rfl
  show Steps p.tables e below (T.setTop { method := m, pc := pc, locals := Ls, stack := _ :: rest, locked := none }) _
  jvm_step X.here [X.here.top, hx, hd, hm', hret, hn]
  first | (intro acts; rw [hl _ acts rfl rfl rfl]) | rw [hl _ _ rfl rfl rfl]
  exact Steps.refl _
theorem own_retA (X : Stand p l e R s m args below meth c T locs cells slots) (hx : p.tables.exec = Jvm.exec) {pc : Nat} {Ls : Array Slot} {z : Value} {t : FieldType} {rest : List Value} (hret : meth.sig.returnType = some t) (ht : t.isReference = true) (hz : z.isRef = true) (hd : decode c.code pc = .ok (.areturn, 1)) {fs : List Frame}
    (hl : ∀ (f : JFrame) (acts : List Action), f.method = m → f.locked = none → f.entered = [] → (doReturn e (T.setTop f) acts (some z)).1 = T.setFrames fs) : Steps p.tables e below (T.setTop (mkF m pc Ls (z :: rest))) (T.setFrames fs) := by
  have hm' : T.vm.method? m = some meth := X.method'
  show Steps p.tables e below (T.setTop { method := m, pc := pc, locals := Ls, stack := _ :: rest, locked := none }) _
  jvm_step X.here [X.here.top, hx, hd, hm', hret, ht, hz]
  first | (intro acts; rw [hl _ acts rfl rfl rfl]) | rw [hl _ _ rfl rfl rfl]
  exact Steps.refl _
theorem gI (X : Stand p l e R s m args below meth c T locs cells slots) (hx : p.tables.exec = Jvm.exec) (hlk : meth.locks = false) {pc : Nat} {Ls : Array Slot} {z : Int32} {rest : List Value} (hret : meth.sig.returnType = some .int) (hd : decode c.code pc = .ok (.ireturn, 1)) {Q : Option Value → Heap → List Loc → Prop} {C S : Nat} (hq : Q (some (.int z)) T.heap locs) (hc : cells ≤ C) (hs : slots ≤ S) :
    Go p.tables e below (End Q s C S) (T.setTop (mkF m pc Ls (.int z :: rest))) := own_fin X hlk (fun h => by rw [hret] at h; cases h) hq hc hs fun fs hr => own_retI X hx hret hd hr
theorem gN (X : Stand p l e R s m args below meth c T locs cells slots) (hx : p.tables.exec = Jvm.exec) (hlk : meth.locks = false) {pc : Nat} {Ls : Array Slot} {z : Int32} {t : FieldType} {rest : List Value} (hret : meth.sig.returnType = some t) (ht : t = .boolean ∨ t = .byte ∨ t = .char ∨ t = .short) (hn : nar t z = z) (hd : decode c.code pc = .ok (.ireturn, 1)) {Q : Option Value → Heap → List Loc → Prop} {C S : Nat} (hq : Q (some (.int z)) T.heap locs) (hc : cells ≤ C) (hs : slots ≤ S) :
    Go p.tables e below (End Q s C S) (T.setTop (mkF m pc Ls (.int z :: rest))) := own_fin X hlk (fun h => by rw [hret] at h; cases h) hq hc hs fun fs hr => retN X hx hret ht hd (by rw [hn]; exact hr)
theorem gJ (X : Stand p l e R s m args below meth c T locs cells slots) (hx : p.tables.exec = Jvm.exec) (hlk : meth.locks = false) {pc : Nat} {Ls : Array Slot} {z : Int64} (hret : meth.sig.returnType = some .long) (hd : decode c.code pc = .ok (.lreturn, 1)) {Q : Option Value → Heap → List Loc → Prop} {C S : Nat} (hq : Q (some (.long z)) T.heap locs) (hc : cells ≤ C) (hs : slots ≤ S) :
    Go p.tables e below (End Q s C S) (T.setTop (mkF m pc Ls [.long z])) := own_fin X hlk (fun h => by rw [hret] at h; cases h) hq hc hs fun fs hr => X.lreturnOut hx hret hd hr
theorem g0 (X : Stand p l e R s m args below meth c T locs cells slots) (hx : p.tables.exec = Jvm.exec) (hlk : meth.locks = false) {pc : Nat} {Ls : Array Slot} (hret : meth.sig.returnType = none) (hd : decode c.code pc = .ok (.return_, 1)) {Q : Option Value → Heap → List Loc → Prop} {C S : Nat} (hq : Q none T.heap locs) (hc : cells ≤ C) (hs : slots ≤ S) :
    Go p.tables e below (End Q s C S) (T.setTop (mkF m pc Ls [])) := own_fin X hlk (fun _ => rfl) hq hc hs fun fs hr => X.returnOut hx hret hd hr
theorem gA (X : Stand p l e R s m args below meth c T locs cells slots) (hx : p.tables.exec = Jvm.exec) (hlk : meth.locks = false) {pc : Nat} {Ls : Array Slot} {z : Value} {t : FieldType} {rest : List Value} (hret : meth.sig.returnType = some t) (ht : t.isReference = true) (hz : z.isRef = true) (hd : decode c.code pc = .ok (.areturn, 1)) {Q : Option Value → Heap → List Loc → Prop} {C S : Nat} (hq : Q (some z) T.heap locs) (hc : cells ≤ C) (hs : slots ≤ S) :
    Go p.tables e below (End Q s C S) (T.setTop (mkF m pc Ls (z :: rest))) := own_fin X hlk (fun h => by rw [hret] at h; cases h) hq hc hs fun fs hr => own_retA X hx hret ht hz hd hr
end OwnKit
/-- a body's contract out of its walk -/
theorem body {l : Launch} {y : MethodName} {bytes : ByteArray} {maxL : Nat} {ret : Option FieldType} {ws : List Jvm.Cond} {rm : Room} {as' : Array Value} {Z : State} {h0 : Heap} {Q : Option Value → Heap → List Loc → Prop} (pn : plainFor y = true)
    (k : ∀ (p : Program) (e : Env) (s : State) (m : MethodId) (below : List Frame) (meth : Method) (c : Code) (s₁ : State), p.tables.exec = Jvm.exec → c.code = bytes → c.maxLocals = maxL → s.vm.findClass y.cls = some m.cls → meth.name = y.name → meth.sig.returnType = ret → meth.locks = false → Z.Warmed39 s.vm → s₁.heap = h0 →
      Stand p l e rm s m as' below meth c s₁ [] 0 0 → Go p.tables e below (End Q s rm.cells rm.slots) (s₁.setTop (entryFrame m as' maxL))) :
    MetFree l y (head1 (Jvm.Cond.code y bytes maxL ret :: ws) rm) (fun a U => a = as' ∧ Z.Warmed39 U.vm ∧ U.heap = h0) (fun _ _ _ _ _ => True) (fun _ U o U' => ∃ v L, o = .returned v ∧ Q v U'.heap L ∧ FrameEnd U o U' L rm.cells rm.slots) := by
  refine MetFree.of_bodySF pn hisR ?_
  intro p e s m args below meth c s₁ Bd hml hP _
  obtain ⟨rfl, hZ, hh⟩ := hP
  obtain ⟨s₂, o, h1, h2, h3, h4⟩ := k p e s m below meth c s₁ Bd.exec Bd.bytes hml (findClass_of_methodNamed Bd.named) (name_of_methodNamed Bd.named Bd.method).1 Bd.returns Bd.notSynchronized hZ (by rw [← hh, Bd.state]; rfl) (Stand.of_body Bd)
  exact ⟨s₂, o, h1, h2, h3, h4⟩
/-- a boolean as an int -/
def B (P : Prop) [Decidable P] : Int32 := if P then 1 else 0
theorem Bt {P : Prop} [Decidable P] (h : P) : B P = 1 := if_pos h
theorem Bf {P : Prop} [Decidable P] (h : ¬ P) : B P = 0 := if_neg h
theorem B1 {P : Prop} [Decidable P] (h : P) : (1 : Int32) = B P := (if_pos h).symm
theorem B0 {P : Prop} [Decidable P] (h : ¬ P) : (0 : Int32) = B P := (if_neg h).symm
theorem B_iff {P Q : Prop} [Decidable P] [Decidable Q] (h : P ↔ Q) : B P = B Q := by simp only [B, h]
theorem B_nar {P : Prop} [Decidable P] : nar .boolean (B P) = B P := by by_cases h : P <;> simp only [B, h, if_true, if_false] <;> rfl
theorem bT {P : Prop} [Decidable P] (h : P) : ifCond.holds .ne (B P) = true ∧ ifCond.holds .eq (B P) = false := by rw [Bt h]; exact ⟨rfl, rfl⟩
theorem bF {P : Prop} [Decidable P] (h : ¬ P) : ifCond.holds .ne (B P) = false ∧ ifCond.holds .eq (B P) = true := by rw [Bf h]; exact ⟨rfl, rfl⟩
theorem lT {x y : Int64} (h : x < y) : ifCond.holds .lt (lcmpW x y) = true ∧ ifCond.holds .ge (lcmpW x y) = false ∧ ifCond.holds .gt (lcmpW y x) = true ∧ ifCond.holds .le (lcmpW y x) = false := by
  have h1 := tlt ((lw_lt x y).mpr h)
  have h2 := tlt ((lw_gt y x).mpr h)
  simp only [if0]; exact ⟨h1.1, h1.2.1, h2.2.2.1, h2.2.2.2⟩
theorem lF {x y : Int64} (h : ¬ x < y) : ifCond.holds .lt (lcmpW x y) = false ∧ ifCond.holds .ge (lcmpW x y) = true ∧ ifCond.holds .gt (lcmpW y x) = false ∧ ifCond.holds .le (lcmpW y x) = true := by
  have h1 := flt (fun q => h ((lw_lt x y).mp q))
  have h2 := flt (fun q => h ((lw_gt y x).mp q))
  simp only [if0]; exact ⟨h1.1, h1.2.1, h2.2.2.1, h2.2.2.2⟩
theorem lTe {x y : Int64} (h : x = y) : ifCond.holds .eq (lcmpW x y) = true ∧ ifCond.holds .ne (lcmpW x y) = false := by
  simp only [if0]; exact teq ((lw_eq x y).mpr h)
theorem lFe {x y : Int64} (h : ¬ x = y) : ifCond.holds .eq (lcmpW x y) = false ∧ ifCond.holds .ne (lcmpW x y) = true := by
  simp only [if0]; exact feq (fun q => h ((lw_eq x y).mp q))
theorem bTv {P : Prop} [Decidable P] {v : Int32} (hv : v = B P) (h : P) : ifCond.holds .ne v = true ∧ ifCond.holds .eq v = false := hv ▸ bT h
theorem bFv {P : Prop} [Decidable P] {v : Int32} (hv : v = B P) (h : ¬ P) : ifCond.holds .ne v = false ∧ ifCond.holds .eq v = true := hv ▸ bF h
theorem B_narv {P : Prop} [Decidable P] {v : Int32} (hv : v = B P) : nar .boolean v = v := hv ▸ B_nar
theorem own_fitb {v : Int32} (h : nar .boolean v = v) : fits .boolean (.int v) = true := h ▸ fits_nar_bool v
theorem ww {a0 : Array Value} {Z : State} (hw : ∀ d ∈ tables_1, d.before a0 Z = true) (i : Nat) {d : Jvm.Cond} (h : tables_1[i]? = some d) : d.before a0 Z = true := hw d (List.mem_of_getElem? h)
theorem own_small (n : Fin 128) : (fun c : Int32 => (((c < (64 : Int32)) ∧ (¬ (((((5764607548804038655 : Int64).toUInt64 >>> (c &&& 0x3f).toInt64.toUInt64).toInt64) &&& (1 : Int64)) = (0 : Int64)))) ∨ ((¬ (c < (64 : Int32))) ∧ ((¬ (c < (128 : Int32))) ∨ (¬ (((((-5188146765093666816 : Int64).toUInt64 >>> ((c - (64 : Int32)) &&& 0x3f).toInt64.toUInt64).toInt64) &&& (1 : Int64)) = (0 : Int64))))))) (Int32.ofNat n.val) ↔ (fun c : Int32 => ((¬ ((32 : Int32) < c)) ∨ ((c = (127 : Int32)) ∨ ((¬ (c < (128 : Int32))) ∨ ((c = (60 : Int32)) ∨ ((c = (62 : Int32)) ∨ ((c = (34 : Int32)) ∨ ((c = (123 : Int32)) ∨ ((c = (125 : Int32)) ∨ ((c = (124 : Int32)) ∨ ((c = (92 : Int32)) ∨ ((c = (94 : Int32)) ∨ (c = (96 : Int32)))))))))))))) (Int32.ofNat n.val) := by
  revert n
  decide +kernel
theorem own_esc (c : Int32) (h : 0 ≤ c.toInt) : (((c < (64 : Int32)) ∧ (¬ (((((5764607548804038655 : Int64).toUInt64 >>> (c &&& 0x3f).toInt64.toUInt64).toInt64) &&& (1 : Int64)) = (0 : Int64)))) ∨ ((¬ (c < (64 : Int32))) ∧ ((¬ (c < (128 : Int32))) ∨ (¬ (((((-5188146765093666816 : Int64).toUInt64 >>> ((c - (64 : Int32)) &&& 0x3f).toInt64.toUInt64).toInt64) &&& (1 : Int64)) = (0 : Int64)))))) ↔ ((¬ ((32 : Int32) < c)) ∨ ((c = (127 : Int32)) ∨ ((¬ (c < (128 : Int32))) ∨ ((c = (60 : Int32)) ∨ ((c = (62 : Int32)) ∨ ((c = (34 : Int32)) ∨ ((c = (123 : Int32)) ∨ ((c = (125 : Int32)) ∨ ((c = (124 : Int32)) ∨ ((c = (92 : Int32)) ∨ ((c = (94 : Int32)) ∨ (c = (96 : Int32))))))))))))) := by
  have e64 : (64 : Int32).toInt = 64 := rfl
  have e128 : (128 : Int32).toInt = 128 := rfl
  by_cases q : c.toInt < 128
  · have hc : c = Int32.ofNat c.toInt.toNat := by
      apply Int32.toInt_inj.mp
      rw [Int32.toInt_ofNat_of_lt (by omega)]
      omega
    have r := own_small ⟨c.toInt.toNat, by omega⟩
    simp only [← hc] at r
    exact r
  · have q1 : ¬ c < (64 : Int32) := by rw [Int32.lt_iff_toInt_lt, e64]; omega
    have q2 : ¬ c < (128 : Int32) := by rw [Int32.lt_iff_toInt_lt, e128]; omega
    simp [q1, q2]
theorem own_rng (p0 p1 cc : Int32) (h : cc = (if (¬ ((p1 &&& (1 : Int32)) = (0 : Int32))) then (p0 &&& (127 : Int32)) else ((p0 &&& (2147483647 : Int32)) % (1114112 : Int32)))) : 0 ≤ cc.toInt := by
  have b1 := c_mask p0 127 7 (by decide) (by decide)
  have b2 := c_mask p0 2147483647 31 (by decide) (by decide)
  subst h
  split
  · omega
  · rw [(c_irem (p0 &&& (2147483647 : Int32)) 1114112 1114112 rfl).1 (by omega)]; omega
theorem pn_com_example_locattr_locattr_UriReferences_mustEscape_1 : plainFor (⟨"com/example/locattr/locattr/UriReferences", "mustEscape", "(I)Z"⟩ : MethodName) = true := by first | exact plainFor_of_name (by first | (simp [plainName, overriddenIn]; done) | decide +kernel) | decide +kernel
def Q_rm1 (Z : State) (p0 : Int32) (lo : Int64) (hi : Int64) (h0 : Heap) (n0 : Nat) (v : Option Value) (h : Heap) (L : List Loc) : Prop := v = some (.int (B (((p0 < (64 : Int32)) ∧ (¬ ((((lo.toUInt64 >>> (p0 &&& 0x3f).toInt64.toUInt64).toInt64) &&& (1 : Int64)) = (0 : Int64)))) ∨ ((¬ (p0 < (64 : Int32))) ∧ ((¬ (p0 < (128 : Int32))) ∨ (¬ ((((hi.toUInt64 >>> ((p0 - (64 : Int32)) &&& 0x3f).toInt64.toUInt64).toInt64) &&& (1 : Int64)) = (0 : Int64)))))))) ∧ Fr n0 L ∧ h = h0
set_option maxRecDepth 65536 in
set_option maxHeartbeats 4000000 in
theorem ef_rm1 (m : MethodId) (p0 : Int32) : entryFrame m #[(.int p0)] 1 = mkF m 0 #[.val (.int p0)] [] := by first | (simp [entryFrame, mkF, argsToLocals, Value.category, maxLocals]; done) | rfl
theorem d1_0 : decode prog_109_method_13_code 0 = .ok (.iload_n 0, 1) := by decide +kernel
theorem d1_1 : decode prog_109_method_13_code 1 = .ok (.bipush 64, 2) := by decide +kernel
theorem d1_3 : decode prog_109_method_13_code 3 = .ok (.if_icmp .ge 23, 3) := by decide +kernel
theorem d1_6 : decode prog_109_method_13_code 6 = .ok (.getstatic 112, 3) := by decide +kernel
theorem d1_9 : decode prog_109_method_13_code 9 = .ok (.iload_n 0, 1) := by decide +kernel
theorem d1_10 : decode prog_109_method_13_code 10 = .ok (.lushr, 1) := by decide +kernel
theorem d1_11 : decode prog_109_method_13_code 11 = .ok (.lconst 1, 1) := by decide +kernel
theorem d1_12 : decode prog_109_method_13_code 12 = .ok (.land, 1) := by decide +kernel
theorem d1_13 : decode prog_109_method_13_code 13 = .ok (.lconst 0, 1) := by decide +kernel
theorem d1_14 : decode prog_109_method_13_code 14 = .ok (.lcmp, 1) := by decide +kernel
theorem d1_15 : decode prog_109_method_13_code 15 = .ok (.ifCond .eq 7, 3) := by decide +kernel
theorem d1_18 : decode prog_109_method_13_code 18 = .ok (.iconst 1, 1) := by decide +kernel
theorem d1_19 : decode prog_109_method_13_code 19 = .ok (.goto 34, 3) := by decide +kernel
theorem d1_22 : decode prog_109_method_13_code 22 = .ok (.iconst 0, 1) := by decide +kernel
theorem d1_23 : decode prog_109_method_13_code 23 = .ok (.goto 30, 3) := by decide +kernel
theorem d1_26 : decode prog_109_method_13_code 26 = .ok (.iload_n 0, 1) := by decide +kernel
theorem d1_27 : decode prog_109_method_13_code 27 = .ok (.sipush 128, 3) := by decide +kernel
theorem d1_30 : decode prog_109_method_13_code 30 = .ok (.if_icmp .ge 18, 3) := by decide +kernel
theorem d1_33 : decode prog_109_method_13_code 33 = .ok (.getstatic 116, 3) := by decide +kernel
theorem d1_36 : decode prog_109_method_13_code 36 = .ok (.iload_n 0, 1) := by decide +kernel
theorem d1_37 : decode prog_109_method_13_code 37 = .ok (.bipush 64, 2) := by decide +kernel
theorem d1_39 : decode prog_109_method_13_code 39 = .ok (.isub, 1) := by decide +kernel
theorem d1_40 : decode prog_109_method_13_code 40 = .ok (.lushr, 1) := by decide +kernel
theorem d1_41 : decode prog_109_method_13_code 41 = .ok (.lconst 1, 1) := by decide +kernel
theorem d1_42 : decode prog_109_method_13_code 42 = .ok (.land, 1) := by decide +kernel
theorem d1_43 : decode prog_109_method_13_code 43 = .ok (.lconst 0, 1) := by decide +kernel
theorem d1_44 : decode prog_109_method_13_code 44 = .ok (.lcmp, 1) := by decide +kernel
theorem d1_45 : decode prog_109_method_13_code 45 = .ok (.ifCond .eq 7, 3) := by decide +kernel
theorem d1_48 : decode prog_109_method_13_code 48 = .ok (.iconst 1, 1) := by decide +kernel
theorem d1_49 : decode prog_109_method_13_code 49 = .ok (.goto 4, 3) := by decide +kernel
theorem d1_52 : decode prog_109_method_13_code 52 = .ok (.iconst 0, 1) := by decide +kernel
theorem d1_53 : decode prog_109_method_13_code 53 = .ok (.ireturn, 1) := by decide +kernel
set_option maxRecDepth 65536 in
set_option maxHeartbeats 40000000 in
theorem rm1 (l : Launch) (Z : State) (a0 : Array Value) (hw : ∀ d ∈ tables_1, d.before a0 Z = true) (ws : List Jvm.Cond) (p0 : Int32) (lo : Int64) (hi : Int64) (h0 : Heap) (n0 : Nat) (Z0 : n0 ≤ h0.size) (F0 : Sta Z h0 "com/example/locattr/locattr/UriReferences" "ESCAPED_LOW" "J" (.long lo)) (F1 : Sta Z h0 "com/example/locattr/locattr/UriReferences" "ESCAPED_HIGH" "J" (.long hi)) :
    MetFree l (⟨"com/example/locattr/locattr/UriReferences", "mustEscape", "(I)Z"⟩ : MethodName) (head1 (Jvm.Cond.code (⟨"com/example/locattr/locattr/UriReferences", "mustEscape", "(I)Z"⟩ : MethodName) prog_109_method_13_code 1 (some .boolean) :: ws) ({ frames := 0, cells := 0, slots := 0, locals := 0 } : Room)) (fun a U => a = #[(.int p0)] ∧ Z.Warmed39 U.vm ∧ U.heap = h0) (fun _ _ _ _ _ => True) (fun _ U o U' => ∃ v L, o = .returned v ∧ Q_rm1 Z p0 lo hi h0 n0 v U'.heap L ∧ FrameEnd U o U' L ({ frames := 0, cells := 0, slots := 0, locals := 0 } : Room).cells ({ frames := 0, cells := 0, slots := 0, locals := 0 } : Room).slots) := by
  refine body pn_com_example_locattr_locattr_UriReferences_mustEscape_1 ?_
  intro p e s m below meth c s₁ hx hby hml hown hnm hret hlk hZ e0 X0
  replace hml : c.maxLocals = 1 := hml
  replace hown : s.vm.findClass "com/example/locattr/locattr/UriReferences" = some m.cls := hown
  replace hnm : meth.name = "mustEscape" := hnm
  replace hret : meth.sig.returnType = (some .boolean) := hret
  have N0 := Fr.nil n0
  rw [ef_rm1]
  obtain ⟨G, hG⟩ : ∃ G, G = End (Q_rm1 Z p0 lo hi h0 n0) s ({ frames := 0, cells := 0, slots := 0, locals := 0 } : Room).cells ({ frames := 0, cells := 0, slots := 0, locals := 0 } : Room).slots := ⟨_, rfl⟩
  rw [← hG]
  refine go (u' := s₁.setTop (mkF m 1 #[.val (.int p0)] [(.int p0)])) (fun _ ks_ => XS.iloadN X0.here hx rfl (hb hby d1_0) rfl  ks_) ?_
  refine go (u' := s₁.setTop (mkF m 3 #[.val (.int p0)] [(.int (64 : Int32)), (.int p0)])) (fun _ ks_ => XS.bipush X0.here hx rfl (hb hby d1_1) ks_) ?_
  by_cases c3_1 : p0 < (64 : Int32)
  ·
    refine go (u' := s₁.setTop (mkF m 6 #[.val (.int p0)] [])) (fun _ ks_ => XS.icmpNo X0.here hx rfl (hb hby d1_3) rfl (tlt c3_1).2.1 ks_) ?_
    obtain ⟨T1, X1, e1, st1⟩ := getS2 X0 hx hZ hown (host := "") (Or.inl (ww hw 4 rfl)) Via.refl e0 F0 (g := (mkF m 6 #[.val (.int p0)] [])) rfl (hb hby d1_6)
    refine go (u' := T1.setTop (mkF m 9 #[.val (.int p0)] [(.long lo)])) st1 ?_
    refine go (u' := T1.setTop (mkF m 10 #[.val (.int p0)] [(.int p0), (.long lo)])) (fun _ ks_ => XS.iloadN X1.here hx rfl (hb hby d1_9) rfl  ks_) ?_
    refine go (u' := T1.setTop (mkF m 11 #[.val (.int p0)] [(.long ((lo.toUInt64 >>> (p0 &&& 0x3f).toInt64.toUInt64).toInt64))])) (fun _ ks_ => XS.lushr X1.here hx rfl (hb hby d1_10) rfl ks_) ?_
    refine go (u' := T1.setTop (mkF m 12 #[.val (.int p0)] [(.long (1 : Int64)), (.long ((lo.toUInt64 >>> (p0 &&& 0x3f).toInt64.toUInt64).toInt64))])) (fun _ ks_ => XS.lconst X1.here hx rfl (hb hby d1_11) ks_) ?_
    refine go (u' := T1.setTop (mkF m 13 #[.val (.int p0)] [(.long (((lo.toUInt64 >>> (p0 &&& 0x3f).toInt64.toUInt64).toInt64) &&& (1 : Int64)))])) (fun _ ks_ => XS.land X1.here hx rfl (hb hby d1_12) rfl ks_) ?_
    refine go (u' := T1.setTop (mkF m 14 #[.val (.int p0)] [(.long (0 : Int64)), (.long (((lo.toUInt64 >>> (p0 &&& 0x3f).toInt64.toUInt64).toInt64) &&& (1 : Int64)))])) (fun _ ks_ => XS.lconst X1.here hx rfl (hb hby d1_13) ks_) ?_
    refine go (u' := T1.setTop (mkF m 15 #[.val (.int p0)] [(.int (lcmpW (((lo.toUInt64 >>> (p0 &&& 0x3f).toInt64.toUInt64).toInt64) &&& (1 : Int64)) (0 : Int64)))])) (fun _ ks_ => XS.lcmp X1.here hx rfl (hb hby d1_14) rfl ks_) ?_
    by_cases c15_2 : (((lo.toUInt64 >>> (p0 &&& 0x3f).toInt64.toUInt64).toInt64) &&& (1 : Int64)) = (0 : Int64)
    ·
      refine go (u' := T1.setTop (mkF m 22 #[.val (.int p0)] [])) (fun _ ks_ => XS.ifYes X1.here hx rfl (pc0 := 15) (pc' := 22) rfl (hb hby d1_15) rfl (lTe c15_2).1 (by decide) (by decide) ks_) ?_
      refine go (u' := T1.setTop (mkF m 23 #[.val (.int p0)] [(.int (0 : Int32))])) (fun _ ks_ => XS.iconst X1.here hx rfl (hb hby d1_22) ks_) ?_
      refine go (u' := T1.setTop (mkF m 53 #[.val (.int p0)] [(.int (0 : Int32))])) (fun _ ks_ => XS.goto X1.here hx rfl (pc0 := 23) (pc' := 53) rfl (hb hby d1_23) (by decide) (by decide) ks_) ?_
      rw [hG]
      refine gN X1 hx hlk (t := .boolean) hret (by simp) rfl (hb hby d1_53) ?_ (Nat.le_of_ble_eq_true rfl) (Nat.le_of_ble_eq_true rfl)
      show Q_rm1 Z p0 lo hi h0 n0 (some (.int (0 : Int32))) T1.heap _
      rw [e1]
      exact ⟨congrArg (fun z => some (Value.int z)) (B0 (fun q => q.elim (fun q => (fun q => q c15_2) q.2) (fun q => (fun q => q c3_1) q.1))), N0, rfl⟩
    ·
      refine go (u' := T1.setTop (mkF m 18 #[.val (.int p0)] [])) (fun _ ks_ => XS.ifNo X1.here hx rfl (hb hby d1_15) rfl (lFe c15_2).1 ks_) ?_
      refine go (u' := T1.setTop (mkF m 19 #[.val (.int p0)] [(.int (1 : Int32))])) (fun _ ks_ => XS.iconst X1.here hx rfl (hb hby d1_18) ks_) ?_
      refine go (u' := T1.setTop (mkF m 53 #[.val (.int p0)] [(.int (1 : Int32))])) (fun _ ks_ => XS.goto X1.here hx rfl (pc0 := 19) (pc' := 53) rfl (hb hby d1_19) (by decide) (by decide) ks_) ?_
      rw [hG]
      refine gN X1 hx hlk (t := .boolean) hret (by simp) rfl (hb hby d1_53) ?_ (Nat.le_of_ble_eq_true rfl) (Nat.le_of_ble_eq_true rfl)
      show Q_rm1 Z p0 lo hi h0 n0 (some (.int (1 : Int32))) T1.heap _
      rw [e1]
      exact ⟨congrArg (fun z => some (Value.int z)) (B1 (Or.inl ⟨c3_1, c15_2⟩)), N0, rfl⟩
  ·
    refine go (u' := s₁.setTop (mkF m 26 #[.val (.int p0)] [])) (fun _ ks_ => XS.icmpYes X0.here hx rfl (pc0 := 3) (pc' := 26) rfl (hb hby d1_3) rfl (flt c3_1).2.1 (by decide) (by decide) ks_) ?_
    refine go (u' := s₁.setTop (mkF m 27 #[.val (.int p0)] [(.int p0)])) (fun _ ks_ => XS.iloadN X0.here hx rfl (hb hby d1_26) rfl  ks_) ?_
    refine go (u' := s₁.setTop (mkF m 30 #[.val (.int p0)] [(.int (128 : Int32)), (.int p0)])) (fun _ ks_ => XS.sipush X0.here hx rfl (hb hby d1_27) ks_) ?_
    by_cases c30_3 : p0 < (128 : Int32)
    ·
      refine go (u' := s₁.setTop (mkF m 33 #[.val (.int p0)] [])) (fun _ ks_ => XS.icmpNo X0.here hx rfl (hb hby d1_30) rfl (tlt c30_3).2.1 ks_) ?_
      obtain ⟨T2, X2, e2, st2⟩ := getS2 X0 hx hZ hown (host := "") (Or.inl (ww hw 6 rfl)) Via.refl e0 F1 (g := (mkF m 33 #[.val (.int p0)] [])) rfl (hb hby d1_33)
      refine go (u' := T2.setTop (mkF m 36 #[.val (.int p0)] [(.long hi)])) st2 ?_
      refine go (u' := T2.setTop (mkF m 37 #[.val (.int p0)] [(.int p0), (.long hi)])) (fun _ ks_ => XS.iloadN X2.here hx rfl (hb hby d1_36) rfl  ks_) ?_
      refine go (u' := T2.setTop (mkF m 39 #[.val (.int p0)] [(.int (64 : Int32)), (.int p0), (.long hi)])) (fun _ ks_ => XS.bipush X2.here hx rfl (hb hby d1_37) ks_) ?_
      refine go (u' := T2.setTop (mkF m 40 #[.val (.int p0)] [(.int (p0 - (64 : Int32))), (.long hi)])) (fun _ ks_ => XS.isub X2.here hx rfl (hb hby d1_39) rfl ks_) ?_
      refine go (u' := T2.setTop (mkF m 41 #[.val (.int p0)] [(.long ((hi.toUInt64 >>> ((p0 - (64 : Int32)) &&& 0x3f).toInt64.toUInt64).toInt64))])) (fun _ ks_ => XS.lushr X2.here hx rfl (hb hby d1_40) rfl ks_) ?_
      refine go (u' := T2.setTop (mkF m 42 #[.val (.int p0)] [(.long (1 : Int64)), (.long ((hi.toUInt64 >>> ((p0 - (64 : Int32)) &&& 0x3f).toInt64.toUInt64).toInt64))])) (fun _ ks_ => XS.lconst X2.here hx rfl (hb hby d1_41) ks_) ?_
      refine go (u' := T2.setTop (mkF m 43 #[.val (.int p0)] [(.long (((hi.toUInt64 >>> ((p0 - (64 : Int32)) &&& 0x3f).toInt64.toUInt64).toInt64) &&& (1 : Int64)))])) (fun _ ks_ => XS.land X2.here hx rfl (hb hby d1_42) rfl ks_) ?_
      refine go (u' := T2.setTop (mkF m 44 #[.val (.int p0)] [(.long (0 : Int64)), (.long (((hi.toUInt64 >>> ((p0 - (64 : Int32)) &&& 0x3f).toInt64.toUInt64).toInt64) &&& (1 : Int64)))])) (fun _ ks_ => XS.lconst X2.here hx rfl (hb hby d1_43) ks_) ?_
      refine go (u' := T2.setTop (mkF m 45 #[.val (.int p0)] [(.int (lcmpW (((hi.toUInt64 >>> ((p0 - (64 : Int32)) &&& 0x3f).toInt64.toUInt64).toInt64) &&& (1 : Int64)) (0 : Int64)))])) (fun _ ks_ => XS.lcmp X2.here hx rfl (hb hby d1_44) rfl ks_) ?_
      by_cases c45_4 : (((hi.toUInt64 >>> ((p0 - (64 : Int32)) &&& 0x3f).toInt64.toUInt64).toInt64) &&& (1 : Int64)) = (0 : Int64)
      ·
        refine go (u' := T2.setTop (mkF m 52 #[.val (.int p0)] [])) (fun _ ks_ => XS.ifYes X2.here hx rfl (pc0 := 45) (pc' := 52) rfl (hb hby d1_45) rfl (lTe c45_4).1 (by decide) (by decide) ks_) ?_
        refine go (u' := T2.setTop (mkF m 53 #[.val (.int p0)] [(.int (0 : Int32))])) (fun _ ks_ => XS.iconst X2.here hx rfl (hb hby d1_52) ks_) ?_
        rw [hG]
        refine gN X2 hx hlk (t := .boolean) hret (by simp) rfl (hb hby d1_53) ?_ (Nat.le_of_ble_eq_true rfl) (Nat.le_of_ble_eq_true rfl)
        show Q_rm1 Z p0 lo hi h0 n0 (some (.int (0 : Int32))) T2.heap _
        rw [e2]
        exact ⟨congrArg (fun z => some (Value.int z)) (B0 (fun q => q.elim (fun q => c3_1 q.1) (fun q => (fun q => q.elim (fun q => q c30_3) (fun q => q c45_4)) q.2))), N0, rfl⟩
      ·
        refine go (u' := T2.setTop (mkF m 48 #[.val (.int p0)] [])) (fun _ ks_ => XS.ifNo X2.here hx rfl (hb hby d1_45) rfl (lFe c45_4).1 ks_) ?_
        refine go (u' := T2.setTop (mkF m 49 #[.val (.int p0)] [(.int (1 : Int32))])) (fun _ ks_ => XS.iconst X2.here hx rfl (hb hby d1_48) ks_) ?_
        refine go (u' := T2.setTop (mkF m 53 #[.val (.int p0)] [(.int (1 : Int32))])) (fun _ ks_ => XS.goto X2.here hx rfl (pc0 := 49) (pc' := 53) rfl (hb hby d1_49) (by decide) (by decide) ks_) ?_
        rw [hG]
        refine gN X2 hx hlk (t := .boolean) hret (by simp) rfl (hb hby d1_53) ?_ (Nat.le_of_ble_eq_true rfl) (Nat.le_of_ble_eq_true rfl)
        show Q_rm1 Z p0 lo hi h0 n0 (some (.int (1 : Int32))) T2.heap _
        rw [e2]
        exact ⟨congrArg (fun z => some (Value.int z)) (B1 (Or.inr ⟨c3_1, (Or.inr c45_4)⟩)), N0, rfl⟩
    ·
      refine go (u' := s₁.setTop (mkF m 48 #[.val (.int p0)] [])) (fun _ ks_ => XS.icmpYes X0.here hx rfl (pc0 := 30) (pc' := 48) rfl (hb hby d1_30) rfl (flt c30_3).2.1 (by decide) (by decide) ks_) ?_
      refine go (u' := s₁.setTop (mkF m 49 #[.val (.int p0)] [(.int (1 : Int32))])) (fun _ ks_ => XS.iconst X0.here hx rfl (hb hby d1_48) ks_) ?_
      refine go (u' := s₁.setTop (mkF m 53 #[.val (.int p0)] [(.int (1 : Int32))])) (fun _ ks_ => XS.goto X0.here hx rfl (pc0 := 49) (pc' := 53) rfl (hb hby d1_49) (by decide) (by decide) ks_) ?_
      rw [hG]
      refine gN X0 hx hlk (t := .boolean) hret (by simp) rfl (hb hby d1_53) ?_ (Nat.le_of_ble_eq_true rfl) (Nat.le_of_ble_eq_true rfl)
      show Q_rm1 Z p0 lo hi h0 n0 (some (.int (1 : Int32))) s₁.heap _
      rw [e0]
      exact ⟨congrArg (fun z => some (Value.int z)) (B1 (Or.inr ⟨c3_1, (Or.inl c30_3)⟩)), N0, rfl⟩
theorem pd__40_I_41_Z : parseMethodDescriptor "(I)Z" = some ⟨[.int], some .boolean⟩ := by decide +kernel
theorem pn_com_example_locattr_locattr_UriReferencesMustEscapePinLaw_law_0 : plainFor x = true := by first | exact plainFor_of_name (by first | (simp [plainName, overriddenIn]; done) | decide +kernel) | decide +kernel
def Q_rm0 (Z : State) (p0 : Int32) (p1 : Int32) (h0 : Heap) (n0 : Nat) (v : Option Value) (h : Heap) (L : List Loc) : Prop := v = some (.int (1 : Int32)) ∧ Fr n0 L
set_option maxRecDepth 65536 in
set_option maxHeartbeats 4000000 in
theorem ef_rm0 (m : MethodId) (p0 : Int32) (p1 : Int32) : entryFrame m #[(.int p0), (.int p1)] maxLocals = mkF m 0 #[.val (.int p0), .val (.int p1), .unset, .unset, .unset] [] := by first | (simp [entryFrame, mkF, argsToLocals, Value.category, maxLocals]; done) | rfl
set_option maxRecDepth 65536 in
set_option maxHeartbeats 40000000 in
theorem rm0 (l : Launch) (Z : State) (a0 : Array Value) (hw : ∀ d ∈ tables_1, d.before a0 Z = true) (ws : List Jvm.Cond) (p0 : Int32) (p1 : Int32) (h0 : Heap) (n0 : Nat) (Z0 : n0 ≤ h0.size) (F0 : Sta Z h0 "com/example/locattr/locattr/UriReferences" "ESCAPED_LOW" "J" (.long (5764607548804038655 : Int64))) (F1 : Sta Z h0 "com/example/locattr/locattr/UriReferences" "ESCAPED_HIGH" "J" (.long (-5188146765093666816 : Int64))) :
    MetFree l x (head1 (Jvm.Cond.code x code maxLocals ret :: ws) room_1) (fun a U => a = #[(.int p0), (.int p1)] ∧ Z.Warmed39 U.vm ∧ U.heap = h0) (fun _ _ _ _ _ => True) (fun _ U o U' => ∃ v L, o = .returned v ∧ Q_rm0 Z p0 p1 h0 n0 v U'.heap L ∧ FrameEnd U o U' L room_1.cells room_1.slots) := by
  refine body pn_com_example_locattr_locattr_UriReferencesMustEscapePinLaw_law_0 ?_
  intro p e s m below meth c s₁ hx hby hml hown hnm hret hlk hZ e0 X0
  replace hml : c.maxLocals = 5 := hml
  replace hown : s.vm.findClass "com/example/locattr/locattr/UriReferencesMustEscapePinLaw" = some m.cls := hown
  replace hnm : meth.name = "law" := hnm
  replace hret : meth.sig.returnType = (some .boolean) := hret
  have N0 := Fr.nil n0
  rw [ef_rm0]
  obtain ⟨G, hG⟩ : ∃ G, G = End (Q_rm0 Z p0 p1 h0 n0) s room_1.cells room_1.slots := ⟨_, rfl⟩
  rw [← hG]
  refine go (u' := s₁.setTop (mkF m 1 #[.val (.int p0), .val (.int p1), .unset, .unset, .unset] [(.int p1)])) (fun _ ks_ => XS.iloadN X0.here hx rfl (hb hby at_0) rfl  ks_) ?_
  refine go (u' := s₁.setTop (mkF m 2 #[.val (.int p0), .val (.int p1), .unset, .unset, .unset] [(.int (1 : Int32)), (.int p1)])) (fun _ ks_ => XS.iconst X0.here hx rfl (hb hby at_1) ks_) ?_
  refine go (u' := s₁.setTop (mkF m 3 #[.val (.int p0), .val (.int p1), .unset, .unset, .unset] [(.int (p1 &&& (1 : Int32)))])) (fun _ ks_ => XS.iand X0.here hx rfl (hb hby at_2) rfl ks_) ?_
  have J11_1 : ∀ v11_1 : Int32, v11_1 = (B (¬ ((p1 &&& (1 : Int32)) = (0 : Int32)))) → Go p.tables e below G (s₁.setTop (mkF m 11 #[.val (.int p0), .val (.int p1), .unset, .unset, .unset] [(.int v11_1)])) := by
    intro v11_1 hv11_1
    subst hv11_1
    refine go (u' := s₁.setTop (mkF m 12 #[.val (.int p0), .val (.int p1), .val (.int (B (¬ ((p1 &&& (1 : Int32)) = (0 : Int32))))), .unset, .unset] [])) (fun _ ks_ => XS.istoreN X0.here hx rfl (hb hby at_11) rfl  (l' := #[.val (.int p0), .val (.int p1), .val (.int (B (¬ ((p1 &&& (1 : Int32)) = (0 : Int32))))), .unset, .unset]) rfl ks_) ?_
    refine go (u' := s₁.setTop (mkF m 13 #[.val (.int p0), .val (.int p1), .val (.int (B (¬ ((p1 &&& (1 : Int32)) = (0 : Int32))))), .unset, .unset] [(.int (B (¬ ((p1 &&& (1 : Int32)) = (0 : Int32)))))])) (fun _ ks_ => XS.iloadN X0.here hx rfl (hb hby at_12) rfl  ks_) ?_
    have J30_2 : ∀ cc : Int32, cc = (if (¬ ((p1 &&& (1 : Int32)) = (0 : Int32))) then (p0 &&& (127 : Int32)) else ((p0 &&& (2147483647 : Int32)) % (1114112 : Int32))) → Go p.tables e below G (s₁.setTop (mkF m 30 #[.val (.int p0), .val (.int p1), .val (.int (B (¬ ((p1 &&& (1 : Int32)) = (0 : Int32))))), .unset, .unset] [(.int cc)])) := by
      intro cc hcc
      refine go (u' := s₁.setTop (mkF m 31 #[.val (.int p0), .val (.int p1), .val (.int (B (¬ ((p1 &&& (1 : Int32)) = (0 : Int32))))), .val (.int cc), .unset] [])) (fun _ ks_ => XS.istoreN X0.here hx rfl (hb hby at_30) rfl  (l' := #[.val (.int p0), .val (.int p1), .val (.int (B (¬ ((p1 &&& (1 : Int32)) = (0 : Int32))))), .val (.int cc), .unset]) rfl ks_) ?_
      refine go (u' := s₁.setTop (mkF m 32 #[.val (.int p0), .val (.int p1), .val (.int (B (¬ ((p1 &&& (1 : Int32)) = (0 : Int32))))), .val (.int cc), .unset] [(.int cc)])) (fun _ ks_ => XS.iloadN X0.here hx rfl (hb hby at_31) rfl  ks_) ?_
      refine go (u' := s₁.setTop (mkF m 34 #[.val (.int p0), .val (.int p1), .val (.int (B (¬ ((p1 &&& (1 : Int32)) = (0 : Int32))))), .val (.int cc), .unset] [(.int (32 : Int32)), (.int cc)])) (fun _ ks_ => XS.bipush X0.here hx rfl (hb hby at_32) ks_) ?_
      have J109_3 : ∀ v109_3 : Int32, v109_3 = (B ((¬ ((32 : Int32) < cc)) ∨ ((cc = (127 : Int32)) ∨ ((¬ (cc < (128 : Int32))) ∨ ((cc = (60 : Int32)) ∨ ((cc = (62 : Int32)) ∨ ((cc = (34 : Int32)) ∨ ((cc = (123 : Int32)) ∨ ((cc = (125 : Int32)) ∨ ((cc = (124 : Int32)) ∨ ((cc = (92 : Int32)) ∨ ((cc = (94 : Int32)) ∨ (cc = (96 : Int32)))))))))))))) → Go p.tables e below G (s₁.setTop (mkF m 109 #[.val (.int p0), .val (.int p1), .val (.int (B (¬ ((p1 &&& (1 : Int32)) = (0 : Int32))))), .val (.int cc), .unset] [(.int v109_3)])) := by
        intro v109_3 hv109_3
        subst hv109_3
        refine go (u' := s₁.setTop (mkF m 111 #[.val (.int p0), .val (.int p1), .val (.int (B (¬ ((p1 &&& (1 : Int32)) = (0 : Int32))))), .val (.int cc), .val (.int (B ((¬ ((32 : Int32) < cc)) ∨ ((cc = (127 : Int32)) ∨ ((¬ (cc < (128 : Int32))) ∨ ((cc = (60 : Int32)) ∨ ((cc = (62 : Int32)) ∨ ((cc = (34 : Int32)) ∨ ((cc = (123 : Int32)) ∨ ((cc = (125 : Int32)) ∨ ((cc = (124 : Int32)) ∨ ((cc = (92 : Int32)) ∨ ((cc = (94 : Int32)) ∨ (cc = (96 : Int32)))))))))))))))] [])) (fun _ ks_ => XS.istore X0.here hx rfl (hb hby at_109) rfl  (l' := #[.val (.int p0), .val (.int p1), .val (.int (B (¬ ((p1 &&& (1 : Int32)) = (0 : Int32))))), .val (.int cc), .val (.int (B ((¬ ((32 : Int32) < cc)) ∨ ((cc = (127 : Int32)) ∨ ((¬ (cc < (128 : Int32))) ∨ ((cc = (60 : Int32)) ∨ ((cc = (62 : Int32)) ∨ ((cc = (34 : Int32)) ∨ ((cc = (123 : Int32)) ∨ ((cc = (125 : Int32)) ∨ ((cc = (124 : Int32)) ∨ ((cc = (92 : Int32)) ∨ ((cc = (94 : Int32)) ∨ (cc = (96 : Int32)))))))))))))))]) rfl ks_) ?_
        refine go (u' := s₁.setTop (mkF m 112 #[.val (.int p0), .val (.int p1), .val (.int (B (¬ ((p1 &&& (1 : Int32)) = (0 : Int32))))), .val (.int cc), .val (.int (B ((¬ ((32 : Int32) < cc)) ∨ ((cc = (127 : Int32)) ∨ ((¬ (cc < (128 : Int32))) ∨ ((cc = (60 : Int32)) ∨ ((cc = (62 : Int32)) ∨ ((cc = (34 : Int32)) ∨ ((cc = (123 : Int32)) ∨ ((cc = (125 : Int32)) ∨ ((cc = (124 : Int32)) ∨ ((cc = (92 : Int32)) ∨ ((cc = (94 : Int32)) ∨ (cc = (96 : Int32)))))))))))))))] [(.int cc)])) (fun _ ks_ => XS.iloadN X0.here hx rfl (hb hby at_111) rfl  ks_) ?_
        obtain ⟨_, _, ⟨T1, L1, k1, n1⟩, -, X1, ⟨Lc1, hQ1, l1, y1, z1⟩, st1⟩ := Jvm.LawKit.callS X0 hx (y := (⟨"com/example/locattr/locattr/UriReferences", "mustEscape", "(I)Z"⟩ : MethodName)) hown (mvT hZ (ww hw 0 rfl)) (mvT hZ (ww hw 1 rfl)) (mvT hZ (ww hw 2 rfl)) (mvT hZ (ww hw 3 rfl)) (by decide) (backOf (W := 0) (rm1 l Z a0 hw [] cc (5764607548804038655 : Int64) (-5188146765093666816 : Int64) h0 n0 Z0 F0 F1) hZ (ww hw 3 rfl) (ww hw 2 rfl) (by decide) (by decide)) (g := (mkF m 112 #[.val (.int p0), .val (.int p1), .val (.int (B (¬ ((p1 &&& (1 : Int32)) = (0 : Int32))))), .val (.int cc), .val (.int (B ((¬ ((32 : Int32) < cc)) ∨ ((cc = (127 : Int32)) ∨ ((¬ (cc < (128 : Int32))) ∨ ((cc = (60 : Int32)) ∨ ((cc = (62 : Int32)) ∨ ((cc = (34 : Int32)) ∨ ((cc = (123 : Int32)) ∨ ((cc = (125 : Int32)) ∨ ((cc = (124 : Int32)) ∨ ((cc = (92 : Int32)) ∨ ((cc = (94 : Int32)) ∨ (cc = (96 : Int32)))))))))))))))] [(.int cc)])) rfl (by rw [hml]; rfl) (argsL := [(.int cc)]) (rest := []) (lenOf pd__40_I_41_Z rfl) rfl (by show 2 * 0 + _ ≤ _; exact Nat.le_of_eq rfl) (hb hby at_112) (fun _ _ => ⟨rfl, e0, (by decide : 0 + 0 ≤ _), (by decide : 0 + 0 ≤ _)⟩)
        dsimp only [Pt.U, Pt.locs, Pt.cells, Pt.slots] at X1 l1 y1 z1 st1 hQ1
        subst l1 y1 z1
        obtain ⟨rfl, N1q, eq1⟩ := hQ1
        have N1 := Fr.app N0 N1q
        refine go (u' := T1.setTop (mkF m 115 #[.val (.int p0), .val (.int p1), .val (.int (B (¬ ((p1 &&& (1 : Int32)) = (0 : Int32))))), .val (.int cc), .val (.int (B ((¬ ((32 : Int32) < cc)) ∨ ((cc = (127 : Int32)) ∨ ((¬ (cc < (128 : Int32))) ∨ ((cc = (60 : Int32)) ∨ ((cc = (62 : Int32)) ∨ ((cc = (34 : Int32)) ∨ ((cc = (123 : Int32)) ∨ ((cc = (125 : Int32)) ∨ ((cc = (124 : Int32)) ∨ ((cc = (92 : Int32)) ∨ ((cc = (94 : Int32)) ∨ (cc = (96 : Int32)))))))))))))))] [(.int (B (((cc < (64 : Int32)) ∧ (¬ (((((5764607548804038655 : Int64).toUInt64 >>> (cc &&& 0x3f).toInt64.toUInt64).toInt64) &&& (1 : Int64)) = (0 : Int64)))) ∨ ((¬ (cc < (64 : Int32))) ∧ ((¬ (cc < (128 : Int32))) ∨ (¬ (((((-5188146765093666816 : Int64).toUInt64 >>> ((cc - (64 : Int32)) &&& 0x3f).toInt64.toUInt64).toInt64) &&& (1 : Int64)) = (0 : Int64))))))))])) st1 ?_
        refine go (u' := T1.setTop (mkF m 117 #[.val (.int p0), .val (.int p1), .val (.int (B (¬ ((p1 &&& (1 : Int32)) = (0 : Int32))))), .val (.int cc), .val (.int (B ((¬ ((32 : Int32) < cc)) ∨ ((cc = (127 : Int32)) ∨ ((¬ (cc < (128 : Int32))) ∨ ((cc = (60 : Int32)) ∨ ((cc = (62 : Int32)) ∨ ((cc = (34 : Int32)) ∨ ((cc = (123 : Int32)) ∨ ((cc = (125 : Int32)) ∨ ((cc = (124 : Int32)) ∨ ((cc = (92 : Int32)) ∨ ((cc = (94 : Int32)) ∨ (cc = (96 : Int32)))))))))))))))] [(.int (B ((¬ ((32 : Int32) < cc)) ∨ ((cc = (127 : Int32)) ∨ ((¬ (cc < (128 : Int32))) ∨ ((cc = (60 : Int32)) ∨ ((cc = (62 : Int32)) ∨ ((cc = (34 : Int32)) ∨ ((cc = (123 : Int32)) ∨ ((cc = (125 : Int32)) ∨ ((cc = (124 : Int32)) ∨ ((cc = (92 : Int32)) ∨ ((cc = (94 : Int32)) ∨ (cc = (96 : Int32))))))))))))))), (.int (B (((cc < (64 : Int32)) ∧ (¬ (((((5764607548804038655 : Int64).toUInt64 >>> (cc &&& 0x3f).toInt64.toUInt64).toInt64) &&& (1 : Int64)) = (0 : Int64)))) ∨ ((¬ (cc < (64 : Int32))) ∧ ((¬ (cc < (128 : Int32))) ∨ (¬ (((((-5188146765093666816 : Int64).toUInt64 >>> ((cc - (64 : Int32)) &&& 0x3f).toInt64.toUInt64).toInt64) &&& (1 : Int64)) = (0 : Int64))))))))])) (fun _ ks_ => XS.iload X1.here hx rfl (hb hby at_115) rfl  ks_) ?_
        refine go (u' := T1.setTop (mkF m 120 #[.val (.int p0), .val (.int p1), .val (.int (B (¬ ((p1 &&& (1 : Int32)) = (0 : Int32))))), .val (.int cc), .val (.int (B ((¬ ((32 : Int32) < cc)) ∨ ((cc = (127 : Int32)) ∨ ((¬ (cc < (128 : Int32))) ∨ ((cc = (60 : Int32)) ∨ ((cc = (62 : Int32)) ∨ ((cc = (34 : Int32)) ∨ ((cc = (123 : Int32)) ∨ ((cc = (125 : Int32)) ∨ ((cc = (124 : Int32)) ∨ ((cc = (92 : Int32)) ∨ ((cc = (94 : Int32)) ∨ (cc = (96 : Int32)))))))))))))))] [])) (fun _ ks_ => XS.icmpNo X1.here hx rfl (hb hby at_117) rfl (teq (show (B (((cc < (64 : Int32)) ∧ (¬ (((((5764607548804038655 : Int64).toUInt64 >>> (cc &&& 0x3f).toInt64.toUInt64).toInt64) &&& (1 : Int64)) = (0 : Int64)))) ∨ ((¬ (cc < (64 : Int32))) ∧ ((¬ (cc < (128 : Int32))) ∨ (¬ (((((-5188146765093666816 : Int64).toUInt64 >>> ((cc - (64 : Int32)) &&& 0x3f).toInt64.toUInt64).toInt64) &&& (1 : Int64)) = (0 : Int64))))))) = (B ((¬ ((32 : Int32) < cc)) ∨ ((cc = (127 : Int32)) ∨ ((¬ (cc < (128 : Int32))) ∨ ((cc = (60 : Int32)) ∨ ((cc = (62 : Int32)) ∨ ((cc = (34 : Int32)) ∨ ((cc = (123 : Int32)) ∨ ((cc = (125 : Int32)) ∨ ((cc = (124 : Int32)) ∨ ((cc = (92 : Int32)) ∨ ((cc = (94 : Int32)) ∨ (cc = (96 : Int32)))))))))))))) from (B_iff (own_esc cc (own_rng p0 p1 cc hcc))))).2 ks_) ?_
        refine go (u' := T1.setTop (mkF m 121 #[.val (.int p0), .val (.int p1), .val (.int (B (¬ ((p1 &&& (1 : Int32)) = (0 : Int32))))), .val (.int cc), .val (.int (B ((¬ ((32 : Int32) < cc)) ∨ ((cc = (127 : Int32)) ∨ ((¬ (cc < (128 : Int32))) ∨ ((cc = (60 : Int32)) ∨ ((cc = (62 : Int32)) ∨ ((cc = (34 : Int32)) ∨ ((cc = (123 : Int32)) ∨ ((cc = (125 : Int32)) ∨ ((cc = (124 : Int32)) ∨ ((cc = (92 : Int32)) ∨ ((cc = (94 : Int32)) ∨ (cc = (96 : Int32)))))))))))))))] [(.int (1 : Int32))])) (fun _ ks_ => XS.iconst X1.here hx rfl (hb hby at_120) ks_) ?_
        refine go (u' := T1.setTop (mkF m 125 #[.val (.int p0), .val (.int p1), .val (.int (B (¬ ((p1 &&& (1 : Int32)) = (0 : Int32))))), .val (.int cc), .val (.int (B ((¬ ((32 : Int32) < cc)) ∨ ((cc = (127 : Int32)) ∨ ((¬ (cc < (128 : Int32))) ∨ ((cc = (60 : Int32)) ∨ ((cc = (62 : Int32)) ∨ ((cc = (34 : Int32)) ∨ ((cc = (123 : Int32)) ∨ ((cc = (125 : Int32)) ∨ ((cc = (124 : Int32)) ∨ ((cc = (92 : Int32)) ∨ ((cc = (94 : Int32)) ∨ (cc = (96 : Int32)))))))))))))))] [(.int (1 : Int32))])) (fun _ ks_ => XS.goto X1.here hx rfl (pc0 := 121) (pc' := 125) rfl (hb hby at_121) (by decide) (by decide) ks_) ?_
        rw [hG]
        refine gN X1 hx hlk (t := .boolean) hret (by simp) rfl (hb hby at_125) ?_ (Nat.le_of_ble_eq_true rfl) (Nat.le_of_ble_eq_true rfl)
        show Q_rm0 Z p0 p1 h0 n0 (some (.int (1 : Int32))) T1.heap _
        rw [eq1]
        exact ⟨rfl, N1⟩
      by_cases c34_1 : (32 : Int32) < cc
      ·
        refine go (u' := s₁.setTop (mkF m 37 #[.val (.int p0), .val (.int p1), .val (.int (B (¬ ((p1 &&& (1 : Int32)) = (0 : Int32))))), .val (.int cc), .unset] [])) (fun _ ks_ => XS.icmpNo X0.here hx rfl (hb hby at_34) rfl (tlt c34_1).2.2.2 ks_) ?_
        refine go (u' := s₁.setTop (mkF m 38 #[.val (.int p0), .val (.int p1), .val (.int (B (¬ ((p1 &&& (1 : Int32)) = (0 : Int32))))), .val (.int cc), .unset] [(.int cc)])) (fun _ ks_ => XS.iloadN X0.here hx rfl (hb hby at_37) rfl  ks_) ?_
        refine go (u' := s₁.setTop (mkF m 40 #[.val (.int p0), .val (.int p1), .val (.int (B (¬ ((p1 &&& (1 : Int32)) = (0 : Int32))))), .val (.int cc), .unset] [(.int (127 : Int32)), (.int cc)])) (fun _ ks_ => XS.bipush X0.here hx rfl (hb hby at_38) ks_) ?_
        by_cases c40_2 : cc = (127 : Int32)
        ·
          refine go (u' := s₁.setTop (mkF m 104 #[.val (.int p0), .val (.int p1), .val (.int (B (¬ ((p1 &&& (1 : Int32)) = (0 : Int32))))), .val (.int cc), .unset] [])) (fun _ ks_ => XS.icmpYes X0.here hx rfl (pc0 := 40) (pc' := 104) rfl (hb hby at_40) rfl (teq c40_2).1 (by decide) (by decide) ks_) ?_
          refine go (u' := s₁.setTop (mkF m 105 #[.val (.int p0), .val (.int p1), .val (.int (B (¬ ((p1 &&& (1 : Int32)) = (0 : Int32))))), .val (.int cc), .unset] [(.int (1 : Int32))])) (fun _ ks_ => XS.iconst X0.here hx rfl (hb hby at_104) ks_) ?_
          refine go (u' := s₁.setTop (mkF m 109 #[.val (.int p0), .val (.int p1), .val (.int (B (¬ ((p1 &&& (1 : Int32)) = (0 : Int32))))), .val (.int cc), .unset] [(.int (1 : Int32))])) (fun _ ks_ => XS.goto X0.here hx rfl (pc0 := 105) (pc' := 109) rfl (hb hby at_105) (by decide) (by decide) ks_) ?_
          exact J109_3 _ (B1 (Or.inr (Or.inl c40_2)))
        ·
          refine go (u' := s₁.setTop (mkF m 43 #[.val (.int p0), .val (.int p1), .val (.int (B (¬ ((p1 &&& (1 : Int32)) = (0 : Int32))))), .val (.int cc), .unset] [])) (fun _ ks_ => XS.icmpNo X0.here hx rfl (hb hby at_40) rfl (feq c40_2).1 ks_) ?_
          refine go (u' := s₁.setTop (mkF m 44 #[.val (.int p0), .val (.int p1), .val (.int (B (¬ ((p1 &&& (1 : Int32)) = (0 : Int32))))), .val (.int cc), .unset] [(.int cc)])) (fun _ ks_ => XS.iloadN X0.here hx rfl (hb hby at_43) rfl  ks_) ?_
          refine go (u' := s₁.setTop (mkF m 47 #[.val (.int p0), .val (.int p1), .val (.int (B (¬ ((p1 &&& (1 : Int32)) = (0 : Int32))))), .val (.int cc), .unset] [(.int (128 : Int32)), (.int cc)])) (fun _ ks_ => XS.sipush X0.here hx rfl (hb hby at_44) ks_) ?_
          by_cases c47_3 : cc < (128 : Int32)
          ·
            refine go (u' := s₁.setTop (mkF m 50 #[.val (.int p0), .val (.int p1), .val (.int (B (¬ ((p1 &&& (1 : Int32)) = (0 : Int32))))), .val (.int cc), .unset] [])) (fun _ ks_ => XS.icmpNo X0.here hx rfl (hb hby at_47) rfl (tlt c47_3).2.1 ks_) ?_
            refine go (u' := s₁.setTop (mkF m 51 #[.val (.int p0), .val (.int p1), .val (.int (B (¬ ((p1 &&& (1 : Int32)) = (0 : Int32))))), .val (.int cc), .unset] [(.int cc)])) (fun _ ks_ => XS.iloadN X0.here hx rfl (hb hby at_50) rfl  ks_) ?_
            refine go (u' := s₁.setTop (mkF m 53 #[.val (.int p0), .val (.int p1), .val (.int (B (¬ ((p1 &&& (1 : Int32)) = (0 : Int32))))), .val (.int cc), .unset] [(.int (60 : Int32)), (.int cc)])) (fun _ ks_ => XS.bipush X0.here hx rfl (hb hby at_51) ks_) ?_
            by_cases c53_4 : cc = (60 : Int32)
            ·
              refine go (u' := s₁.setTop (mkF m 104 #[.val (.int p0), .val (.int p1), .val (.int (B (¬ ((p1 &&& (1 : Int32)) = (0 : Int32))))), .val (.int cc), .unset] [])) (fun _ ks_ => XS.icmpYes X0.here hx rfl (pc0 := 53) (pc' := 104) rfl (hb hby at_53) rfl (teq c53_4).1 (by decide) (by decide) ks_) ?_
              refine go (u' := s₁.setTop (mkF m 105 #[.val (.int p0), .val (.int p1), .val (.int (B (¬ ((p1 &&& (1 : Int32)) = (0 : Int32))))), .val (.int cc), .unset] [(.int (1 : Int32))])) (fun _ ks_ => XS.iconst X0.here hx rfl (hb hby at_104) ks_) ?_
              refine go (u' := s₁.setTop (mkF m 109 #[.val (.int p0), .val (.int p1), .val (.int (B (¬ ((p1 &&& (1 : Int32)) = (0 : Int32))))), .val (.int cc), .unset] [(.int (1 : Int32))])) (fun _ ks_ => XS.goto X0.here hx rfl (pc0 := 105) (pc' := 109) rfl (hb hby at_105) (by decide) (by decide) ks_) ?_
              exact J109_3 _ (B1 (Or.inr (Or.inr (Or.inr (Or.inl c53_4)))))
            ·
              refine go (u' := s₁.setTop (mkF m 56 #[.val (.int p0), .val (.int p1), .val (.int (B (¬ ((p1 &&& (1 : Int32)) = (0 : Int32))))), .val (.int cc), .unset] [])) (fun _ ks_ => XS.icmpNo X0.here hx rfl (hb hby at_53) rfl (feq c53_4).1 ks_) ?_
              refine go (u' := s₁.setTop (mkF m 57 #[.val (.int p0), .val (.int p1), .val (.int (B (¬ ((p1 &&& (1 : Int32)) = (0 : Int32))))), .val (.int cc), .unset] [(.int cc)])) (fun _ ks_ => XS.iloadN X0.here hx rfl (hb hby at_56) rfl  ks_) ?_
              refine go (u' := s₁.setTop (mkF m 59 #[.val (.int p0), .val (.int p1), .val (.int (B (¬ ((p1 &&& (1 : Int32)) = (0 : Int32))))), .val (.int cc), .unset] [(.int (62 : Int32)), (.int cc)])) (fun _ ks_ => XS.bipush X0.here hx rfl (hb hby at_57) ks_) ?_
              by_cases c59_5 : cc = (62 : Int32)
              ·
                refine go (u' := s₁.setTop (mkF m 104 #[.val (.int p0), .val (.int p1), .val (.int (B (¬ ((p1 &&& (1 : Int32)) = (0 : Int32))))), .val (.int cc), .unset] [])) (fun _ ks_ => XS.icmpYes X0.here hx rfl (pc0 := 59) (pc' := 104) rfl (hb hby at_59) rfl (teq c59_5).1 (by decide) (by decide) ks_) ?_
                refine go (u' := s₁.setTop (mkF m 105 #[.val (.int p0), .val (.int p1), .val (.int (B (¬ ((p1 &&& (1 : Int32)) = (0 : Int32))))), .val (.int cc), .unset] [(.int (1 : Int32))])) (fun _ ks_ => XS.iconst X0.here hx rfl (hb hby at_104) ks_) ?_
                refine go (u' := s₁.setTop (mkF m 109 #[.val (.int p0), .val (.int p1), .val (.int (B (¬ ((p1 &&& (1 : Int32)) = (0 : Int32))))), .val (.int cc), .unset] [(.int (1 : Int32))])) (fun _ ks_ => XS.goto X0.here hx rfl (pc0 := 105) (pc' := 109) rfl (hb hby at_105) (by decide) (by decide) ks_) ?_
                exact J109_3 _ (B1 (Or.inr (Or.inr (Or.inr (Or.inr (Or.inl c59_5))))))
              ·
                refine go (u' := s₁.setTop (mkF m 62 #[.val (.int p0), .val (.int p1), .val (.int (B (¬ ((p1 &&& (1 : Int32)) = (0 : Int32))))), .val (.int cc), .unset] [])) (fun _ ks_ => XS.icmpNo X0.here hx rfl (hb hby at_59) rfl (feq c59_5).1 ks_) ?_
                refine go (u' := s₁.setTop (mkF m 63 #[.val (.int p0), .val (.int p1), .val (.int (B (¬ ((p1 &&& (1 : Int32)) = (0 : Int32))))), .val (.int cc), .unset] [(.int cc)])) (fun _ ks_ => XS.iloadN X0.here hx rfl (hb hby at_62) rfl  ks_) ?_
                refine go (u' := s₁.setTop (mkF m 65 #[.val (.int p0), .val (.int p1), .val (.int (B (¬ ((p1 &&& (1 : Int32)) = (0 : Int32))))), .val (.int cc), .unset] [(.int (34 : Int32)), (.int cc)])) (fun _ ks_ => XS.bipush X0.here hx rfl (hb hby at_63) ks_) ?_
                by_cases c65_6 : cc = (34 : Int32)
                ·
                  refine go (u' := s₁.setTop (mkF m 104 #[.val (.int p0), .val (.int p1), .val (.int (B (¬ ((p1 &&& (1 : Int32)) = (0 : Int32))))), .val (.int cc), .unset] [])) (fun _ ks_ => XS.icmpYes X0.here hx rfl (pc0 := 65) (pc' := 104) rfl (hb hby at_65) rfl (teq c65_6).1 (by decide) (by decide) ks_) ?_
                  refine go (u' := s₁.setTop (mkF m 105 #[.val (.int p0), .val (.int p1), .val (.int (B (¬ ((p1 &&& (1 : Int32)) = (0 : Int32))))), .val (.int cc), .unset] [(.int (1 : Int32))])) (fun _ ks_ => XS.iconst X0.here hx rfl (hb hby at_104) ks_) ?_
                  refine go (u' := s₁.setTop (mkF m 109 #[.val (.int p0), .val (.int p1), .val (.int (B (¬ ((p1 &&& (1 : Int32)) = (0 : Int32))))), .val (.int cc), .unset] [(.int (1 : Int32))])) (fun _ ks_ => XS.goto X0.here hx rfl (pc0 := 105) (pc' := 109) rfl (hb hby at_105) (by decide) (by decide) ks_) ?_
                  exact J109_3 _ (B1 (Or.inr (Or.inr (Or.inr (Or.inr (Or.inr (Or.inl c65_6)))))))
                ·
                  refine go (u' := s₁.setTop (mkF m 68 #[.val (.int p0), .val (.int p1), .val (.int (B (¬ ((p1 &&& (1 : Int32)) = (0 : Int32))))), .val (.int cc), .unset] [])) (fun _ ks_ => XS.icmpNo X0.here hx rfl (hb hby at_65) rfl (feq c65_6).1 ks_) ?_
                  refine go (u' := s₁.setTop (mkF m 69 #[.val (.int p0), .val (.int p1), .val (.int (B (¬ ((p1 &&& (1 : Int32)) = (0 : Int32))))), .val (.int cc), .unset] [(.int cc)])) (fun _ ks_ => XS.iloadN X0.here hx rfl (hb hby at_68) rfl  ks_) ?_
                  refine go (u' := s₁.setTop (mkF m 71 #[.val (.int p0), .val (.int p1), .val (.int (B (¬ ((p1 &&& (1 : Int32)) = (0 : Int32))))), .val (.int cc), .unset] [(.int (123 : Int32)), (.int cc)])) (fun _ ks_ => XS.bipush X0.here hx rfl (hb hby at_69) ks_) ?_
                  by_cases c71_7 : cc = (123 : Int32)
                  ·
                    refine go (u' := s₁.setTop (mkF m 104 #[.val (.int p0), .val (.int p1), .val (.int (B (¬ ((p1 &&& (1 : Int32)) = (0 : Int32))))), .val (.int cc), .unset] [])) (fun _ ks_ => XS.icmpYes X0.here hx rfl (pc0 := 71) (pc' := 104) rfl (hb hby at_71) rfl (teq c71_7).1 (by decide) (by decide) ks_) ?_
                    refine go (u' := s₁.setTop (mkF m 105 #[.val (.int p0), .val (.int p1), .val (.int (B (¬ ((p1 &&& (1 : Int32)) = (0 : Int32))))), .val (.int cc), .unset] [(.int (1 : Int32))])) (fun _ ks_ => XS.iconst X0.here hx rfl (hb hby at_104) ks_) ?_
                    refine go (u' := s₁.setTop (mkF m 109 #[.val (.int p0), .val (.int p1), .val (.int (B (¬ ((p1 &&& (1 : Int32)) = (0 : Int32))))), .val (.int cc), .unset] [(.int (1 : Int32))])) (fun _ ks_ => XS.goto X0.here hx rfl (pc0 := 105) (pc' := 109) rfl (hb hby at_105) (by decide) (by decide) ks_) ?_
                    exact J109_3 _ (B1 (Or.inr (Or.inr (Or.inr (Or.inr (Or.inr (Or.inr (Or.inl c71_7))))))))
                  ·
                    refine go (u' := s₁.setTop (mkF m 74 #[.val (.int p0), .val (.int p1), .val (.int (B (¬ ((p1 &&& (1 : Int32)) = (0 : Int32))))), .val (.int cc), .unset] [])) (fun _ ks_ => XS.icmpNo X0.here hx rfl (hb hby at_71) rfl (feq c71_7).1 ks_) ?_
                    refine go (u' := s₁.setTop (mkF m 75 #[.val (.int p0), .val (.int p1), .val (.int (B (¬ ((p1 &&& (1 : Int32)) = (0 : Int32))))), .val (.int cc), .unset] [(.int cc)])) (fun _ ks_ => XS.iloadN X0.here hx rfl (hb hby at_74) rfl  ks_) ?_
                    refine go (u' := s₁.setTop (mkF m 77 #[.val (.int p0), .val (.int p1), .val (.int (B (¬ ((p1 &&& (1 : Int32)) = (0 : Int32))))), .val (.int cc), .unset] [(.int (125 : Int32)), (.int cc)])) (fun _ ks_ => XS.bipush X0.here hx rfl (hb hby at_75) ks_) ?_
                    by_cases c77_8 : cc = (125 : Int32)
                    ·
                      refine go (u' := s₁.setTop (mkF m 104 #[.val (.int p0), .val (.int p1), .val (.int (B (¬ ((p1 &&& (1 : Int32)) = (0 : Int32))))), .val (.int cc), .unset] [])) (fun _ ks_ => XS.icmpYes X0.here hx rfl (pc0 := 77) (pc' := 104) rfl (hb hby at_77) rfl (teq c77_8).1 (by decide) (by decide) ks_) ?_
                      refine go (u' := s₁.setTop (mkF m 105 #[.val (.int p0), .val (.int p1), .val (.int (B (¬ ((p1 &&& (1 : Int32)) = (0 : Int32))))), .val (.int cc), .unset] [(.int (1 : Int32))])) (fun _ ks_ => XS.iconst X0.here hx rfl (hb hby at_104) ks_) ?_
                      refine go (u' := s₁.setTop (mkF m 109 #[.val (.int p0), .val (.int p1), .val (.int (B (¬ ((p1 &&& (1 : Int32)) = (0 : Int32))))), .val (.int cc), .unset] [(.int (1 : Int32))])) (fun _ ks_ => XS.goto X0.here hx rfl (pc0 := 105) (pc' := 109) rfl (hb hby at_105) (by decide) (by decide) ks_) ?_
                      exact J109_3 _ (B1 (Or.inr (Or.inr (Or.inr (Or.inr (Or.inr (Or.inr (Or.inr (Or.inl c77_8)))))))))
                    ·
                      refine go (u' := s₁.setTop (mkF m 80 #[.val (.int p0), .val (.int p1), .val (.int (B (¬ ((p1 &&& (1 : Int32)) = (0 : Int32))))), .val (.int cc), .unset] [])) (fun _ ks_ => XS.icmpNo X0.here hx rfl (hb hby at_77) rfl (feq c77_8).1 ks_) ?_
                      refine go (u' := s₁.setTop (mkF m 81 #[.val (.int p0), .val (.int p1), .val (.int (B (¬ ((p1 &&& (1 : Int32)) = (0 : Int32))))), .val (.int cc), .unset] [(.int cc)])) (fun _ ks_ => XS.iloadN X0.here hx rfl (hb hby at_80) rfl  ks_) ?_
                      refine go (u' := s₁.setTop (mkF m 83 #[.val (.int p0), .val (.int p1), .val (.int (B (¬ ((p1 &&& (1 : Int32)) = (0 : Int32))))), .val (.int cc), .unset] [(.int (124 : Int32)), (.int cc)])) (fun _ ks_ => XS.bipush X0.here hx rfl (hb hby at_81) ks_) ?_
                      by_cases c83_9 : cc = (124 : Int32)
                      ·
                        refine go (u' := s₁.setTop (mkF m 104 #[.val (.int p0), .val (.int p1), .val (.int (B (¬ ((p1 &&& (1 : Int32)) = (0 : Int32))))), .val (.int cc), .unset] [])) (fun _ ks_ => XS.icmpYes X0.here hx rfl (pc0 := 83) (pc' := 104) rfl (hb hby at_83) rfl (teq c83_9).1 (by decide) (by decide) ks_) ?_
                        refine go (u' := s₁.setTop (mkF m 105 #[.val (.int p0), .val (.int p1), .val (.int (B (¬ ((p1 &&& (1 : Int32)) = (0 : Int32))))), .val (.int cc), .unset] [(.int (1 : Int32))])) (fun _ ks_ => XS.iconst X0.here hx rfl (hb hby at_104) ks_) ?_
                        refine go (u' := s₁.setTop (mkF m 109 #[.val (.int p0), .val (.int p1), .val (.int (B (¬ ((p1 &&& (1 : Int32)) = (0 : Int32))))), .val (.int cc), .unset] [(.int (1 : Int32))])) (fun _ ks_ => XS.goto X0.here hx rfl (pc0 := 105) (pc' := 109) rfl (hb hby at_105) (by decide) (by decide) ks_) ?_
                        exact J109_3 _ (B1 (Or.inr (Or.inr (Or.inr (Or.inr (Or.inr (Or.inr (Or.inr (Or.inr (Or.inl c83_9))))))))))
                      ·
                        refine go (u' := s₁.setTop (mkF m 86 #[.val (.int p0), .val (.int p1), .val (.int (B (¬ ((p1 &&& (1 : Int32)) = (0 : Int32))))), .val (.int cc), .unset] [])) (fun _ ks_ => XS.icmpNo X0.here hx rfl (hb hby at_83) rfl (feq c83_9).1 ks_) ?_
                        refine go (u' := s₁.setTop (mkF m 87 #[.val (.int p0), .val (.int p1), .val (.int (B (¬ ((p1 &&& (1 : Int32)) = (0 : Int32))))), .val (.int cc), .unset] [(.int cc)])) (fun _ ks_ => XS.iloadN X0.here hx rfl (hb hby at_86) rfl  ks_) ?_
                        refine go (u' := s₁.setTop (mkF m 89 #[.val (.int p0), .val (.int p1), .val (.int (B (¬ ((p1 &&& (1 : Int32)) = (0 : Int32))))), .val (.int cc), .unset] [(.int (92 : Int32)), (.int cc)])) (fun _ ks_ => XS.bipush X0.here hx rfl (hb hby at_87) ks_) ?_
                        by_cases c89_10 : cc = (92 : Int32)
                        ·
                          refine go (u' := s₁.setTop (mkF m 104 #[.val (.int p0), .val (.int p1), .val (.int (B (¬ ((p1 &&& (1 : Int32)) = (0 : Int32))))), .val (.int cc), .unset] [])) (fun _ ks_ => XS.icmpYes X0.here hx rfl (pc0 := 89) (pc' := 104) rfl (hb hby at_89) rfl (teq c89_10).1 (by decide) (by decide) ks_) ?_
                          refine go (u' := s₁.setTop (mkF m 105 #[.val (.int p0), .val (.int p1), .val (.int (B (¬ ((p1 &&& (1 : Int32)) = (0 : Int32))))), .val (.int cc), .unset] [(.int (1 : Int32))])) (fun _ ks_ => XS.iconst X0.here hx rfl (hb hby at_104) ks_) ?_
                          refine go (u' := s₁.setTop (mkF m 109 #[.val (.int p0), .val (.int p1), .val (.int (B (¬ ((p1 &&& (1 : Int32)) = (0 : Int32))))), .val (.int cc), .unset] [(.int (1 : Int32))])) (fun _ ks_ => XS.goto X0.here hx rfl (pc0 := 105) (pc' := 109) rfl (hb hby at_105) (by decide) (by decide) ks_) ?_
                          exact J109_3 _ (B1 (Or.inr (Or.inr (Or.inr (Or.inr (Or.inr (Or.inr (Or.inr (Or.inr (Or.inr (Or.inl c89_10)))))))))))
                        ·
                          refine go (u' := s₁.setTop (mkF m 92 #[.val (.int p0), .val (.int p1), .val (.int (B (¬ ((p1 &&& (1 : Int32)) = (0 : Int32))))), .val (.int cc), .unset] [])) (fun _ ks_ => XS.icmpNo X0.here hx rfl (hb hby at_89) rfl (feq c89_10).1 ks_) ?_
                          refine go (u' := s₁.setTop (mkF m 93 #[.val (.int p0), .val (.int p1), .val (.int (B (¬ ((p1 &&& (1 : Int32)) = (0 : Int32))))), .val (.int cc), .unset] [(.int cc)])) (fun _ ks_ => XS.iloadN X0.here hx rfl (hb hby at_92) rfl  ks_) ?_
                          refine go (u' := s₁.setTop (mkF m 95 #[.val (.int p0), .val (.int p1), .val (.int (B (¬ ((p1 &&& (1 : Int32)) = (0 : Int32))))), .val (.int cc), .unset] [(.int (94 : Int32)), (.int cc)])) (fun _ ks_ => XS.bipush X0.here hx rfl (hb hby at_93) ks_) ?_
                          by_cases c95_11 : cc = (94 : Int32)
                          ·
                            refine go (u' := s₁.setTop (mkF m 104 #[.val (.int p0), .val (.int p1), .val (.int (B (¬ ((p1 &&& (1 : Int32)) = (0 : Int32))))), .val (.int cc), .unset] [])) (fun _ ks_ => XS.icmpYes X0.here hx rfl (pc0 := 95) (pc' := 104) rfl (hb hby at_95) rfl (teq c95_11).1 (by decide) (by decide) ks_) ?_
                            refine go (u' := s₁.setTop (mkF m 105 #[.val (.int p0), .val (.int p1), .val (.int (B (¬ ((p1 &&& (1 : Int32)) = (0 : Int32))))), .val (.int cc), .unset] [(.int (1 : Int32))])) (fun _ ks_ => XS.iconst X0.here hx rfl (hb hby at_104) ks_) ?_
                            refine go (u' := s₁.setTop (mkF m 109 #[.val (.int p0), .val (.int p1), .val (.int (B (¬ ((p1 &&& (1 : Int32)) = (0 : Int32))))), .val (.int cc), .unset] [(.int (1 : Int32))])) (fun _ ks_ => XS.goto X0.here hx rfl (pc0 := 105) (pc' := 109) rfl (hb hby at_105) (by decide) (by decide) ks_) ?_
                            exact J109_3 _ (B1 (Or.inr (Or.inr (Or.inr (Or.inr (Or.inr (Or.inr (Or.inr (Or.inr (Or.inr (Or.inr (Or.inl c95_11))))))))))))
                          ·
                            refine go (u' := s₁.setTop (mkF m 98 #[.val (.int p0), .val (.int p1), .val (.int (B (¬ ((p1 &&& (1 : Int32)) = (0 : Int32))))), .val (.int cc), .unset] [])) (fun _ ks_ => XS.icmpNo X0.here hx rfl (hb hby at_95) rfl (feq c95_11).1 ks_) ?_
                            refine go (u' := s₁.setTop (mkF m 99 #[.val (.int p0), .val (.int p1), .val (.int (B (¬ ((p1 &&& (1 : Int32)) = (0 : Int32))))), .val (.int cc), .unset] [(.int cc)])) (fun _ ks_ => XS.iloadN X0.here hx rfl (hb hby at_98) rfl  ks_) ?_
                            refine go (u' := s₁.setTop (mkF m 101 #[.val (.int p0), .val (.int p1), .val (.int (B (¬ ((p1 &&& (1 : Int32)) = (0 : Int32))))), .val (.int cc), .unset] [(.int (96 : Int32)), (.int cc)])) (fun _ ks_ => XS.bipush X0.here hx rfl (hb hby at_99) ks_) ?_
                            by_cases c101_12 : cc = (96 : Int32)
                            ·
                              refine go (u' := s₁.setTop (mkF m 104 #[.val (.int p0), .val (.int p1), .val (.int (B (¬ ((p1 &&& (1 : Int32)) = (0 : Int32))))), .val (.int cc), .unset] [])) (fun _ ks_ => XS.icmpNo X0.here hx rfl (hb hby at_101) rfl (teq c101_12).2 ks_) ?_
                              refine go (u' := s₁.setTop (mkF m 105 #[.val (.int p0), .val (.int p1), .val (.int (B (¬ ((p1 &&& (1 : Int32)) = (0 : Int32))))), .val (.int cc), .unset] [(.int (1 : Int32))])) (fun _ ks_ => XS.iconst X0.here hx rfl (hb hby at_104) ks_) ?_
                              refine go (u' := s₁.setTop (mkF m 109 #[.val (.int p0), .val (.int p1), .val (.int (B (¬ ((p1 &&& (1 : Int32)) = (0 : Int32))))), .val (.int cc), .unset] [(.int (1 : Int32))])) (fun _ ks_ => XS.goto X0.here hx rfl (pc0 := 105) (pc' := 109) rfl (hb hby at_105) (by decide) (by decide) ks_) ?_
                              exact J109_3 _ (B1 (Or.inr (Or.inr (Or.inr (Or.inr (Or.inr (Or.inr (Or.inr (Or.inr (Or.inr (Or.inr (Or.inr c101_12))))))))))))
                            ·
                              refine go (u' := s₁.setTop (mkF m 108 #[.val (.int p0), .val (.int p1), .val (.int (B (¬ ((p1 &&& (1 : Int32)) = (0 : Int32))))), .val (.int cc), .unset] [])) (fun _ ks_ => XS.icmpYes X0.here hx rfl (pc0 := 101) (pc' := 108) rfl (hb hby at_101) rfl (feq c101_12).2 (by decide) (by decide) ks_) ?_
                              refine go (u' := s₁.setTop (mkF m 109 #[.val (.int p0), .val (.int p1), .val (.int (B (¬ ((p1 &&& (1 : Int32)) = (0 : Int32))))), .val (.int cc), .unset] [(.int (0 : Int32))])) (fun _ ks_ => XS.iconst X0.here hx rfl (hb hby at_108) ks_) ?_
                              exact J109_3 _ (B0 (fun q => q.elim (fun q => q c34_1) (fun q => q.elim c40_2 (fun q => q.elim (fun q => q c47_3) (fun q => q.elim c53_4 (fun q => q.elim c59_5 (fun q => q.elim c65_6 (fun q => q.elim c71_7 (fun q => q.elim c77_8 (fun q => q.elim c83_9 (fun q => q.elim c89_10 (fun q => q.elim c95_11 c101_12))))))))))))
          ·
            refine go (u' := s₁.setTop (mkF m 104 #[.val (.int p0), .val (.int p1), .val (.int (B (¬ ((p1 &&& (1 : Int32)) = (0 : Int32))))), .val (.int cc), .unset] [])) (fun _ ks_ => XS.icmpYes X0.here hx rfl (pc0 := 47) (pc' := 104) rfl (hb hby at_47) rfl (flt c47_3).2.1 (by decide) (by decide) ks_) ?_
            refine go (u' := s₁.setTop (mkF m 105 #[.val (.int p0), .val (.int p1), .val (.int (B (¬ ((p1 &&& (1 : Int32)) = (0 : Int32))))), .val (.int cc), .unset] [(.int (1 : Int32))])) (fun _ ks_ => XS.iconst X0.here hx rfl (hb hby at_104) ks_) ?_
            refine go (u' := s₁.setTop (mkF m 109 #[.val (.int p0), .val (.int p1), .val (.int (B (¬ ((p1 &&& (1 : Int32)) = (0 : Int32))))), .val (.int cc), .unset] [(.int (1 : Int32))])) (fun _ ks_ => XS.goto X0.here hx rfl (pc0 := 105) (pc' := 109) rfl (hb hby at_105) (by decide) (by decide) ks_) ?_
            exact J109_3 _ (B1 (Or.inr (Or.inr (Or.inl c47_3))))
      ·
        refine go (u' := s₁.setTop (mkF m 104 #[.val (.int p0), .val (.int p1), .val (.int (B (¬ ((p1 &&& (1 : Int32)) = (0 : Int32))))), .val (.int cc), .unset] [])) (fun _ ks_ => XS.icmpYes X0.here hx rfl (pc0 := 34) (pc' := 104) rfl (hb hby at_34) rfl (flt c34_1).2.2.2 (by decide) (by decide) ks_) ?_
        refine go (u' := s₁.setTop (mkF m 105 #[.val (.int p0), .val (.int p1), .val (.int (B (¬ ((p1 &&& (1 : Int32)) = (0 : Int32))))), .val (.int cc), .unset] [(.int (1 : Int32))])) (fun _ ks_ => XS.iconst X0.here hx rfl (hb hby at_104) ks_) ?_
        refine go (u' := s₁.setTop (mkF m 109 #[.val (.int p0), .val (.int p1), .val (.int (B (¬ ((p1 &&& (1 : Int32)) = (0 : Int32))))), .val (.int cc), .unset] [(.int (1 : Int32))])) (fun _ ks_ => XS.goto X0.here hx rfl (pc0 := 105) (pc' := 109) rfl (hb hby at_105) (by decide) (by decide) ks_) ?_
        exact J109_3 _ (B1 (Or.inl c34_1))
    by_cases c13_13 : (¬ ((p1 &&& (1 : Int32)) = (0 : Int32)))
    ·
      refine go (u' := s₁.setTop (mkF m 16 #[.val (.int p0), .val (.int p1), .val (.int (B (¬ ((p1 &&& (1 : Int32)) = (0 : Int32))))), .unset, .unset] [])) (fun _ ks_ => XS.ifNo X0.here hx rfl (hb hby at_13) rfl (bT c13_13).2 ks_) ?_
      refine go (u' := s₁.setTop (mkF m 17 #[.val (.int p0), .val (.int p1), .val (.int (B (¬ ((p1 &&& (1 : Int32)) = (0 : Int32))))), .unset, .unset] [(.int p0)])) (fun _ ks_ => XS.iloadN X0.here hx rfl (hb hby at_16) rfl  ks_) ?_
      refine go (u' := s₁.setTop (mkF m 19 #[.val (.int p0), .val (.int p1), .val (.int (B (¬ ((p1 &&& (1 : Int32)) = (0 : Int32))))), .unset, .unset] [(.int (127 : Int32)), (.int p0)])) (fun _ ks_ => XS.bipush X0.here hx rfl (hb hby at_17) ks_) ?_
      refine go (u' := s₁.setTop (mkF m 20 #[.val (.int p0), .val (.int p1), .val (.int (B (¬ ((p1 &&& (1 : Int32)) = (0 : Int32))))), .unset, .unset] [(.int (p0 &&& (127 : Int32)))])) (fun _ ks_ => XS.iand X0.here hx rfl (hb hby at_19) rfl ks_) ?_
      refine go (u' := s₁.setTop (mkF m 30 #[.val (.int p0), .val (.int p1), .val (.int (B (¬ ((p1 &&& (1 : Int32)) = (0 : Int32))))), .unset, .unset] [(.int (p0 &&& (127 : Int32)))])) (fun _ ks_ => XS.goto X0.here hx rfl (pc0 := 20) (pc' := 30) rfl (hb hby at_20) (by decide) (by decide) ks_) ?_
      exact J30_2 _ ((if_pos c13_13)).symm
    ·
      refine go (u' := s₁.setTop (mkF m 23 #[.val (.int p0), .val (.int p1), .val (.int (B (¬ ((p1 &&& (1 : Int32)) = (0 : Int32))))), .unset, .unset] [])) (fun _ ks_ => XS.ifYes X0.here hx rfl (pc0 := 13) (pc' := 23) rfl (hb hby at_13) rfl (bF c13_13).2 (by decide) (by decide) ks_) ?_
      refine go (u' := s₁.setTop (mkF m 24 #[.val (.int p0), .val (.int p1), .val (.int (B (¬ ((p1 &&& (1 : Int32)) = (0 : Int32))))), .unset, .unset] [(.int p0)])) (fun _ ks_ => XS.iloadN X0.here hx rfl (hb hby at_23) rfl  ks_) ?_
      refine go (u' := s₁.setTop (mkF m 26 #[.val (.int p0), .val (.int p1), .val (.int (B (¬ ((p1 &&& (1 : Int32)) = (0 : Int32))))), .unset, .unset] [(.int (2147483647 : Int32)), (.int p0)])) (X0.ldcInt hx hown (mvT hZ (ww hw 8 rfl)) (g := (mkF m 24 #[.val (.int p0), .val (.int p1), .val (.int (B (¬ ((p1 &&& (1 : Int32)) = (0 : Int32))))), .unset, .unset] [(.int p0)])) rfl (hb hby at_24)) ?_
      refine go (u' := s₁.setTop (mkF m 27 #[.val (.int p0), .val (.int p1), .val (.int (B (¬ ((p1 &&& (1 : Int32)) = (0 : Int32))))), .unset, .unset] [(.int (p0 &&& (2147483647 : Int32)))])) (fun _ ks_ => XS.iand X0.here hx rfl (hb hby at_26) rfl ks_) ?_
      refine go (u' := s₁.setTop (mkF m 29 #[.val (.int p0), .val (.int p1), .val (.int (B (¬ ((p1 &&& (1 : Int32)) = (0 : Int32))))), .unset, .unset] [(.int (1114112 : Int32)), (.int (p0 &&& (2147483647 : Int32)))])) (X0.ldcInt hx hown (mvT hZ (ww hw 9 rfl)) (g := (mkF m 27 #[.val (.int p0), .val (.int p1), .val (.int (B (¬ ((p1 &&& (1 : Int32)) = (0 : Int32))))), .unset, .unset] [(.int (p0 &&& (2147483647 : Int32)))])) rfl (hb hby at_27)) ?_
      refine go (u' := s₁.setTop (mkF m 30 #[.val (.int p0), .val (.int p1), .val (.int (B (¬ ((p1 &&& (1 : Int32)) = (0 : Int32))))), .unset, .unset] [(.int ((p0 &&& (2147483647 : Int32)) % (1114112 : Int32)))])) (fun _ ks_ => iremM (g := (mkF m 29 #[.val (.int p0), .val (.int p1), .val (.int (B (¬ ((p1 &&& (1 : Int32)) = (0 : Int32))))), .unset, .unset] [(.int (1114112 : Int32)), (.int (p0 &&& (2147483647 : Int32)))])) X0 hx rfl (hb hby at_29) rfl (by decide) ks_) ?_
      exact J30_2 _ ((if_neg c13_13)).symm
  by_cases c3_14 : (p1 &&& (1 : Int32)) = (0 : Int32)
  ·
    refine go (u' := s₁.setTop (mkF m 10 #[.val (.int p0), .val (.int p1), .unset, .unset, .unset] [])) (fun _ ks_ => XS.ifYes X0.here hx rfl (pc0 := 3) (pc' := 10) rfl (hb hby at_3) rfl ((if0 _ _).trans (teq c3_14).1) (by decide) (by decide) ks_) ?_
    refine go (u' := s₁.setTop (mkF m 11 #[.val (.int p0), .val (.int p1), .unset, .unset, .unset] [(.int (0 : Int32))])) (fun _ ks_ => XS.iconst X0.here hx rfl (hb hby at_10) ks_) ?_
    exact J11_1 _ (B0 (fun q => q c3_14))
  ·
    refine go (u' := s₁.setTop (mkF m 6 #[.val (.int p0), .val (.int p1), .unset, .unset, .unset] [])) (fun _ ks_ => XS.ifNo X0.here hx rfl (hb hby at_3) rfl ((if0 _ _).trans (feq c3_14).1) ks_) ?_
    refine go (u' := s₁.setTop (mkF m 7 #[.val (.int p0), .val (.int p1), .unset, .unset, .unset] [(.int (1 : Int32))])) (fun _ ks_ => XS.iconst X0.here hx rfl (hb hby at_6) ks_) ?_
    refine go (u' := s₁.setTop (mkF m 11 #[.val (.int p0), .val (.int p1), .unset, .unset, .unset] [(.int (1 : Int32))])) (fun _ ks_ => XS.goto X0.here hx rfl (pc0 := 7) (pc' := 11) rfl (hb hby at_7) (by decide) (by decide) ks_) ?_
    exact J11_1 _ (B1 c3_14)
set_option maxRecDepth 65536 in
set_option maxHeartbeats 40000000 in
theorem comes_1 {Post : Tables → Env → Array Value → State → Outcome → State → Prop} (hpost : ∀ tb e args s v u, (limb_1_1.after args s (.returned v) u = true ∧ limb_1_2.after args s (.returned v) u = true ∧ True) → FrameEnd s (.returned v) u (Jvm.fieldLocs frame_1_writes args s ++ Jvm.arrayLocs frame_1_arrays args s ++ Jvm.staticLocs frame_1_statics s) 0 0 → Post tb e args s (.returned v) u) :
    ArmFor flags0 classFile x code maxLocals ret World_1 tables_1 room_1 Calls_1 rest_1 Pre_1 Post := by
  intro l hfl _ _ p e ha hc hk s m args below hf hA hF happ hP
  obtain ⟨hcalls, hrest, hpre⟩ := hP
  obtain ⟨-, -, -, hnamed, -, -, -, hat⟩ := (Spec.applies_iff hf).mp happ
  obtain ⟨hg, hn⟩ := and_e (Cond.before_iff.mp (show (Jvm.Cond.and given_1 narrow_1).before args s = true from hpre))
  obtain ⟨hcount, r0⟩ := and_e hg
  obtain ⟨a0, r1⟩ := and_e r0
  obtain ⟨w0, w1, rfl⟩ : ∃ w0 w1 : Value, args = #[w0, w1] := by
    have hs : args.size = 2 := by simpa [Cond.value, given_1] using hcount
    obtain ⟨L⟩ := args
    match L, hs with
    | [w0, w1], _ => exact ⟨w0, w1, rfl⟩
  have hw := fun d (hd : d ∈ tables_1) => atoms_spec (ws := Jvm.Cond.code x code maxLocals ret :: tables_1) hat d (List.mem_cons_of_mem _ hd)
  have hfit : Fit s := fun {y c} hc i hi => by
    obtain ⟨ha, rfl⟩ := Array.getElem?_eq_some_iff.mp hc
    have q := List.all_eq_true.mp ((Array.all_eq_true_iff_forall_mem.mp hF) _ (Array.getElem_mem ha)) i (List.mem_range.mpr hi)
    simpa [Array.getElem?_eq_getElem hi] using q
  obtain ⟨x0, e0⟩ := is_v a0
  obtain rfl : w0 = (.int x0) := Option.some.inj e0
  obtain ⟨x1, e1⟩ := is_v r1
  obtain rfl : w1 = (.int x1) := Option.some.inj e1
  obtain ⟨n1, n2⟩ := and_e hn
  obtain ⟨u0, ev0, ft0⟩ := static_fit hfit (ww hw 5 rfl) (ty := .long) (by decide)
  obtain ⟨y0, rfl⟩ := fit_J ft0
  have eq0 := eq_L ev0 (long_at (5764607548804038655 : Int64))
  rw [n1] at eq0
  obtain rfl : y0 = (5764607548804038655 : Int64) := of_decide_eq_true (Option.some.inj eq0).symm
  have S0 : Sta s s.heap "com/example/locattr/locattr/UriReferences" "ESCAPED_LOW" "J" (.long (5764607548804038655 : Int64)) := Sta.start ev0 (Or.inr ⟨(ww hw 2 rfl), (ww hw 5 rfl)⟩)
  obtain ⟨u1, ev1, ft1⟩ := static_fit hfit (ww hw 7 rfl) (ty := .long) (by decide)
  obtain ⟨y1, rfl⟩ := fit_J ft1
  have eq1 := eq_L ev1 (long_at (-5188146765093666816 : Int64))
  rw [n2] at eq1
  obtain rfl : y1 = (-5188146765093666816 : Int64) := of_decide_eq_true (Option.some.inj eq1).symm
  have S1 : Sta s s.heap "com/example/locattr/locattr/UriReferences" "ESCAPED_HIGH" "J" (.long (-5188146765093666816 : Int64)) := Sta.start ev1 (Or.inr ⟨(ww hw 2 rfl), (ww hw 7 rfl)⟩)
  obtain ⟨n, o, h1, h2, h3, _, L, rfl, ⟨rfl, N⟩, hq⟩ := rm0 l s _ hw tables_1 x0 x1 s.heap s.heap.size (Nat.le_refl _) S0 S1 p e ha hc hk s m _ below hf ((Spec.applies_iff_loose hf).mp happ).1 ⟨rfl, State.Warmed39.refl s, rfl⟩ trivial
  refine ⟨n, _, h1, h2, h3, hpost _ _ _ _ _ _ ⟨Cond.after_iff.mpr rfl, Cond.after_iff.mpr (eq_i res_at (Term.int_eval (1)) rfl), trivial⟩ ⟨hq.1, hq.2.1, (hq.2.2.sift fun y hy => Or.inr (N y hy)).mono (by decide) (by decide)⟩⟩
theorem main_1_1 : Claimed_1_1 := comes_1 fun _ _ _ _ _ _ h hF => ⟨h.1, hF⟩
theorem main_1_2 : Claimed_1_2 := comes_1 fun _ _ _ _ _ _ h hF => ⟨h.2.1, hF⟩
end Jvm.Pilot.@@N@@
namespace Jvm.Pilot.@@N@@
open Jvm Jvm.ClassFile Sem Op Lib Jvm.Free Jvm.Stand Jvm.Pilot.@@N@@.Jvm.D
/-! MADE BY PROGRAM (witnessworld.py) out of the Statement's table words and the real class files: 9 classes; the members and pool entries that the words name. The judged class is class 1, her method 1. -/
namespace start1
open Jvm.ClassFile
def u (s : String) : CpInfo := .utf8 (stringToUtf16 s)
/-- a pool by its gaps: so many unusable entries, then the entry; so many at the end -/
def gap : Nat → List CpInfo → List CpInfo
  | 0, r => r
  | n + 1, r => .unusable :: gap n r
def poolList (es : List (Nat × CpInfo)) (last : Nat) : List CpInfo := es.foldr (fun e r => gap e.1 (e.2 :: r)) (gap last [])
def pool (es : List (Nat × CpInfo)) (last : Nat) : Array CpInfo := ⟨poolList es last⟩
def fileOf (pool : Array CpInfo) (this : Nat) (attrs : Array Attribute := #[]) (ms : Array MethodInfo := #[]) (fl : Nat := 33) (sup : Nat := 0) (ifs : Array Nat := #[]) (fds : Array FieldInfo := #[]) : ClassFile where
  minorVersion := 0
  majorVersion := 65
  constantPool := pool
  accessFlags := fl
  thisClass := this
  superClass := sup
  interfaces := ifs
  fields := fds
  methods := ms
  attributes := attrs
def plain (name : String) (sup : Option ClassId) : Class where
  name := name
  kind := .ordinary
  loader := none
  accessFlags := 33
  super := sup
  interfaces := #[]
  cf := none
  fields := #[]
  methods := #[]
  instanceTypes := #[]
  staticTypes := #[]
  resolved := #[]
  callSites := []
  init := .initialized
  statics := none
  mirror := none

def pool0 : Array CpInfo := pool [(5, u "<init>"), (0, u "()V"), (1, .class_ 10), (1, u "java/lang/Object")] 113

def k0m0 : Method := { name := "<init>", desc := "()V", sig := { parameters := [], returnType := none }, accessFlags := 1, code := none }
/-- java/lang/Object -/
def k0 : Class := { plain "java/lang/Object" none with
  accessFlags := 33
  interfaces := #[]
  cf := some (fileOf pool0 8 #[] #[{ accessFlags := 1, nameIndex := 5, descriptorIndex := 6, attributes := #[] }] 33 0 #[] #[])
  fields := #[]
  methods := #[k0m0]
  instanceTypes := #[]
  staticTypes := #[]
  resolved := Array.replicate 124 none
  statics := none }

def pool1 : Array CpInfo := pool [(2, .class_ 4), (1, u "java/lang/Object"), (0, u "<init>"), (0, u "()V"), (0, .integer 2147483647), (0, .integer 1114112), (0, .methodref 10 11), (0, .class_ 12), (0, .nameAndType 13 14), (0, u "com/example/locattr/locattr/UriReferences"), (0, u "mustEscape"), (0, u "(I)Z"), (0, .class_ 16), (0, u "com/example/locattr/locattr/UriReferencesMustEscapePinLaw"), (2, u "law"), (0, u "(II)Z")] 3

def k1m0 : Method := { name := "<init>", desc := "()V", sig := { parameters := [], returnType := none }, accessFlags := 2, code := none }
def k1c1 : Code := { maxStack := 2, maxLocals := 5, code := code, exceptionTable := #[], attributes := #[] }
def k1m1 : Method := { name := "law", desc := "(II)Z", sig := { parameters := [.int, .int], returnType := some .boolean }, accessFlags := 9, code := some k1c1 }
/-- com/example/locattr/locattr/UriReferencesMustEscapePinLaw -/
def k1 : Class := { plain "com/example/locattr/locattr/UriReferencesMustEscapePinLaw" (some 0) with
  accessFlags := 49
  interfaces := #[]
  cf := some (fileOf pool1 15 #[] #[{ accessFlags := 2, nameIndex := 5, descriptorIndex := 6, attributes := #[] }, { accessFlags := 9, nameIndex := 19, descriptorIndex := 20, attributes := #[] }] 49 2 #[] #[])
  fields := #[]
  methods := #[k1m0, k1m1]
  instanceTypes := #[]
  staticTypes := #[]
  resolved := Array.replicate 24 none
  statics := none }

def pool2 : Array CpInfo := pool [(2, .class_ 4), (1, u "java/lang/Object"), (0, u "<init>"), (0, u "()V"), (11, .class_ 20), (1, u "com/example/locattr/locattr/UriReferences"), (0, u "mustEscape"), (0, u "(I)Z"), (89, .fieldref 18 113), (0, .nameAndType 114 115), (0, u "ESCAPED_LOW"), (0, u "J"), (0, .fieldref 18 117), (0, .nameAndType 118 115), (0, u "ESCAPED_HIGH"), (4, u "HEX_DIGITS"), (0, u "[C"), (14, u "EXCLUDED"), (0, u "Ljava/lang/String;"), (1, u "MOST_ESCAPED"), (0, u "I"), (15, .class_ 160), (0, u "com/example/locattr/locattr/UriReferences$Parts")] 2

def k2m0 : Method := { name := "<init>", desc := "()V", sig := { parameters := [], returnType := none }, accessFlags := 2, code := none }
def k2c1 : Code := { maxStack := 4, maxLocals := 1, code := prog_109_method_13_code, exceptionTable := #[], attributes := #[] }
def k2m1 : Method := { name := "mustEscape", desc := "(I)Z", sig := { parameters := [.int], returnType := some .boolean }, accessFlags := 8, code := some k2c1 }
/-- com/example/locattr/locattr/UriReferences -/
def k2 : Class := { plain "com/example/locattr/locattr/UriReferences" (some 0) with
  accessFlags := 48
  interfaces := #[]
  cf := some (fileOf pool2 18 #[.nestMembers #[159]] #[{ accessFlags := 2, nameIndex := 5, descriptorIndex := 6, attributes := #[] }, { accessFlags := 8, nameIndex := 21, descriptorIndex := 22, attributes := #[] }] 48 2 #[] #[{ accessFlags := 26, nameIndex := 139, descriptorIndex := 140, attributes := #[] }, { accessFlags := 26, nameIndex := 114, descriptorIndex := 115, attributes := #[] }, { accessFlags := 26, nameIndex := 118, descriptorIndex := 115, attributes := #[] }, { accessFlags := 26, nameIndex := 123, descriptorIndex := 124, attributes := #[] }, { accessFlags := 24, nameIndex := 142, descriptorIndex := 143, attributes := #[] }])
  fields := #[{ name := "EXCLUDED", type := (.object "java/lang/String"), accessFlags := 26, slot := 0, constantValue := 0 }, { name := "ESCAPED_LOW", type := .long, accessFlags := 26, slot := 1, constantValue := 0 }, { name := "ESCAPED_HIGH", type := .long, accessFlags := 26, slot := 2, constantValue := 0 }, { name := "HEX_DIGITS", type := (.array .char), accessFlags := 26, slot := 3, constantValue := 0 }, { name := "MOST_ESCAPED", type := .int, accessFlags := 24, slot := 4, constantValue := 0 }]
  methods := #[k2m0, k2m1]
  instanceTypes := #[]
  staticTypes := #[(.object "java/lang/String"), .long, .long, (.array .char), .int]
  resolved := Array.replicate 163 none
  statics := some 0 }

def pool3 : Array CpInfo := pool [(1, u "java/lang/Cloneable"), (0, .class_ 1), (0, u "java/lang/Object"), (0, .class_ 3)] 3

/-- java/lang/Cloneable -/
def k3 : Class := { plain "java/lang/Cloneable" (some 0) with
  accessFlags := 1537
  interfaces := #[]
  cf := some (fileOf pool3 2 #[] #[] 1537 4 #[] #[])
  fields := #[]
  methods := #[]
  instanceTypes := #[]
  staticTypes := #[]
  resolved := Array.replicate 8 none
  statics := none }

def pool4 : Array CpInfo := pool [(1, u "java/io/Serializable"), (0, .class_ 1), (0, u "java/lang/Object"), (0, .class_ 3)] 3

/-- java/io/Serializable -/
def k4 : Class := { plain "java/io/Serializable" (some 0) with
  accessFlags := 1537
  interfaces := #[]
  cf := some (fileOf pool4 2 #[] #[] 1537 4 #[] #[])
  fields := #[]
  methods := #[]
  instanceTypes := #[]
  staticTypes := #[]
  resolved := Array.replicate 8 none
  statics := none }

/-- the primitive byte -/
def k5 : Class := { plain "byte" none with kind := .primitive 'B', accessFlags := 0x411 }
/-- [B -/
def k6 : Class := { plain "[B" (some 0) with kind := .array 5 .byte, interfaces := #[3, 4], accessFlags := 1041 }

/-- the primitive int -/
def k7 : Class := { plain "int" none with kind := .primitive 'I', accessFlags := 0x411 }
/-- [I -/
def k8 : Class := { plain "[I" (some 0) with kind := .array 7 .int, interfaces := #[3, 4], accessFlags := 1041 }

def heap : Heap := #[{ cls := 2, slots := #[.null, .long 5764607548804038655, .long (-5188146765093666816), .null, .int 0], vm := .statics 2 }]
def classes : Array Class := #[k0, k1, k2, k3, k4, k5, k6, k7, k8]
def interned : List (Array UInt16 × Addr) := []
def slotsUsed : Nat := 5
def theMethod : MethodId := ⟨1, 1⟩
def args0 : Array Value := #[.int 60, .int 1]
def aboutOver (below : List Frame) : State where
  vm := { classes := classes, interned := interned.toArray }
  heap := heap
  slotsUsed := slotsUsed
  threads := #[{ frames := .invoking theMethod args0 :: below }]
def below0 : List Frame := [.native { method := ⟨0, 0⟩, args := #[] }]
def about1 : State := aboutOver below0
def p0 : Program := .bare "" "" ""
def e0 : Env := launch0.env 0 0 0
theorem w_frames : about1.frames = Frame.invoking theMethod args0 :: below0 := rfl
set_option maxRecDepth 65536 in
theorem w_args : argsFit about1.vm theMethod args0 = true := by decide +kernel
set_option maxRecDepth 65536 in
theorem w_heap : heapFits about1 = true := by decide +kernel
set_option maxRecDepth 65536 in
theorem w_runnable : about1.curStatus? = some .runnable := by decide +kernel
set_option maxRecDepth 65536 in
theorem w_alone : about1.alone = true := by decide +kernel
set_option maxRecDepth 65536 in
theorem w_named : about1.methodNamed? x = some theMethod := by decide +kernel
set_option maxRecDepth 65536 in
theorem w_hears : about1.hears theMethod below0 = true := by decide +kernel
set_option maxRecDepth 65536 in
theorem w_ripe : about1.ripe theMethod args0 below0 = true := by decide +kernel
theorem w_running : about1.status = .running := rfl
set_option maxRecDepth 65536 in
theorem w_room : about1.hasRoom e0.platform room_1 = true :=
  launch0.hasRoom_least _ room_1 (by decide +kernel) (by decide +kernel) (by decide +kernel) (by decide +kernel) (by decide +kernel) (by decide +kernel)
theorem allAtoms_all (ts : List Jvm.Cond) (a : Array Jvm.Value) (st : Jvm.State) : (allAtoms ts).before a st = ts.all (fun c => c.before a st) := by
  induction ts with
  | nil => rfl
  | cons c t ih =>
    show (Jvm.Cond.and c (allAtoms t)).before a st = _
    rw [Jvm.Cond.before_and, ih, List.all_cons]
def words1 : List Jvm.Cond := Jvm.Cond.code x code maxLocals ret :: tables_1
/-- a 'code' word, met by the world's own term for the bytes: nothing is compared byte by byte -/
theorem code_word {y : MethodName} {bytes : ByteArray} {mx : Nat} {rt : Option FieldType} {a : Array Value} {s : State} {m : MethodId} {meth : Method} {c : Code} (h1 : s.methodNamed? y = some m) (h2 : s.vm.method? m = some meth) (h3 : meth.code = some c) (h4 : c.code = bytes)
    (h5 : (c.maxLocals == mx && c.exceptionTable.isEmpty && decide (c.maxStack ≤ mostOperands) && decide (meth.sig.returnType = rt) && !meth.locks && decide (parseMethodDescriptor y.desc = some meth.sig)) = true) : (Jvm.Cond.code y bytes mx rt).before a s = true := by
  simp only [Bool.and_eq_true, beq_iff_eq, Bool.not_eq_true', decide_eq_true_eq] at h5
  obtain ⟨⟨⟨⟨⟨g1, g2⟩, g3⟩, g4⟩, g5⟩, g6⟩ := h5
  simp [Cond.before, Cond.holds, Cond.value, h1, h2, h3, h4, g1, g2, g3, g4, g5, g6]
def isCode : Jvm.Cond → Bool
  | .code _ _ _ _ => true
  | _ => false
theorem all_split {L : List Jvm.Cond} {P : Jvm.Cond → Bool} (h1 : L.all (fun c => isCode c || P c) = true) (h2 : ∀ c ∈ L.filter isCode, P c = true) : L.all P = true := by
  refine List.all_eq_true.mpr fun c hc => ?_
  have h := List.all_eq_true.mp h1 c hc
  rcases Bool.eq_false_or_eq_true (isCode c) with hi | hi
  · exact h2 c (List.mem_filter.mpr ⟨hc, hi⟩)
  · simpa [hi] using h
set_option maxRecDepth 65536 in
theorem w_c0 : (Jvm.Cond.code x code maxLocals ret).before args0 about1 = true := code_word (m := ⟨1, 1⟩) (meth := k1m1) (c := k1c1) (by decide +kernel) rfl rfl rfl (by decide +kernel)
set_option maxRecDepth 65536 in
theorem w_c1 : (Jvm.Cond.code ({ cls := "com/example/locattr/locattr/UriReferences", name := "mustEscape", desc := "(I)Z" } : Jvm.MethodName) prog_109_method_13_code (1 : Nat) (Option.some Jvm.ClassFile.FieldType.boolean)).before args0 about1 = true := code_word (m := ⟨2, 1⟩) (meth := k2m1) (c := k2c1) (by decide +kernel) rfl rfl rfl (by decide +kernel)
def codes1 : List Jvm.Cond := [Jvm.Cond.code x code maxLocals ret, Jvm.Cond.code ({ cls := "com/example/locattr/locattr/UriReferences", name := "mustEscape", desc := "(I)Z" } : Jvm.MethodName) prog_109_method_13_code (1 : Nat) (Option.some Jvm.ClassFile.FieldType.boolean)]
set_option maxRecDepth 65536 in
theorem codes_eq : words1.filter isCode = codes1 := rfl
theorem w_codes : ∀ c ∈ words1.filter isCode, c.before args0 about1 = true := by
  rw [codes_eq]
  intro c hc
  simp only [codes1, List.mem_cons, List.not_mem_nil, or_false] at hc
  rcases hc with rfl | rfl
  · exact w_c0
  · exact w_c1
set_option maxRecDepth 65536 in
theorem w_t1 : words1.all (fun c => isCode c || c.before args0 about1) = true := by decide +kernel
theorem w_tables : (allAtoms (Jvm.Cond.code x code maxLocals ret :: tables_1)).before args0 about1 = true := by
  rw [allAtoms_all]
  show words1.all (fun c => c.before args0 about1) = true
  refine all_split ?_ w_codes
  rw [w_t1]
set_option maxRecDepth 65536 in
theorem w_case : (Jvm.Cond.and given_1 narrow_1).before args0 about1 = true := by decide +kernel
theorem w_applies : (headSpec (Jvm.Cond.code x code maxLocals ret :: tables_1) room_1).applies x e0.platform about1 = true :=
  (Spec.applies_iff w_frames).mpr ⟨w_running, w_runnable, w_alone, w_named, w_hears, w_ripe, w_room, w_tables⟩
theorem atStart : AtStart classFile x code maxLocals ret World_1 tables_1 room_1 Calls_1 rest_1 Pre_1 launch0 p0 e0 about1 theMethod args0 below0 :=
  ⟨lists_1, trivial, launch0.admits_env _ _ _, launch0.least_env, fairChoices_fair.cas, fairChoices_fair.clock, w_frames, w_args, w_heap, w_applies, trivial, trivial, w_case⟩
end start1
theorem witness_1 : WitnessClaimed_1 := ⟨start1.p0, start1.e0, start1.about1, start1.theMethod, start1.args0, start1.below0, start1.atStart⟩
end Jvm.Pilot.@@N@@
