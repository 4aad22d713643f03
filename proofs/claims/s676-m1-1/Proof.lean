import JvmDerived
import JvmDerived.Pilot.@@N@@Statement
import JvmDerived.Pilot.@@N@@Code
set_option linter.unusedVariables false
set_option linter.unusedSimpArgs false
namespace Jvm.Pilot.@@N@@
open Jvm Jvm.ClassFile Sem Op Lib Jvm.Free Jvm.Stand Jvm.LawKit Jvm.RoadKit Bundle Jvm.Pilot.@@N@@.Jvm.D
/-- from the frame g over the state T the run comes to a return that Q allows, with at most kc new cells and ks new slots -/
def Go (p : Program) (e : Env) (below : List Frame) (s : State) (Q : Option Value → Heap → List Loc → Prop) (kc ks : Nat) (T : State) (g : JFrame) : Prop :=
  ∃ s₂ o, Steps p.tables e below (T.setTop g) s₂ ∧ s₂.status = .running ∧ Ended s₂ below o ∧ ∃ v L, o = .returned v ∧ Q v s₂.heap L ∧ FrameEnd s o s₂ L kc ks
/-- a body's contract in this family: called with these arguments over the heap h0 it returns what Q says -/
def Con (l : Launch) (Z : State) (y : MethodName) (bytes : ByteArray) (maxL : Nat) (ret : Option FieldType) (rm : Room) (ws : List Jvm.Cond) (as' : Array Value) (h0 : Heap) (Q : Option Value → Heap → List Loc → Prop) (kc ks : Nat) : Prop :=
  MetFree l y (head1 (Jvm.Cond.code y bytes maxL ret :: ws) rm) (fun a U => a = as' ∧ Z.Warmed39 U.vm ∧ U.heap = h0) (fun _ _ _ _ _ => True) (fun _ U o U' => ∃ v L, o = .returned v ∧ Q v U'.heap L ∧ FrameEnd U o U' L kc ks)
/-- it returns r and leaves the heap as it was -/
def Qret (r : Option Value) (h0 : Heap) (n0 : Nat) (v : Option Value) (h : Heap) (L : List Loc) : Prop := v = r ∧ Fr n0 L ∧ h = h0
/-- the law's own end: true; nothing old written -/
def Q0 (n0 : Nat) (v : Option Value) (h : Heap) (L : List Loc) : Prop := v = some (.int 1) ∧ Fr n0 L
theorem own_cI (x : Int32) : (Value.int x).category = 1 := rfl
theorem own_cJ (x : Int64) : (Value.long x).category = 2 := rfl
theorem own_cR (x : Addr) : (Value.ref x).category = 1 := rfl
theorem own_cN : (Value.null).category = 1 := rfl
section Own
variable {p : Program} {l : Launch} {e : Env} {R : Room} {s Z : State} {m : MethodId} {args : Array Value} {below : List Frame} {meth : Method} {c : Code} {T T' : State} {locs : List Loc} {cells slots kc ks : Nat} {Q : Option Value → Heap → List Loc → Prop} {g g' : JFrame} {h h' : Heap} {a : Addr} {C n d : String} {v : Value} {ws : List Addr}
theorem Con.of {y : MethodName} {bytes : ByteArray} {maxL : Nat} {ret : Option FieldType} {rm : Room} {cs : List Jvm.Cond} {as' : Array Value} {h0 : Heap} (hp : plainFor y = true)
    (body : ∀ p e s m below meth c s₁, Stand p l e rm s m as' below meth c s₁ [] 0 0 → p.tables.exec = Jvm.exec → Z.Warmed39 s.vm → c.code = bytes → c.maxLocals = maxL → s.vm.findClass y.cls = some m.cls → meth.name = y.name → meth.sig.returnType = ret → meth.locks = false → s₁.heap = h0 → s.heap = h0 → Go p e below s Q kc ks s₁ (entryFrame m as' maxL)) :
    Con l Z y bytes maxL ret rm cs as' h0 Q kc ks := by
  refine MetFree.of_bodySF hp hisR ?_
  intro p e s m args below meth c s₁ Bd hml0 hP hK
  obtain ⟨rfl, hZ, hh⟩ := hP
  exact body p e s m below meth c s₁ (Stand.of_body Bd) Bd.exec hZ Bd.bytes hml0 (findClass_of_methodNamed Bd.named) (name_of_methodNamed Bd.named Bd.method).1 Bd.returns Bd.notSynchronized (by rw [← hh, Bd.state]; rfl) hh
theorem Go.step (st : ∀ target, Steps p.tables e below (T'.setTop g') target → Steps p.tables e below (T.setTop g) target) (k : Go p e below s Q kc ks T' g') : Go p e below s Q kc ks T g := by
  obtain ⟨s₂, o, h1, h2⟩ := k
  exact ⟨s₂, o, st _ h1, h2⟩
theorem Go.cast (q : g = g') (k : Go p e below s Q kc ks T g') : Go p e below s Q kc ks T g := q ▸ k
theorem Go.ret (X : Stand p l e R s m args below meth c T locs cells slots) {v : Option Value} (hv : meth.sig.returnType = none → v = none) (hlk : meth.locks = false) (hq : Q v T.heap locs) (hc : cells ≤ kc) (hs : slots ≤ ks)
    (st : ∀ fs, (∀ (f : JFrame) (acts : List Action), f.method = m → f.locked = none → f.entered = [] → (doReturn e (T.setTop f) acts v).1 = T.setFrames fs) → Steps p.tables e below (T.setTop g) (T.setFrames fs)) : Go p e below s Q kc ks T g := by
  obtain ⟨fs, hr, hrun, hended, hW, hsame⟩ := X.leave (v := v) hv hlk
  exact ⟨_, _, st fs hr, hrun, hended, v, locs, rfl, hq, ⟨_, rfl⟩, hW, hsame.mono hc hs⟩
theorem Go.retN (X : Stand p l e R s m args below meth c T locs cells slots) (hx : p.tables.exec = Jvm.exec) {pc : Nat} {Ls : Array Slot} {z : Int32} {t : FieldType} {rest : List Value} (hret : meth.sig.returnType = some t) (hlk : meth.locks = false) (ht : t = .boolean ∨ t = .byte ∨ t = .char ∨ t = .short)
    (hd : decode c.code pc = .ok (.ireturn, 1)) (hq : Q (some (.int (nar t z))) T.heap locs) (hc : cells ≤ kc) (hs : slots ≤ ks) : Go p e below s Q kc ks T (mkF m pc Ls (.int z :: rest)) :=
  Go.ret X (fun q => by rw [hret] at q; cases q) hlk hq hc hs fun fs hr => Jvm.RoadKit.retN X hx hret ht hd hr
theorem Go.retI (X : Stand p l e R s m args below meth c T locs cells slots) (hx : p.tables.exec = Jvm.exec) {pc : Nat} {Ls : Array Slot} {z : Int32} {rest : List Value} (hret : meth.sig.returnType = some .int) (hlk : meth.locks = false)
    (hd : decode c.code pc = .ok (.ireturn, 1)) (hq : Q (some (.int z)) T.heap locs) (hc : cells ≤ kc) (hs : slots ≤ ks) : Go p e below s Q kc ks T (mkF m pc Ls (.int z :: rest)) :=
  Go.ret X (fun q => by rw [hret] at q; cases q) hlk hq hc hs fun fs hr => retOut X hx hret rfl (Or.inl ⟨rfl, Or.inl rfl, z, rfl⟩) hd hr
theorem Go.retJ (X : Stand p l e R s m args below meth c T locs cells slots) (hx : p.tables.exec = Jvm.exec) {pc : Nat} {Ls : Array Slot} {z : Int64} {rest : List Value} (hret : meth.sig.returnType = some .long) (hlk : meth.locks = false)
    (hd : decode c.code pc = .ok (.lreturn, 1)) (hq : Q (some (.long z)) T.heap locs) (hc : cells ≤ kc) (hs : slots ≤ ks) : Go p e below s Q kc ks T (mkF m pc Ls (.long z :: rest)) :=
  Go.ret X (fun q => by rw [hret] at q; cases q) hlk hq hc hs fun fs hr => retOut X hx hret rfl (Or.inr (Or.inl ⟨rfl, rfl, z, rfl⟩)) hd hr
theorem Go.retA (X : Stand p l e R s m args below meth c T locs cells slots) (hx : p.tables.exec = Jvm.exec) {pc : Nat} {Ls : Array Slot} {w : Value} {t : FieldType} {rest : List Value} (hret : meth.sig.returnType = some t) (ht : t.isReference = true) (hlk : meth.locks = false) (hw : w.isRef = true)
    (hd : decode c.code pc = .ok (.areturn, 1)) (hq : Q (some w) T.heap locs) (hc : cells ≤ kc) (hs : slots ≤ ks) : Go p e below s Q kc ks T (mkF m pc Ls (w :: rest)) :=
  Go.ret X (fun q => by rw [hret] at q; cases q) hlk hq hc hs fun fs hr => retOut X hx hret (by cases t <;> first | (cases ht; done) | (cases w <;> first | rfl | (cases hw; done))) (Or.inr (Or.inr (Or.inr (Or.inr ⟨rfl, ht, hw⟩)))) hd hr
theorem Go.retV (X : Stand p l e R s m args below meth c T locs cells slots) (hx : p.tables.exec = Jvm.exec) {pc : Nat} {Ls : Array Slot} (hret : meth.sig.returnType = none) (hlk : meth.locks = false)
    (hd : decode c.code pc = .ok (.return_, 1)) (hq : Q none T.heap locs) (hc : cells ≤ kc) (hs : slots ≤ ks) : Go p e below s Q kc ks T (mkF m pc Ls []) :=
  Go.ret X (fun _ => rfl) hlk hq hc hs fun fs hr => X.returnOut hx hret hd hr
theorem own_sta_keep (F : Sta Z h C n d v) (K : Keep h h' ws) (q : ∀ x ∈ ws, ∀ c : Cell, h[x]? = some c → c.vm.isStatics = false) : Sta Z h' C n d v := by
  obtain ⟨cf, i, k, f, st, cell, h1, h2, h3, h4, h5, h6, h7⟩ := F
  refine ⟨cf, i, k, f, st, cell, h1, h2, h3, h4, K.2.1 _ _ h5 (fun hm => ?_), h6, h7⟩
  have := q _ hm _ h5
  rw [h6] at this; cases this
theorem own_plain (E : Exa Z h a C) : ∀ c : Cell, h[a]? = some c → c.vm.isStatics = false := fun c hc => by
  obtain ⟨cell, k, h1, -, -, h4, -⟩ := E
  cases h1.symm.trans hc; exact h4
theorem own_eqI {args : Array Value} {s : State} {t : Term} {k : Int32} (q : (Jvm.Cond.eq t (Jvm.Term.int k)).value args s none s [] = some true) : t.eval args s none [] s = some (.int k) := by
  obtain ⟨x, y, hx, hy, kin, kin'⟩ := cmp_v (Or.inl q)
  have hy' : y = .int k := (Option.some.inj hy).symm
  subst hy'
  obtain ⟨z, rfl⟩ := kin'
  have e : (Jvm.Cond.eq t (Jvm.Term.int k)).value args s none s [] = some (decide (z = k)) := by simp [Cond.value, hx, hy]
  rw [hx, gotT e q]
theorem Con.ret {y : MethodName} {bytes : ByteArray} {maxL n0 : Nat} {ret : Option FieldType} {rm : Room} {cs : List Jvm.Cond} {as' : Array Value} {h0 h1 : Heap} {r r' : Int32} (q : r = r') (k : Con l Z y bytes maxL ret rm cs as' h0 (Qret (some (.int r)) h1 n0) kc ks) : Con l Z y bytes maxL ret rm cs as' h0 (Qret (some (.int r')) h1 n0) kc ks := q ▸ k
theorem own_arr_keep {cl : Cell} {ty : FieldType} (F : Arr Z h a cl ty) (K : Keep h h' ws) (q : a ∉ ws) : Arr Z h' a cl ty := ⟨K.2.1 a cl F.1 q, F.2⟩
/-- an object whose chain of classes lacks the class K is no K -/
theorem own_noins {a0 : Array Value} {K : String} {t : List String} {k : Nat} (E : Exa Z h a C) (hw : ∀ w ∈ Cond.chainWords (C :: t), w.before a0 Z = true) (wi : (Jvm.Cond.instantiable K k).before a0 Z = true) (hn : K ∉ C :: t) : Ins Z h a K false := by
  obtain ⟨cell, kc, h1, h2, -, h4, -⟩ := E
  obtain ⟨cy, ky, y1, y2, y3, y4, -⟩ := Cond.instantiable_spec wi
  have y5 : ky.isInterface = false := by simp only [Bool.or_eq_false_iff] at y4; exact y4.1
  exact ⟨cell, cy, h1, y1, by rw [Vm.notAssignable_of_chain h2 y1 y2 y3 y5 hw hn]; simp⟩
theorem own_len {args : Array Value} {t : Term} {cl : Cell} {ty : FieldType} {z : Int32} (ev : t.eval args Z none [] Z = some (.ref a)) (A : Arr Z Z.heap a cl ty) (el : (Jvm.Term.length t).eval args Z none [] Z = some (.int z)) : cl.slots.size < 2 ^ 31 ∧ cl.slots.size.toInt32 = z := by
  have ha := A.fin (Vm.Alike.refl _)
  by_cases q : cl.slots.size < 2 ^ 31
  · rw [len_f ev ha q] at el
    exact ⟨q, Value.int.inj (Option.some.inj el)⟩
  · simp [Term.eval, ev, ha, q] at el
theorem own_sub_at {args : Array Value} {t : Term} {idx : List Nat} {y k : Int32} (q : t.eval args Z none idx Z = some (.int y)) : (Jvm.Term.sub t (Jvm.Term.int k)).eval args Z none idx Z = some (.int (y - k)) := by simp [Term.eval, q]
theorem own_ifc {P P' : Prop} [Decidable P] [Decidable P'] (q : P ↔ P') : (if P then (1 : Int32) else 0) = if P' then 1 else 0 := by
  by_cases r : P
  · rw [if_pos r, if_pos (q.mp r)]
  · rw [if_neg r, if_neg (fun t => r (q.mpr t))]
end Own
theorem own_box_in {p : Int32} {cl : Cell} (h1 : ¬ p < (-128 : Int32)) (h2 : ¬ (127 : Int32) < p) (hs : cl.slots.size = (256 : Int32).toNatClampNeg) : ¬ (p + (128 : Int32) < 0 ∨ cl.slots.size ≤ (p + (128 : Int32)).toNatClampNeg) := by
  rw [hs]
  have e1 := c_iadd p 128
  have e2 : (128 : Int32).toInt = 128 := rfl
  have e3 : (127 : Int32).toInt = 127 := rfl
  have e4 : (-128 : Int32).toInt = -128 := rfl
  have e5 : (256 : Int32).toInt = 256 := rfl
  have e6 : (0 : Int32).toInt = 0 := rfl
  have r1 := rng32 (p + 128)
  simp only [Int32.lt_iff_toInt_lt, Int32.toNatClampNeg] at *
  omega
theorem own_ef_jdk_18_method_1_code_R (m : MethodId) (x0 : Addr) : entryFrame m #[(.ref x0)] 1 = mkF m 0 #[.val (.ref x0)] [] := by first | (simp [entryFrame, mkF, argsToLocals, Value.category]; done) | rfl | (simp [entryFrame, mkF, argsToLocals, own_cI, own_cJ, own_cR, own_cN]; done)
theorem own_pn_Number : plainName "java/lang/Number" = true := by first | (simp [plainName, overriddenIn]; done) | decide +kernel
theorem d_jdk_18_method_1_0 : decode jdk_18_method_1_code 0 = .ok (.aload_n 0, 1) := by decide +kernel
theorem d_jdk_18_method_1_1 : decode jdk_18_method_1_code 1 = .ok (.invokespecial 1, 3) := by decide +kernel
theorem d_jdk_18_method_1_4 : decode jdk_18_method_1_code 4 = .ok (.return_, 1) := by decide +kernel
set_option maxRecDepth 65536 in
set_option maxHeartbeats 40000000 in
theorem own_num (l : Launch) (Z : State) (a0 : Array Value) (hw : ∀ d ∈ tables_1, d.before a0 Z = true) (ws : List Jvm.Cond) (a1 : Addr) (h0 : Heap) (n0 : Nat) (Z0 : n0 ≤ h0.size)  :
    Con l Z (⟨"java/lang/Number", "<init>", "()V"⟩ : MethodName) jdk_18_method_1_code 1 none ({ frames := 1, cells := 0, slots := 0, locals := 12 } : Room) ws #[(.ref a1)] h0 (Qret none h0 n0) 0 0 := by
  refine Con.of (plainFor_of_name own_pn_Number) ?_
  intro pgm e s m below meth c s₁ X0 hx hZ hby hml hown hnm hret hlk e0 hs0
  have N0 := Fr.nil n0
  have hown : s.vm.findClass "java/lang/Number" = some m.cls := hown
  have hnm : meth.name = "<init>" := hnm
  refine Go.cast (own_ef_jdk_18_method_1_code_R m a1) ?_
  refine Go.step (T' := s₁) (g' := (mkF m 1 #[.val (.ref a1)] [(.ref a1)])) (fun _ k => XS.aloadN X0.here hx rfl (hb hby d_jdk_18_method_1_0) rfl rfl k) ?_
  obtain ⟨T101, X101, e101, st101⟩ := initO X0 hx hZ hown (hw _ (List.mem_of_getElem? (i := 44) rfl)) (hw _ (List.mem_of_getElem? (i := 7) rfl)) (hw _ (List.mem_of_getElem? (i := 8) rfl)) e0 (g := (mkF m 1 #[.val (.ref a1)] [(.ref a1)])) rfl (by rw [hml]; rfl) rfl (hb hby d_jdk_18_method_1_1) (by decide) (W := 0) (by show 2 * 0 + _ ≤ _; exact Nat.le_of_eq rfl) (by decide)
  refine Go.step (T' := T101) (g' := (mkF m 4 #[.val (.ref a1)] [])) st101 ?_
  exact Go.retV X101 hx hret hlk (hb hby d_jdk_18_method_1_4) (⟨rfl, N0, e101⟩) (by decide) (by decide)
def Qboxi (a : Addr) (h0 : Heap) (n0 : Nat) (v : Option Value) (h : Heap) (L : List Loc) : Prop := v = none ∧ Fr n0 L ∧ Keep h0 h [a]
def Qbox (Z : State) (h0 : Heap) (n0 : Nat) (v : Option Value) (h : Heap) (L : List Loc) : Prop := ∃ b : Addr, v = some (.ref b) ∧ Fr n0 L ∧ Keep h0 h [] ∧ Exa Z h b "java/lang/Integer"
theorem own_ef_jdk_33_method_23_code_RI (m : MethodId) (x0 : Addr) (x1 : Int32) : entryFrame m #[(.ref x0), (.int x1)] 2 = mkF m 0 #[.val (.ref x0), .val (.int x1)] [] := by first | (simp [entryFrame, mkF, argsToLocals, Value.category]; done) | rfl | (simp [entryFrame, mkF, argsToLocals, own_cI, own_cJ, own_cR, own_cN]; done)
theorem own_pn_Integer : plainName "java/lang/Integer" = true := by first | (simp [plainName, overriddenIn]; done) | decide +kernel
theorem d_jdk_33_method_23_0 : decode jdk_33_method_23_code 0 = .ok (.aload_n 0, 1) := by decide +kernel
theorem d_jdk_33_method_23_1 : decode jdk_33_method_23_code 1 = .ok (.invokespecial 202, 3) := by decide +kernel
theorem own_pd0 : parseMethodDescriptor "()V" = some ⟨[], none⟩ := by decide +kernel
theorem d_jdk_33_method_23_4 : decode jdk_33_method_23_code 4 = .ok (.aload_n 0, 1) := by decide +kernel
theorem d_jdk_33_method_23_5 : decode jdk_33_method_23_code 5 = .ok (.iload_n 1, 1) := by decide +kernel
theorem d_jdk_33_method_23_6 : decode jdk_33_method_23_code 6 = .ok (.putfield 205, 3) := by decide +kernel
theorem d_jdk_33_method_23_9 : decode jdk_33_method_23_code 9 = .ok (.return_, 1) := by decide +kernel
set_option maxRecDepth 65536 in
set_option maxHeartbeats 40000000 in
theorem own_boxi (l : Launch) (Z : State) (a0 : Array Value) (hw : ∀ d ∈ tables_1, d.before a0 Z = true) (ws : List Jvm.Cond) (a1 : Addr) (p1 : Int32) (u : Value) (h0 : Heap) (n0 : Nat) (Z0 : n0 ≤ h0.size) (E1 : Exa Z h0 a1 "java/lang/Integer") (g1 : n0 ≤ a1) (F1 : Fld Z h0 a1 "java/lang/Integer" "value" "I" u) :
    Con l Z (⟨"java/lang/Integer", "<init>", "(I)V"⟩ : MethodName) jdk_33_method_23_code 2 none ({ frames := 2, cells := 0, slots := 0, locals := 24 } : Room) ws #[(.ref a1), (.int p1)] h0 (Qboxi a1 h0 n0) 0 0 := by
  refine Con.of (plainFor_of_name own_pn_Integer) ?_
  intro pgm e s m below meth c s₁ X0 hx hZ hby hml hown hnm hret hlk e0 hs0
  have N0 := Fr.nil n0
  have hown : s.vm.findClass "java/lang/Integer" = some m.cls := hown
  have hnm : meth.name = "<init>" := hnm
  refine Go.cast (own_ef_jdk_33_method_23_code_RI m a1 p1) ?_
  have K0 := Keep.refl h0 [a1]
  refine Go.step (T' := s₁) (g' := (mkF m 1 #[.val (.ref a1), .val (.int p1)] [(.ref a1)])) (fun _ k => XS.aloadN X0.here hx rfl (hb hby d_jdk_33_method_23_0) rfl rfl k) ?_
  obtain ⟨_, _, ⟨T101, L101, k101, n101⟩, -, X101, ⟨Lc101, hQ101, l101, y101, z101⟩, st101⟩ := X0.specialBack hx (y := (⟨"java/lang/Number", "<init>", "()V"⟩ : MethodName)) rfl hown (mvT hZ (hw _ (List.mem_of_getElem? (i := 38) rfl))) (mvT hZ (hw _ (List.mem_of_getElem? (i := 39) rfl))) (mvT hZ (hw _ (List.mem_of_getElem? (i := 43) rfl))) (by decide) (backOf (W := 0) (Q := Qret none h0 n0) (own_num l Z a0 hw [] a1 h0 n0 Z0) hZ (hw _ (List.mem_of_getElem? (i := 43) rfl)) (hw _ (List.mem_of_getElem? (i := 42) rfl)) (by decide) (by decide)) (g := (mkF m 1 #[.val (.ref a1), .val (.int p1)] [(.ref a1)])) rfl (by rw [hml]; rfl) (Steps.refl _) (a := a1) (argsL := []) (rest := []) (lenOf own_pd0 rfl) rfl (by show 2 * 0 + _ ≤ _; exact Nat.le_of_eq rfl) (hb hby d_jdk_33_method_23_1) (fun _ _ => ⟨rfl, e0, (by decide : 0 + 0 ≤ _), (by decide : 0 + 0 ≤ _)⟩)
  dsimp only [Pt.U, Pt.locs, Pt.cells, Pt.slots] at X101 l101 y101 z101 st101 hQ101
  subst l101 y101 z101
  obtain ⟨rfl, N101q, eh101⟩ := hQ101
  have N101 := Fr.app N0 N101q
  refine Go.step (T' := T101) (g' := (mkF m 4 #[.val (.ref a1), .val (.int p1)] [])) (fun _ k => st101.trans k) ?_
  refine Go.step (T' := T101) (g' := (mkF m 5 #[.val (.ref a1), .val (.int p1)] [(.ref a1)])) (fun _ k => XS.aloadN X101.here hx rfl (hb hby d_jdk_33_method_23_4) rfl rfl k) ?_
  refine Go.step (T' := T101) (g' := (mkF m 6 #[.val (.ref a1), .val (.int p1)] [(.int p1), (.ref a1)])) (fun _ k => XS.iloadN X101.here hx rfl (hb hby d_jdk_33_method_23_5) rfl  k) ?_
  obtain ⟨T102, h102, X102, e102, W102, st102⟩ := putF X101 hx hZ hown (host := "") (Or.inl (hw _ (List.mem_of_getElem? (i := 45) rfl))) Via.refl eh101 F1 E1 (Or.inr ⟨(hw _ (List.mem_of_getElem? (i := 46) rfl)), rfl, hnm⟩) (hw _ (List.mem_of_getElem? (i := 33) rfl)) (ty := .int) (by decide) rfl rfl (g := (mkF m 6 #[.val (.ref a1), .val (.int p1)] [(.int p1), (.ref a1)])) rfl rfl (hb hby d_jdk_33_method_23_6)
  have N102 := Fr.snoc X102 N101 g1
  have Z102 : n0 ≤ h102.size := Nat.le_trans Z0 (Keep.of_wr W102).1
  have K102 := K0.wr W102 (Or.inl (List.mem_of_getElem? (i := 0) rfl))
  have F103 := E1.wr W102
  have F104 := F1.same W102
  refine Go.step (T' := T102) (g' := (mkF m 9 #[.val (.ref a1), .val (.int p1)] [])) st102 ?_
  exact Go.retV X102 hx hret hlk (hb hby d_jdk_33_method_23_9) (by rw [e102]; exact ⟨rfl, N102, K102⟩) (by decide) (by decide)
theorem own_ef_jdk_33_method_22_code_I (m : MethodId) (x0 : Int32) : entryFrame m #[(.int x0)] 1 = mkF m 0 #[.val (.int x0)] [] := by first | (simp [entryFrame, mkF, argsToLocals, Value.category]; done) | rfl | (simp [entryFrame, mkF, argsToLocals, own_cI, own_cJ, own_cR, own_cN]; done)
theorem d_jdk_33_method_22_0 : decode jdk_33_method_22_code 0 = .ok (.iload_n 0, 1) := by decide +kernel
theorem d_jdk_33_method_22_1 : decode jdk_33_method_22_code 1 = .ok (.bipush (-128), 2) := by decide +kernel
theorem d_jdk_33_method_22_3 : decode jdk_33_method_22_code 3 = .ok (.if_icmp .lt 20, 3) := by decide +kernel
theorem d_jdk_33_method_22_23 : decode jdk_33_method_22_code 23 = .ok (.new 1, 3) := by decide +kernel
theorem d_jdk_33_method_22_26 : decode jdk_33_method_22_code 26 = .ok (.dup, 1) := by decide +kernel
theorem d_jdk_33_method_22_27 : decode jdk_33_method_22_code 27 = .ok (.iload_n 0, 1) := by decide +kernel
theorem d_jdk_33_method_22_28 : decode jdk_33_method_22_code 28 = .ok (.invokespecial 199, 3) := by decide +kernel
theorem own_pd1 : parseMethodDescriptor "(I)V" = some ⟨[.int], none⟩ := by decide +kernel
theorem d_jdk_33_method_22_31 : decode jdk_33_method_22_code 31 = .ok (.areturn, 1) := by decide +kernel
theorem d_jdk_33_method_22_6 : decode jdk_33_method_22_code 6 = .ok (.iload_n 0, 1) := by decide +kernel
theorem d_jdk_33_method_22_7 : decode jdk_33_method_22_code 7 = .ok (.getstatic 191, 3) := by decide +kernel
theorem d_jdk_33_method_22_10 : decode jdk_33_method_22_code 10 = .ok (.if_icmp .gt 13, 3) := by decide +kernel
theorem d_jdk_33_method_22_13 : decode jdk_33_method_22_code 13 = .ok (.getstatic 195, 3) := by decide +kernel
theorem d_jdk_33_method_22_16 : decode jdk_33_method_22_code 16 = .ok (.iload_n 0, 1) := by decide +kernel
theorem d_jdk_33_method_22_17 : decode jdk_33_method_22_code 17 = .ok (.sipush 128, 3) := by decide +kernel
theorem d_jdk_33_method_22_20 : decode jdk_33_method_22_code 20 = .ok (.iadd, 1) := by decide +kernel
theorem d_jdk_33_method_22_21 : decode jdk_33_method_22_code 21 = .ok (.aaload, 1) := by decide +kernel
theorem d_jdk_33_method_22_22 : decode jdk_33_method_22_code 22 = .ok (.areturn, 1) := by decide +kernel
set_option maxRecDepth 65536 in
set_option maxHeartbeats 40000000 in
theorem own_box (l : Launch) (Z : State) (a0 : Array Value) (hw : ∀ d ∈ tables_1, d.before a0 Z = true) (ws : List Jvm.Cond) (p1 : Int32) (ca : Addr) (cl : Cell) (h0 : Heap) (n0 : Nat) (Z0 : n0 ≤ h0.size) (Sh : Sta Z h0 "java/lang/Integer$IntegerCache" "high" "I" (.int (127 : Int32))) (Sc : Sta Z h0 "java/lang/Integer$IntegerCache" "cache" "[Ljava/lang/Integer;" (.ref ca)) (Ar : Arr Z h0 ca cl (.object "java/lang/Integer")) (Sz : cl.slots.size = (256 : Int32).toNatClampNeg) (hel : ∀ j : Int32, ¬ (j < 0 ∨ cl.slots.size ≤ j.toNatClampNeg) → ∃ b : Addr, cl.slots[j.toNatClampNeg]? = some (.ref b) ∧ Exa Z h0 b "java/lang/Integer") :
    Con l Z (⟨"java/lang/Integer", "valueOf", "(I)Ljava/lang/Integer;"⟩ : MethodName) jdk_33_method_22_code 1 (some (.object "java/lang/Integer")) ({ frames := 3, cells := 1, slots := 1, locals := 38 } : Room) ws #[(.int p1)] h0 (Qbox Z h0 n0) 1 1 := by
  refine Con.of (plainFor_of_name own_pn_Integer) ?_
  intro pgm e s m below meth c s₁ X0 hx hZ hby hml hown hnm hret hlk e0 hs0
  have N0 := Fr.nil n0
  have hown : s.vm.findClass "java/lang/Integer" = some m.cls := hown
  have hnm : meth.name = "valueOf" := hnm
  refine Go.cast (own_ef_jdk_33_method_22_code_I m p1) ?_
  have K0 := Keep.refl h0 []
  refine Go.step (T' := s₁) (g' := (mkF m 1 #[.val (.int p1)] [(.int p1)])) (fun _ k => XS.iloadN X0.here hx rfl (hb hby d_jdk_33_method_22_0) rfl  k) ?_
  refine Go.step (T' := s₁) (g' := (mkF m 3 #[.val (.int p1)] [(.int (-128 : Int32)), (.int p1)])) (fun _ k => XS.bipush X0.here hx rfl (hb hby d_jdk_33_method_22_1) k) ?_
  by_cases hc101 : p1 < (-128 : Int32)
  · skip
    refine Go.step (T' := s₁) (g' := (mkF m 23 #[.val (.int p1)] [])) (fun _ k => XS.icmpYes X0.here hx rfl (pc0 := 3) (pc' := 23) rfl (hb hby d_jdk_33_method_22_3) rfl (tlt hc101).1 (by decide) (by decide) k) ?_
    obtain ⟨T102, h102, X102, e102, E102, A102, D102, -, st102⟩ := newO X0 hx hZ hown (hw _ (List.mem_of_getElem? (i := 32) rfl)) (hw _ (List.mem_of_getElem? (i := 33) rfl)) (hw _ (List.mem_of_getElem? (i := 24) rfl)) e0 (g := (mkF m 23 #[.val (.int p1)] [])) rfl (hb hby d_jdk_33_method_22_23) (by decide) (by decide)
    obtain ⟨b102, g102⟩ : ∃ z, z = h0.size := ⟨_, rfl⟩
    rw [← g102] at A102 D102 st102
    have ne103 : ca ≠ b102 := by have q := Ar.lt; intro r; rw [r, g102] at q; exact Nat.lt_irrefl _ q
    have ge102 : n0 ≤ b102 := Nat.le_trans Z0 (Nat.le_of_eq g102.symm)
    have Z102 : n0 ≤ h102.size := Nat.le_trans Z0 E102.1
    have sz102 : h0.size ≤ b102 := Nat.le_trans K0.1 (Nat.le_of_eq g102.symm)
    have K102 := K0.ext E102
    have F104 := Sh.ext E102
    have F105 := Sc.ext E102
    have F106 := Ar.ext E102
    have F107 : Fld Z h102 b102 "java/lang/Integer" "value" "I" (.int (0 : Int32)) := D102 (Or.inr (hw _ (List.mem_of_getElem? (i := 46) rfl))) (ty := .int) (by decide)
    refine Go.step (T' := T102) (g' := (mkF m 26 #[.val (.int p1)] [(.ref b102)])) st102 ?_
    refine Go.step (T' := T102) (g' := (mkF m 27 #[.val (.int p1)] [(.ref b102), (.ref b102)])) (fun _ k => XS.dup X102.here hx rfl (hb hby d_jdk_33_method_22_26) rfl rfl k) ?_
    refine Go.step (T' := T102) (g' := (mkF m 28 #[.val (.int p1)] [(.int p1), (.ref b102), (.ref b102)])) (fun _ k => XS.iloadN X102.here hx rfl (hb hby d_jdk_33_method_22_27) rfl  k) ?_
    obtain ⟨_, _, ⟨T108, L108, k108, n108⟩, -, X108, ⟨Lc108, hQ108, l108, y108, z108⟩, st108⟩ := X102.specialBack hx (y := (⟨"java/lang/Integer", "<init>", "(I)V"⟩ : MethodName)) rfl hown (mvT hZ (hw _ (List.mem_of_getElem? (i := 34) rfl))) (mvT hZ (hw _ (List.mem_of_getElem? (i := 35) rfl))) (mvT hZ (hw _ (List.mem_of_getElem? (i := 37) rfl))) (by decide) (backOf (W := 1) (Q := Qboxi b102 h102 n0) (own_boxi l Z a0 hw [] b102 p1 (.int (0 : Int32)) h102 n0 Z102 A102 ge102 F107) hZ (hw _ (List.mem_of_getElem? (i := 37) rfl)) (hw _ (List.mem_of_getElem? (i := 24) rfl)) (by decide) (by decide)) (g := (mkF m 28 #[.val (.int p1)] [(.int p1), (.ref b102), (.ref b102)])) rfl (by rw [hml]; rfl) (Steps.refl _) (a := b102) (argsL := [(.int p1)]) (rest := [(.ref b102)]) (lenOf own_pd1 rfl) rfl (by show 2 * 0 + _ ≤ _; exact Nat.le_of_eq rfl) (hb hby d_jdk_33_method_22_28) (fun _ _ => ⟨rfl, e102, (by decide : 1 + 0 ≤ _), (by decide : 1 + 0 ≤ _)⟩)
    dsimp only [Pt.U, Pt.locs, Pt.cells, Pt.slots] at X108 l108 y108 z108 st108 hQ108
    subst l108 y108 z108
    obtain ⟨rfl, N108q, K108⟩ := hQ108
    have N108 := Fr.app N0 N108q
    have KK108 := K102.trans K108 (allS (Or.inr sz102) all0)
    have Z108 : n0 ≤ T108.heap.size := Nat.le_trans Z102 K108.1
    have F109 := own_sta_keep F104 K108 (allS (own_plain A102) all0)
    have F110 := own_sta_keep F105 K108 (allS (own_plain A102) all0)
    have F111 := own_arr_keep F106 K108 (ninS ne103 nin0)
    have F112 := A102.keep K108
    refine Go.step (T' := T108) (g' := (mkF m 31 #[.val (.int p1)] [(.ref b102)])) (fun _ k => st108.trans k) ?_
    exact Go.retA X108 hx (t := (.object "java/lang/Integer")) hret rfl hlk rfl (hb hby d_jdk_33_method_22_31) (⟨b102, rfl, N108, KK108, F112⟩) (by decide) (by decide)
  · skip
    refine Go.step (T' := s₁) (g' := (mkF m 6 #[.val (.int p1)] [])) (fun _ k => XS.icmpNo X0.here hx rfl (hb hby d_jdk_33_method_22_3) rfl (flt hc101).1 k) ?_
    refine Go.step (T' := s₁) (g' := (mkF m 7 #[.val (.int p1)] [(.int p1)])) (fun _ k => XS.iloadN X0.here hx rfl (hb hby d_jdk_33_method_22_6) rfl  k) ?_
    obtain ⟨T113, X113, e113, st113⟩ := getS2 X0 hx hZ hown (host := "") (Or.inl (hw _ (List.mem_of_getElem? (i := 26) rfl))) Via.refl e0 Sh (g := (mkF m 7 #[.val (.int p1)] [(.int p1)])) rfl (hb hby d_jdk_33_method_22_7)
    refine Go.step (T' := T113) (g' := (mkF m 10 #[.val (.int p1)] [(.int (127 : Int32)), (.int p1)])) st113 ?_
    by_cases hc114 : (127 : Int32) < p1
    · skip
      refine Go.step (T' := T113) (g' := (mkF m 23 #[.val (.int p1)] [])) (fun _ k => XS.icmpYes X113.here hx rfl (pc0 := 10) (pc' := 23) rfl (hb hby d_jdk_33_method_22_10) rfl (tlt hc114).2.2.1 (by decide) (by decide) k) ?_
      obtain ⟨T115, h115, X115, e115, E115, A115, D115, -, st115⟩ := newO X113 hx hZ hown (hw _ (List.mem_of_getElem? (i := 32) rfl)) (hw _ (List.mem_of_getElem? (i := 33) rfl)) (hw _ (List.mem_of_getElem? (i := 24) rfl)) e113 (g := (mkF m 23 #[.val (.int p1)] [])) rfl (hb hby d_jdk_33_method_22_23) (by decide) (by decide)
      obtain ⟨b115, g115⟩ : ∃ z, z = h0.size := ⟨_, rfl⟩
      rw [← g115] at A115 D115 st115
      have ne116 : ca ≠ b115 := by have q := Ar.lt; intro r; rw [r, g115] at q; exact Nat.lt_irrefl _ q
      have ge115 : n0 ≤ b115 := Nat.le_trans Z0 (Nat.le_of_eq g115.symm)
      have Z115 : n0 ≤ h115.size := Nat.le_trans Z0 E115.1
      have sz115 : h0.size ≤ b115 := Nat.le_trans K0.1 (Nat.le_of_eq g115.symm)
      have K115 := K0.ext E115
      have F117 := Sh.ext E115
      have F118 := Sc.ext E115
      have F119 := Ar.ext E115
      have F120 : Fld Z h115 b115 "java/lang/Integer" "value" "I" (.int (0 : Int32)) := D115 (Or.inr (hw _ (List.mem_of_getElem? (i := 46) rfl))) (ty := .int) (by decide)
      refine Go.step (T' := T115) (g' := (mkF m 26 #[.val (.int p1)] [(.ref b115)])) st115 ?_
      refine Go.step (T' := T115) (g' := (mkF m 27 #[.val (.int p1)] [(.ref b115), (.ref b115)])) (fun _ k => XS.dup X115.here hx rfl (hb hby d_jdk_33_method_22_26) rfl rfl k) ?_
      refine Go.step (T' := T115) (g' := (mkF m 28 #[.val (.int p1)] [(.int p1), (.ref b115), (.ref b115)])) (fun _ k => XS.iloadN X115.here hx rfl (hb hby d_jdk_33_method_22_27) rfl  k) ?_
      obtain ⟨_, _, ⟨T121, L121, k121, n121⟩, -, X121, ⟨Lc121, hQ121, l121, y121, z121⟩, st121⟩ := X115.specialBack hx (y := (⟨"java/lang/Integer", "<init>", "(I)V"⟩ : MethodName)) rfl hown (mvT hZ (hw _ (List.mem_of_getElem? (i := 34) rfl))) (mvT hZ (hw _ (List.mem_of_getElem? (i := 35) rfl))) (mvT hZ (hw _ (List.mem_of_getElem? (i := 37) rfl))) (by decide) (backOf (W := 1) (Q := Qboxi b115 h115 n0) (own_boxi l Z a0 hw [] b115 p1 (.int (0 : Int32)) h115 n0 Z115 A115 ge115 F120) hZ (hw _ (List.mem_of_getElem? (i := 37) rfl)) (hw _ (List.mem_of_getElem? (i := 24) rfl)) (by decide) (by decide)) (g := (mkF m 28 #[.val (.int p1)] [(.int p1), (.ref b115), (.ref b115)])) rfl (by rw [hml]; rfl) (Steps.refl _) (a := b115) (argsL := [(.int p1)]) (rest := [(.ref b115)]) (lenOf own_pd1 rfl) rfl (by show 2 * 0 + _ ≤ _; exact Nat.le_of_eq rfl) (hb hby d_jdk_33_method_22_28) (fun _ _ => ⟨rfl, e115, (by decide : 1 + 0 ≤ _), (by decide : 1 + 0 ≤ _)⟩)
      dsimp only [Pt.U, Pt.locs, Pt.cells, Pt.slots] at X121 l121 y121 z121 st121 hQ121
      subst l121 y121 z121
      obtain ⟨rfl, N121q, K121⟩ := hQ121
      have N121 := Fr.app N0 N121q
      have KK121 := K115.trans K121 (allS (Or.inr sz115) all0)
      have Z121 : n0 ≤ T121.heap.size := Nat.le_trans Z115 K121.1
      have F122 := own_sta_keep F117 K121 (allS (own_plain A115) all0)
      have F123 := own_sta_keep F118 K121 (allS (own_plain A115) all0)
      have F124 := own_arr_keep F119 K121 (ninS ne116 nin0)
      have F125 := A115.keep K121
      refine Go.step (T' := T121) (g' := (mkF m 31 #[.val (.int p1)] [(.ref b115)])) (fun _ k => st121.trans k) ?_
      exact Go.retA X121 hx (t := (.object "java/lang/Integer")) hret rfl hlk rfl (hb hby d_jdk_33_method_22_31) (⟨b115, rfl, N121, KK121, F125⟩) (by decide) (by decide)
    · skip
      refine Go.step (T' := T113) (g' := (mkF m 13 #[.val (.int p1)] [])) (fun _ k => XS.icmpNo X113.here hx rfl (hb hby d_jdk_33_method_22_10) rfl (flt hc114).2.2.1 k) ?_
      obtain ⟨T126, X126, e126, st126⟩ := getS2 X113 hx hZ hown (host := "") (Or.inl (hw _ (List.mem_of_getElem? (i := 28) rfl))) Via.refl e113 Sc (g := (mkF m 13 #[.val (.int p1)] [])) rfl (hb hby d_jdk_33_method_22_13)
      refine Go.step (T' := T126) (g' := (mkF m 16 #[.val (.int p1)] [(.ref ca)])) st126 ?_
      refine Go.step (T' := T126) (g' := (mkF m 17 #[.val (.int p1)] [(.int p1), (.ref ca)])) (fun _ k => XS.iloadN X126.here hx rfl (hb hby d_jdk_33_method_22_16) rfl  k) ?_
      refine Go.step (T' := T126) (g' := (mkF m 20 #[.val (.int p1)] [(.int (128 : Int32)), (.int p1), (.ref ca)])) (fun _ k => XS.sipush X126.here hx rfl (hb hby d_jdk_33_method_22_17) k) ?_
      refine Go.step (T' := T126) (g' := (mkF m 21 #[.val (.int p1)] [(.int (p1 + (128 : Int32))), (.ref ca)])) (fun _ k => XS.iadd X126.here hx rfl (hb hby d_jdk_33_method_22_20) rfl k) ?_
      have hin := own_box_in hc101 hc114 Sz
      obtain ⟨bx, hat, Ex⟩ := hel _ hin
      refine Go.step (T' := T126) (g' := (mkF m 22 #[.val (.int p1)] [(.ref bx)])) (fun _ k => X126.aaload hx (j := (p1 + (128 : Int32))) (v := (.ref bx)) (by rw [e126]; exact Ar.1) (State.isArrayOf_alike hZ.alike Ar.2.1) rfl Ar.2.2 (hin) (hat) (g := (mkF m 21 #[.val (.int p1)] [(.int (p1 + (128 : Int32))), (.ref ca)])) rfl rfl (hb hby d_jdk_33_method_22_21) _ k) ?_
      exact Go.retA X126 hx (t := (.object "java/lang/Integer")) hret rfl hlk rfl (hb hby d_jdk_33_method_22_22) (by rw [e126]; exact ⟨bx, rfl, N0, K0, Ex⟩) (by decide) (by decide)
theorem own_fits {z : Int32} (q : nar .boolean z = z) : fits .boolean (.int z) = true := (congrArg (fun y => fits .boolean (.int y)) q).symm.trans (fits_nar_bool z)
def Qini (Z : State) (a : Addr) (x y z : Int32) (h0 : Heap) (n0 : Nat) (v : Option Value) (h : Heap) (L : List Loc) : Prop := v = none ∧ Fr n0 L ∧ Keep h0 h [a] ∧ Fld Z h a "com/example/feldspar/feldspar/algebra/SortKey" "field" "I" (.int x) ∧ Fld Z h a "com/example/feldspar/feldspar/algebra/SortKey" "descending" "Z" (.int y) ∧ Fld Z h a "com/example/feldspar/feldspar/algebra/SortKey" "nullsFirst" "Z" (.int z)
theorem own_ef_prog_23_method_1_code_RIII (m : MethodId) (x0 : Addr) (x1 : Int32) (x2 : Int32) (x3 : Int32) : entryFrame m #[(.ref x0), (.int x1), (.int x2), (.int x3)] 4 = mkF m 0 #[.val (.ref x0), .val (.int x1), .val (.int x2), .val (.int x3)] [] := by first | (simp [entryFrame, mkF, argsToLocals, Value.category]; done) | rfl | (simp [entryFrame, mkF, argsToLocals, own_cI, own_cJ, own_cR, own_cN]; done)
theorem own_pn_SortKey : plainName "com/example/feldspar/feldspar/algebra/SortKey" = true := by first | (simp [plainName, overriddenIn]; done) | decide +kernel
theorem d_prog_23_method_1_0 : decode prog_23_method_1_code 0 = .ok (.aload_n 0, 1) := by decide +kernel
theorem d_prog_23_method_1_1 : decode prog_23_method_1_code 1 = .ok (.invokespecial 1, 3) := by decide +kernel
theorem d_prog_23_method_1_4 : decode prog_23_method_1_code 4 = .ok (.aload_n 0, 1) := by decide +kernel
theorem d_prog_23_method_1_5 : decode prog_23_method_1_code 5 = .ok (.iload_n 1, 1) := by decide +kernel
theorem d_prog_23_method_1_6 : decode prog_23_method_1_code 6 = .ok (.putfield 7, 3) := by decide +kernel
theorem d_prog_23_method_1_9 : decode prog_23_method_1_code 9 = .ok (.aload_n 0, 1) := by decide +kernel
theorem d_prog_23_method_1_10 : decode prog_23_method_1_code 10 = .ok (.iload_n 2, 1) := by decide +kernel
theorem d_prog_23_method_1_11 : decode prog_23_method_1_code 11 = .ok (.putfield 13, 3) := by decide +kernel
theorem d_prog_23_method_1_14 : decode prog_23_method_1_code 14 = .ok (.aload_n 0, 1) := by decide +kernel
theorem d_prog_23_method_1_15 : decode prog_23_method_1_code 15 = .ok (.iload_n 3, 1) := by decide +kernel
theorem d_prog_23_method_1_16 : decode prog_23_method_1_code 16 = .ok (.putfield 17, 3) := by decide +kernel
theorem d_prog_23_method_1_19 : decode prog_23_method_1_code 19 = .ok (.return_, 1) := by decide +kernel
set_option maxRecDepth 65536 in
set_option maxHeartbeats 40000000 in
theorem own_ini (l : Launch) (Z : State) (a0 : Array Value) (hw : ∀ d ∈ tables_1, d.before a0 Z = true) (ws : List Jvm.Cond) (a1 : Addr) (p1 p2 p3 : Int32) (u0 u1 u2 : Value) (h0 : Heap) (n0 : Nat) (Z0 : n0 ≤ h0.size) (E1 : Exa Z h0 a1 "com/example/feldspar/feldspar/algebra/SortKey") (g1 : n0 ≤ a1) (U0 : Fld Z h0 a1 "com/example/feldspar/feldspar/algebra/SortKey" "field" "I" u0) (U1 : Fld Z h0 a1 "com/example/feldspar/feldspar/algebra/SortKey" "descending" "Z" u1) (U2 : Fld Z h0 a1 "com/example/feldspar/feldspar/algebra/SortKey" "nullsFirst" "Z" u2) (b2 : nar .boolean p2 = p2) (b3 : nar .boolean p3 = p3) :
    Con l Z (⟨"com/example/feldspar/feldspar/algebra/SortKey", "<init>", "(IZZ)V"⟩ : MethodName) prog_23_method_1_code 4 none ({ frames := 1, cells := 0, slots := 0, locals := 12 } : Room) ws #[(.ref a1), (.int p1), (.int p2), (.int p3)] h0 (Qini Z a1 p1 p2 p3 h0 n0) 0 0 := by
  refine Con.of (plainFor_of_name own_pn_SortKey) ?_
  intro pgm e s m below meth c s₁ X0 hx hZ hby hml hown hnm hret hlk e0 hs0
  have N0 := Fr.nil n0
  have hown : s.vm.findClass "com/example/feldspar/feldspar/algebra/SortKey" = some m.cls := hown
  have hnm : meth.name = "<init>" := hnm
  refine Go.cast (own_ef_prog_23_method_1_code_RIII m a1 p1 p2 p3) ?_
  have K0 := Keep.refl h0 [a1]
  refine Go.step (T' := s₁) (g' := (mkF m 1 #[.val (.ref a1), .val (.int p1), .val (.int p2), .val (.int p3)] [(.ref a1)])) (fun _ k => XS.aloadN X0.here hx rfl (hb hby d_prog_23_method_1_0) rfl rfl k) ?_
  obtain ⟨T101, X101, e101, st101⟩ := initO X0 hx hZ hown (hw _ (List.mem_of_getElem? (i := 6) rfl)) (hw _ (List.mem_of_getElem? (i := 7) rfl)) (hw _ (List.mem_of_getElem? (i := 8) rfl)) e0 (g := (mkF m 1 #[.val (.ref a1), .val (.int p1), .val (.int p2), .val (.int p3)] [(.ref a1)])) rfl (by rw [hml]; rfl) rfl (hb hby d_prog_23_method_1_1) (by decide) (W := 0) (by show 2 * 0 + _ ≤ _; exact Nat.le_of_eq rfl) (by decide)
  refine Go.step (T' := T101) (g' := (mkF m 4 #[.val (.ref a1), .val (.int p1), .val (.int p2), .val (.int p3)] [])) st101 ?_
  refine Go.step (T' := T101) (g' := (mkF m 5 #[.val (.ref a1), .val (.int p1), .val (.int p2), .val (.int p3)] [(.ref a1)])) (fun _ k => XS.aloadN X101.here hx rfl (hb hby d_prog_23_method_1_4) rfl rfl k) ?_
  refine Go.step (T' := T101) (g' := (mkF m 6 #[.val (.ref a1), .val (.int p1), .val (.int p2), .val (.int p3)] [(.int p1), (.ref a1)])) (fun _ k => XS.iloadN X101.here hx rfl (hb hby d_prog_23_method_1_5) rfl  k) ?_
  obtain ⟨T102, h102, X102, e102, W102, st102⟩ := putF X101 hx hZ hown (host := "") (Or.inl (hw _ (List.mem_of_getElem? (i := 9) rfl))) Via.refl e101 U0 E1 (Or.inr ⟨(hw _ (List.mem_of_getElem? (i := 10) rfl)), rfl, hnm⟩) (hw _ (List.mem_of_getElem? (i := 1) rfl)) (ty := .int) (by decide) rfl rfl (g := (mkF m 6 #[.val (.ref a1), .val (.int p1), .val (.int p2), .val (.int p3)] [(.int p1), (.ref a1)])) rfl rfl (hb hby d_prog_23_method_1_6)
  have N102 := Fr.snoc X102 N0 g1
  have Z102 : n0 ≤ h102.size := Nat.le_trans Z0 (Keep.of_wr W102).1
  have K102 := K0.wr W102 (Or.inl (List.mem_of_getElem? (i := 0) rfl))
  have F103 := E1.wr W102
  have F104 := U1.other W102 (Or.inr (slot_ne (Or.inr (hw _ (List.mem_of_getElem? (i := 12) rfl))) (Or.inr (hw _ (List.mem_of_getElem? (i := 10) rfl))) (by decide) (t := .boolean) (t' := .int) (by decide) (by decide)))
  have F105 := U2.other W102 (Or.inr (slot_ne (Or.inr (hw _ (List.mem_of_getElem? (i := 14) rfl))) (Or.inr (hw _ (List.mem_of_getElem? (i := 10) rfl))) (by decide) (t := .boolean) (t' := .int) (by decide) (by decide)))
  have F106 := U0.same W102
  refine Go.step (T' := T102) (g' := (mkF m 9 #[.val (.ref a1), .val (.int p1), .val (.int p2), .val (.int p3)] [])) st102 ?_
  refine Go.step (T' := T102) (g' := (mkF m 10 #[.val (.ref a1), .val (.int p1), .val (.int p2), .val (.int p3)] [(.ref a1)])) (fun _ k => XS.aloadN X102.here hx rfl (hb hby d_prog_23_method_1_9) rfl rfl k) ?_
  refine Go.step (T' := T102) (g' := (mkF m 11 #[.val (.ref a1), .val (.int p1), .val (.int p2), .val (.int p3)] [(.int p2), (.ref a1)])) (fun _ k => XS.iloadN X102.here hx rfl (hb hby d_prog_23_method_1_10) rfl  k) ?_
  obtain ⟨T107, h107, X107, e107, W107, st107⟩ := putFN X102 hx hZ hown (hw _ (List.mem_of_getElem? (i := 11) rfl)) Via.refl e102 F104 F103 (Or.inr ⟨(hw _ (List.mem_of_getElem? (i := 12) rfl)), rfl, hnm⟩) (hw _ (List.mem_of_getElem? (i := 1) rfl)) (ty := .boolean) (v' := (.int p2)) (by decide) (by exact congrArg Value.int b2) (own_fits b2) (g := (mkF m 11 #[.val (.ref a1), .val (.int p1), .val (.int p2), .val (.int p3)] [(.int p2), (.ref a1)])) rfl rfl (hb hby d_prog_23_method_1_11)
  have N107 := Fr.snoc X107 N102 g1
  have Z107 : n0 ≤ h107.size := Nat.le_trans Z102 (Keep.of_wr W107).1
  have K107 := K102.wr W107 (Or.inl (List.mem_of_getElem? (i := 0) rfl))
  have F108 := F103.wr W107
  have F109 := F105.other W107 (Or.inr (slot_ne (Or.inr (hw _ (List.mem_of_getElem? (i := 14) rfl))) (Or.inr (hw _ (List.mem_of_getElem? (i := 12) rfl))) (by decide) (t := .boolean) (t' := .boolean) (by decide) (by decide)))
  have F110 := F106.other W107 (Or.inr (slot_ne (Or.inr (hw _ (List.mem_of_getElem? (i := 10) rfl))) (Or.inr (hw _ (List.mem_of_getElem? (i := 12) rfl))) (by decide) (t := .int) (t' := .boolean) (by decide) (by decide)))
  have F111 := F104.same W107
  refine Go.step (T' := T107) (g' := (mkF m 14 #[.val (.ref a1), .val (.int p1), .val (.int p2), .val (.int p3)] [])) st107 ?_
  refine Go.step (T' := T107) (g' := (mkF m 15 #[.val (.ref a1), .val (.int p1), .val (.int p2), .val (.int p3)] [(.ref a1)])) (fun _ k => XS.aloadN X107.here hx rfl (hb hby d_prog_23_method_1_14) rfl rfl k) ?_
  refine Go.step (T' := T107) (g' := (mkF m 16 #[.val (.ref a1), .val (.int p1), .val (.int p2), .val (.int p3)] [(.int p3), (.ref a1)])) (fun _ k => XS.iloadN X107.here hx rfl (hb hby d_prog_23_method_1_15) rfl  k) ?_
  obtain ⟨T112, h112, X112, e112, W112, st112⟩ := putFN X107 hx hZ hown (hw _ (List.mem_of_getElem? (i := 13) rfl)) Via.refl e107 F109 F108 (Or.inr ⟨(hw _ (List.mem_of_getElem? (i := 14) rfl)), rfl, hnm⟩) (hw _ (List.mem_of_getElem? (i := 1) rfl)) (ty := .boolean) (v' := (.int p3)) (by decide) (by exact congrArg Value.int b3) (own_fits b3) (g := (mkF m 16 #[.val (.ref a1), .val (.int p1), .val (.int p2), .val (.int p3)] [(.int p3), (.ref a1)])) rfl rfl (hb hby d_prog_23_method_1_16)
  have N112 := Fr.snoc X112 N107 g1
  have Z112 : n0 ≤ h112.size := Nat.le_trans Z107 (Keep.of_wr W112).1
  have K112 := K107.wr W112 (Or.inl (List.mem_of_getElem? (i := 0) rfl))
  have F113 := F108.wr W112
  have F114 := F110.other W112 (Or.inr (slot_ne (Or.inr (hw _ (List.mem_of_getElem? (i := 10) rfl))) (Or.inr (hw _ (List.mem_of_getElem? (i := 14) rfl))) (by decide) (t := .int) (t' := .boolean) (by decide) (by decide)))
  have F115 := F111.other W112 (Or.inr (slot_ne (Or.inr (hw _ (List.mem_of_getElem? (i := 12) rfl))) (Or.inr (hw _ (List.mem_of_getElem? (i := 14) rfl))) (by decide) (t := .boolean) (t' := .boolean) (by decide) (by decide)))
  have F116 := F109.same W112
  refine Go.step (T' := T112) (g' := (mkF m 19 #[.val (.ref a1), .val (.int p1), .val (.int p2), .val (.int p3)] [])) st112 ?_
  exact Go.retV X112 hx hret hlk (hb hby d_prog_23_method_1_19) (by rw [e112]; exact ⟨rfl, N112, K112, F114, F115, F116⟩) (by decide) (by decide)
theorem own_ef_prog_23_method_5_code_RR (m : MethodId) (x0 : Addr) (x1 : Addr) : entryFrame m #[(.ref x0), (.ref x1)] 3 = mkF m 0 #[.val (.ref x0), .val (.ref x1), .unset] [] := by first | (simp [entryFrame, mkF, argsToLocals, Value.category]; done) | rfl | (simp [entryFrame, mkF, argsToLocals, own_cI, own_cJ, own_cR, own_cN]; done)
theorem d_prog_23_method_5_0 : decode prog_23_method_5_code 0 = .ok (.aload_n 1, 1) := by decide +kernel
theorem d_prog_23_method_5_1 : decode prog_23_method_5_code 1 = .ok (.instanceof 8, 3) := by decide +kernel
theorem d_prog_23_method_5_4 : decode prog_23_method_5_code 4 = .ok (.ifCond .eq 45, 3) := by decide +kernel
theorem d_prog_23_method_5_7 : decode prog_23_method_5_code 7 = .ok (.aload_n 1, 1) := by decide +kernel
theorem d_prog_23_method_5_8 : decode prog_23_method_5_code 8 = .ok (.checkcast 8, 3) := by decide +kernel
theorem d_prog_23_method_5_11 : decode prog_23_method_5_code 11 = .ok (.astore_n 2, 1) := by decide +kernel
theorem d_prog_23_method_5_12 : decode prog_23_method_5_code 12 = .ok (.aload_n 0, 1) := by decide +kernel
theorem d_prog_23_method_5_13 : decode prog_23_method_5_code 13 = .ok (.getfield 7, 3) := by decide +kernel
theorem d_prog_23_method_5_16 : decode prog_23_method_5_code 16 = .ok (.aload_n 2, 1) := by decide +kernel
theorem d_prog_23_method_5_17 : decode prog_23_method_5_code 17 = .ok (.getfield 7, 3) := by decide +kernel
theorem d_prog_23_method_5_20 : decode prog_23_method_5_code 20 = .ok (.if_icmp .ne 29, 3) := by decide +kernel
theorem d_prog_23_method_5_23 : decode prog_23_method_5_code 23 = .ok (.aload_n 0, 1) := by decide +kernel
theorem d_prog_23_method_5_24 : decode prog_23_method_5_code 24 = .ok (.getfield 13, 3) := by decide +kernel
theorem d_prog_23_method_5_27 : decode prog_23_method_5_code 27 = .ok (.aload_n 2, 1) := by decide +kernel
theorem d_prog_23_method_5_28 : decode prog_23_method_5_code 28 = .ok (.getfield 13, 3) := by decide +kernel
theorem d_prog_23_method_5_31 : decode prog_23_method_5_code 31 = .ok (.if_icmp .ne 18, 3) := by decide +kernel
theorem d_prog_23_method_5_34 : decode prog_23_method_5_code 34 = .ok (.aload_n 0, 1) := by decide +kernel
theorem d_prog_23_method_5_35 : decode prog_23_method_5_code 35 = .ok (.getfield 17, 3) := by decide +kernel
theorem d_prog_23_method_5_38 : decode prog_23_method_5_code 38 = .ok (.aload_n 2, 1) := by decide +kernel
theorem d_prog_23_method_5_39 : decode prog_23_method_5_code 39 = .ok (.getfield 17, 3) := by decide +kernel
theorem d_prog_23_method_5_42 : decode prog_23_method_5_code 42 = .ok (.if_icmp .ne 7, 3) := by decide +kernel
theorem d_prog_23_method_5_45 : decode prog_23_method_5_code 45 = .ok (.iconst 1, 1) := by decide +kernel
theorem d_prog_23_method_5_46 : decode prog_23_method_5_code 46 = .ok (.goto 4, 3) := by decide +kernel
theorem d_prog_23_method_5_50 : decode prog_23_method_5_code 50 = .ok (.ireturn, 1) := by decide +kernel
theorem d_prog_23_method_5_49 : decode prog_23_method_5_code 49 = .ok (.iconst 0, 1) := by decide +kernel
set_option maxRecDepth 65536 in
set_option maxHeartbeats 40000000 in
theorem own_eq (l : Launch) (Z : State) (a0 : Array Value) (hw : ∀ d ∈ tables_1, d.before a0 Z = true) (ws : List Jvm.Cond) (a1 a2 : Addr) (x0 x1 x2 y0 y1 y2 : Int32) (h0 : Heap) (n0 : Nat) (Z0 : n0 ≤ h0.size) (E2 : Exa Z h0 a2 "com/example/feldspar/feldspar/algebra/SortKey") (G0 : Fld Z h0 a1 "com/example/feldspar/feldspar/algebra/SortKey" "field" "I" (.int x0)) (G1 : Fld Z h0 a1 "com/example/feldspar/feldspar/algebra/SortKey" "descending" "Z" (.int x1)) (G2 : Fld Z h0 a1 "com/example/feldspar/feldspar/algebra/SortKey" "nullsFirst" "Z" (.int x2)) (H0 : Fld Z h0 a2 "com/example/feldspar/feldspar/algebra/SortKey" "field" "I" (.int y0)) (H1 : Fld Z h0 a2 "com/example/feldspar/feldspar/algebra/SortKey" "descending" "Z" (.int y1)) (H2 : Fld Z h0 a2 "com/example/feldspar/feldspar/algebra/SortKey" "nullsFirst" "Z" (.int y2)) :
    Con l Z (⟨"com/example/feldspar/feldspar/algebra/SortKey", "equals", "(Ljava/lang/Object;)Z"⟩ : MethodName) prog_23_method_5_code 3 (some .boolean) ({ frames := 0, cells := 0, slots := 0, locals := 0 } : Room) ws #[(.ref a1), (.ref a2)] h0 (Qret (some (.int (if x0 = y0 ∧ x1 = y1 ∧ x2 = y2 then 1 else 0))) h0 n0) 0 0 := by
  refine Con.of (plainFor_of_name own_pn_SortKey) ?_
  intro pgm e s m below meth c s₁ X0 hx hZ hby hml hown hnm hret hlk e0 hs0
  have N0 := Fr.nil n0
  have hown : s.vm.findClass "com/example/feldspar/feldspar/algebra/SortKey" = some m.cls := hown
  have hnm : meth.name = "equals" := hnm
  refine Go.cast (own_ef_prog_23_method_5_code_RR m a1 a2) ?_
  refine Go.step (T' := s₁) (g' := (mkF m 1 #[.val (.ref a1), .val (.ref a2), .unset] [(.ref a2)])) (fun _ k => XS.aloadN X0.here hx rfl (hb hby d_prog_23_method_5_0) rfl rfl k) ?_
  obtain ⟨T101, X101, e101, st101⟩ := instY X0 hx hZ hown (hw _ (List.mem_of_getElem? (i := 20) rfl)) e0 (Ins.self E2) (g := (mkF m 1 #[.val (.ref a1), .val (.ref a2), .unset] [(.ref a2)])) rfl rfl (hb hby d_prog_23_method_5_1)
  refine Go.step (T' := T101) (g' := (mkF m 4 #[.val (.ref a1), .val (.ref a2), .unset] [(.int (1 : Int32))])) st101 ?_
  refine Go.step (T' := T101) (g' := (mkF m 7 #[.val (.ref a1), .val (.ref a2), .unset] [])) (fun _ k => XS.ifNo X101.here hx rfl (hb hby d_prog_23_method_5_4) rfl ((if0 _ _).trans (feq (by decide : ¬ ((1 : Int32) = (0 : Int32)))).1) k) ?_
  refine Go.step (T' := T101) (g' := (mkF m 8 #[.val (.ref a1), .val (.ref a2), .unset] [(.ref a2)])) (fun _ k => XS.aloadN X101.here hx rfl (hb hby d_prog_23_method_5_7) rfl rfl k) ?_
  obtain ⟨T102, X102, e102, st102⟩ := castY X101 hx hZ hown (hw _ (List.mem_of_getElem? (i := 20) rfl)) e101 (Ins.self E2) (g := (mkF m 8 #[.val (.ref a1), .val (.ref a2), .unset] [(.ref a2)])) rfl rfl (hb hby d_prog_23_method_5_8)
  refine Go.step (T' := T102) (g' := (mkF m 11 #[.val (.ref a1), .val (.ref a2), .unset] [(.ref a2)])) st102 ?_
  refine Go.step (T' := T102) (g' := (mkF m 12 #[.val (.ref a1), .val (.ref a2), .val (.ref a2)] [])) (fun _ k => XS.astoreN X102.here hx rfl (hb hby d_prog_23_method_5_11) rfl rfl (l' := #[.val (.ref a1), .val (.ref a2), .val (.ref a2)]) rfl k) ?_
  refine Go.step (T' := T102) (g' := (mkF m 13 #[.val (.ref a1), .val (.ref a2), .val (.ref a2)] [(.ref a1)])) (fun _ k => XS.aloadN X102.here hx rfl (hb hby d_prog_23_method_5_12) rfl rfl k) ?_
  obtain ⟨T103, X103, e103, st103⟩ := getF X102 hx hZ hown (host := "") (Or.inl (hw _ (List.mem_of_getElem? (i := 9) rfl))) Via.refl e102 G0 (g := (mkF m 13 #[.val (.ref a1), .val (.ref a2), .val (.ref a2)] [(.ref a1)])) rfl rfl (hb hby d_prog_23_method_5_13)
  refine Go.step (T' := T103) (g' := (mkF m 16 #[.val (.ref a1), .val (.ref a2), .val (.ref a2)] [(.int x0)])) st103 ?_
  refine Go.step (T' := T103) (g' := (mkF m 17 #[.val (.ref a1), .val (.ref a2), .val (.ref a2)] [(.ref a2), (.int x0)])) (fun _ k => XS.aloadN X103.here hx rfl (hb hby d_prog_23_method_5_16) rfl rfl k) ?_
  obtain ⟨T104, X104, e104, st104⟩ := getF X103 hx hZ hown (host := "") (Or.inl (hw _ (List.mem_of_getElem? (i := 9) rfl))) Via.refl e103 H0 (g := (mkF m 17 #[.val (.ref a1), .val (.ref a2), .val (.ref a2)] [(.ref a2), (.int x0)])) rfl rfl (hb hby d_prog_23_method_5_17)
  refine Go.step (T' := T104) (g' := (mkF m 20 #[.val (.ref a1), .val (.ref a2), .val (.ref a2)] [(.int y0), (.int x0)])) st104 ?_
  by_cases hc105 : x0 = y0
  · skip
    refine Go.step (T' := T104) (g' := (mkF m 23 #[.val (.ref a1), .val (.ref a2), .val (.ref a2)] [])) (fun _ k => XS.icmpNo X104.here hx rfl (hb hby d_prog_23_method_5_20) rfl (teq hc105).2 k) ?_
    refine Go.step (T' := T104) (g' := (mkF m 24 #[.val (.ref a1), .val (.ref a2), .val (.ref a2)] [(.ref a1)])) (fun _ k => XS.aloadN X104.here hx rfl (hb hby d_prog_23_method_5_23) rfl rfl k) ?_
    obtain ⟨T106, X106, e106, st106⟩ := getF X104 hx hZ hown (host := "") (Or.inl (hw _ (List.mem_of_getElem? (i := 11) rfl))) Via.refl e104 G1 (g := (mkF m 24 #[.val (.ref a1), .val (.ref a2), .val (.ref a2)] [(.ref a1)])) rfl rfl (hb hby d_prog_23_method_5_24)
    refine Go.step (T' := T106) (g' := (mkF m 27 #[.val (.ref a1), .val (.ref a2), .val (.ref a2)] [(.int x1)])) st106 ?_
    refine Go.step (T' := T106) (g' := (mkF m 28 #[.val (.ref a1), .val (.ref a2), .val (.ref a2)] [(.ref a2), (.int x1)])) (fun _ k => XS.aloadN X106.here hx rfl (hb hby d_prog_23_method_5_27) rfl rfl k) ?_
    obtain ⟨T107, X107, e107, st107⟩ := getF X106 hx hZ hown (host := "") (Or.inl (hw _ (List.mem_of_getElem? (i := 11) rfl))) Via.refl e106 H1 (g := (mkF m 28 #[.val (.ref a1), .val (.ref a2), .val (.ref a2)] [(.ref a2), (.int x1)])) rfl rfl (hb hby d_prog_23_method_5_28)
    refine Go.step (T' := T107) (g' := (mkF m 31 #[.val (.ref a1), .val (.ref a2), .val (.ref a2)] [(.int y1), (.int x1)])) st107 ?_
    by_cases hc108 : x1 = y1
    · skip
      refine Go.step (T' := T107) (g' := (mkF m 34 #[.val (.ref a1), .val (.ref a2), .val (.ref a2)] [])) (fun _ k => XS.icmpNo X107.here hx rfl (hb hby d_prog_23_method_5_31) rfl (teq hc108).2 k) ?_
      refine Go.step (T' := T107) (g' := (mkF m 35 #[.val (.ref a1), .val (.ref a2), .val (.ref a2)] [(.ref a1)])) (fun _ k => XS.aloadN X107.here hx rfl (hb hby d_prog_23_method_5_34) rfl rfl k) ?_
      obtain ⟨T109, X109, e109, st109⟩ := getF X107 hx hZ hown (host := "") (Or.inl (hw _ (List.mem_of_getElem? (i := 13) rfl))) Via.refl e107 G2 (g := (mkF m 35 #[.val (.ref a1), .val (.ref a2), .val (.ref a2)] [(.ref a1)])) rfl rfl (hb hby d_prog_23_method_5_35)
      refine Go.step (T' := T109) (g' := (mkF m 38 #[.val (.ref a1), .val (.ref a2), .val (.ref a2)] [(.int x2)])) st109 ?_
      refine Go.step (T' := T109) (g' := (mkF m 39 #[.val (.ref a1), .val (.ref a2), .val (.ref a2)] [(.ref a2), (.int x2)])) (fun _ k => XS.aloadN X109.here hx rfl (hb hby d_prog_23_method_5_38) rfl rfl k) ?_
      obtain ⟨T110, X110, e110, st110⟩ := getF X109 hx hZ hown (host := "") (Or.inl (hw _ (List.mem_of_getElem? (i := 13) rfl))) Via.refl e109 H2 (g := (mkF m 39 #[.val (.ref a1), .val (.ref a2), .val (.ref a2)] [(.ref a2), (.int x2)])) rfl rfl (hb hby d_prog_23_method_5_39)
      refine Go.step (T' := T110) (g' := (mkF m 42 #[.val (.ref a1), .val (.ref a2), .val (.ref a2)] [(.int y2), (.int x2)])) st110 ?_
      by_cases hc111 : x2 = y2
      · skip
        refine Go.step (T' := T110) (g' := (mkF m 45 #[.val (.ref a1), .val (.ref a2), .val (.ref a2)] [])) (fun _ k => XS.icmpNo X110.here hx rfl (hb hby d_prog_23_method_5_42) rfl (teq hc111).2 k) ?_
        refine Go.step (T' := T110) (g' := (mkF m 46 #[.val (.ref a1), .val (.ref a2), .val (.ref a2)] [(.int (1 : Int32))])) (fun _ k => XS.iconst X110.here hx rfl (hb hby d_prog_23_method_5_45) k) ?_
        refine Go.step (T' := T110) (g' := (mkF m 50 #[.val (.ref a1), .val (.ref a2), .val (.ref a2)] [(.int (1 : Int32))])) (fun _ k => XS.goto X110.here hx rfl (pc0 := 46) (pc' := 50) rfl (hb hby d_prog_23_method_5_46) (by decide) (by decide) k) ?_
        exact Go.retN X110 hx (t := .boolean) hret hlk (by simp) (hb hby d_prog_23_method_5_50) (⟨by simp [nar, hc105, hc108, hc111], N0, e110⟩) (by decide) (by decide)
      · skip
        refine Go.step (T' := T110) (g' := (mkF m 49 #[.val (.ref a1), .val (.ref a2), .val (.ref a2)] [])) (fun _ k => XS.icmpYes X110.here hx rfl (pc0 := 42) (pc' := 49) rfl (hb hby d_prog_23_method_5_42) rfl (feq hc111).2 (by decide) (by decide) k) ?_
        refine Go.step (T' := T110) (g' := (mkF m 50 #[.val (.ref a1), .val (.ref a2), .val (.ref a2)] [(.int (0 : Int32))])) (fun _ k => XS.iconst X110.here hx rfl (hb hby d_prog_23_method_5_49) k) ?_
        exact Go.retN X110 hx (t := .boolean) hret hlk (by simp) (hb hby d_prog_23_method_5_50) (⟨by simp [nar, hc105, hc108, hc111], N0, e110⟩) (by decide) (by decide)
    · skip
      refine Go.step (T' := T107) (g' := (mkF m 49 #[.val (.ref a1), .val (.ref a2), .val (.ref a2)] [])) (fun _ k => XS.icmpYes X107.here hx rfl (pc0 := 31) (pc' := 49) rfl (hb hby d_prog_23_method_5_31) rfl (feq hc108).2 (by decide) (by decide) k) ?_
      refine Go.step (T' := T107) (g' := (mkF m 50 #[.val (.ref a1), .val (.ref a2), .val (.ref a2)] [(.int (0 : Int32))])) (fun _ k => XS.iconst X107.here hx rfl (hb hby d_prog_23_method_5_49) k) ?_
      exact Go.retN X107 hx (t := .boolean) hret hlk (by simp) (hb hby d_prog_23_method_5_50) (⟨by simp [nar, hc105, hc108], N0, e107⟩) (by decide) (by decide)
  · skip
    refine Go.step (T' := T104) (g' := (mkF m 49 #[.val (.ref a1), .val (.ref a2), .val (.ref a2)] [])) (fun _ k => XS.icmpYes X104.here hx rfl (pc0 := 20) (pc' := 49) rfl (hb hby d_prog_23_method_5_20) rfl (feq hc105).2 (by decide) (by decide) k) ?_
    refine Go.step (T' := T104) (g' := (mkF m 50 #[.val (.ref a1), .val (.ref a2), .val (.ref a2)] [(.int (0 : Int32))])) (fun _ k => XS.iconst X104.here hx rfl (hb hby d_prog_23_method_5_49) k) ?_
    exact Go.retN X104 hx (t := .boolean) hret hlk (by simp) (hb hby d_prog_23_method_5_50) (⟨by simp [nar, hc105], N0, e104⟩) (by decide) (by decide)
theorem own_ef_prog_23_method_5_code_Rn (m : MethodId) (x0 : Addr) : entryFrame m #[(.ref x0), .null] 3 = mkF m 0 #[.val (.ref x0), .val .null, .unset] [] := by first | (simp [entryFrame, mkF, argsToLocals, Value.category]; done) | rfl | (simp [entryFrame, mkF, argsToLocals, own_cI, own_cJ, own_cR, own_cN]; done)
set_option maxRecDepth 65536 in
set_option maxHeartbeats 40000000 in
theorem own_eqn (l : Launch) (Z : State) (a0 : Array Value) (hw : ∀ d ∈ tables_1, d.before a0 Z = true) (ws : List Jvm.Cond) (a1 : Addr) (h0 : Heap) (n0 : Nat) (Z0 : n0 ≤ h0.size)  :
    Con l Z (⟨"com/example/feldspar/feldspar/algebra/SortKey", "equals", "(Ljava/lang/Object;)Z"⟩ : MethodName) prog_23_method_5_code 3 (some .boolean) ({ frames := 0, cells := 0, slots := 0, locals := 0 } : Room) ws #[(.ref a1), .null] h0 (Qret (some (.int 0)) h0 n0) 0 0 := by
  refine Con.of (plainFor_of_name own_pn_SortKey) ?_
  intro pgm e s m below meth c s₁ X0 hx hZ hby hml hown hnm hret hlk e0 hs0
  have N0 := Fr.nil n0
  have hown : s.vm.findClass "com/example/feldspar/feldspar/algebra/SortKey" = some m.cls := hown
  have hnm : meth.name = "equals" := hnm
  refine Go.cast (own_ef_prog_23_method_5_code_Rn m a1) ?_
  refine Go.step (T' := s₁) (g' := (mkF m 1 #[.val (.ref a1), .val .null, .unset] [.null])) (fun _ k => XS.aloadN X0.here hx rfl (hb hby d_prog_23_method_5_0) rfl rfl k) ?_
  refine Go.step (T' := s₁) (g' := (mkF m 4 #[.val (.ref a1), .val .null, .unset] [(.int (0 : Int32))])) (fun _ k => X0.instanceofNull hx (g := (mkF m 1 #[.val (.ref a1), .val .null, .unset] [.null])) rfl rfl (hb hby d_prog_23_method_5_1) _ k) ?_
  refine Go.step (T' := s₁) (g' := (mkF m 49 #[.val (.ref a1), .val .null, .unset] [])) (fun _ k => XS.ifYes X0.here hx rfl (pc0 := 4) (pc' := 49) rfl (hb hby d_prog_23_method_5_4) rfl ((if0 _ _).trans (teq (by decide : (0 : Int32) = (0 : Int32))).1) (by decide) (by decide) k) ?_
  refine Go.step (T' := s₁) (g' := (mkF m 50 #[.val (.ref a1), .val .null, .unset] [(.int (0 : Int32))])) (fun _ k => XS.iconst X0.here hx rfl (hb hby d_prog_23_method_5_49) k) ?_
  exact Go.retN X0 hx (t := .boolean) hret hlk (by simp) (hb hby d_prog_23_method_5_50) (⟨rfl, N0, e0⟩) (by decide) (by decide)
set_option maxRecDepth 65536 in
set_option maxHeartbeats 40000000 in
theorem own_eqi (l : Launch) (Z : State) (a0 : Array Value) (hw : ∀ d ∈ tables_1, d.before a0 Z = true) (ws : List Jvm.Cond) (a1 a2 : Addr) (h0 : Heap) (n0 : Nat) (Z0 : n0 ≤ h0.size) (E2 : Exa Z h0 a2 "java/lang/Integer") :
    Con l Z (⟨"com/example/feldspar/feldspar/algebra/SortKey", "equals", "(Ljava/lang/Object;)Z"⟩ : MethodName) prog_23_method_5_code 3 (some .boolean) ({ frames := 0, cells := 0, slots := 0, locals := 0 } : Room) ws #[(.ref a1), (.ref a2)] h0 (Qret (some (.int 0)) h0 n0) 0 0 := by
  refine Con.of (plainFor_of_name own_pn_SortKey) ?_
  intro pgm e s m below meth c s₁ X0 hx hZ hby hml hown hnm hret hlk e0 hs0
  have N0 := Fr.nil n0
  have hown : s.vm.findClass "com/example/feldspar/feldspar/algebra/SortKey" = some m.cls := hown
  have hnm : meth.name = "equals" := hnm
  have I2 : Ins Z h0 a2 "com/example/feldspar/feldspar/algebra/SortKey" false := (own_noins E2 (t := ["java/lang/Number", "java/lang/Object"]) (fun w q => by simp only [Cond.chainWords, List.mem_cons, List.not_mem_nil, or_false] at q; rcases q with rfl | rfl | rfl; exact (hw _ (List.mem_of_getElem? (i := 29) rfl)); exact (hw _ (List.mem_of_getElem? (i := 30) rfl)); exact (hw _ (List.mem_of_getElem? (i := 31) rfl))) (hw _ (List.mem_of_getElem? (i := 1) rfl)) (by decide))
  refine Go.cast (own_ef_prog_23_method_5_code_RR m a1 a2) ?_
  refine Go.step (T' := s₁) (g' := (mkF m 1 #[.val (.ref a1), .val (.ref a2), .unset] [(.ref a2)])) (fun _ k => XS.aloadN X0.here hx rfl (hb hby d_prog_23_method_5_0) rfl rfl k) ?_
  obtain ⟨T101, X101, e101, st101⟩ := instN X0 hx hZ hown (hw _ (List.mem_of_getElem? (i := 20) rfl)) e0 (hs0 ▸ I2) (hs0 ▸ E2) (g := (mkF m 1 #[.val (.ref a1), .val (.ref a2), .unset] [(.ref a2)])) rfl rfl (hb hby d_prog_23_method_5_1)
  refine Go.step (T' := T101) (g' := (mkF m 4 #[.val (.ref a1), .val (.ref a2), .unset] [(.int (0 : Int32))])) st101 ?_
  refine Go.step (T' := T101) (g' := (mkF m 49 #[.val (.ref a1), .val (.ref a2), .unset] [])) (fun _ k => XS.ifYes X101.here hx rfl (pc0 := 4) (pc' := 49) rfl (hb hby d_prog_23_method_5_4) rfl ((if0 _ _).trans (teq (by decide : (0 : Int32) = (0 : Int32))).1) (by decide) (by decide) k) ?_
  refine Go.step (T' := T101) (g' := (mkF m 50 #[.val (.ref a1), .val (.ref a2), .unset] [(.int (0 : Int32))])) (fun _ k => XS.iconst X101.here hx rfl (hb hby d_prog_23_method_5_49) k) ?_
  exact Go.retN X101 hx (t := .boolean) hret hlk (by simp) (hb hby d_prog_23_method_5_50) (⟨rfl, N0, e101⟩) (by decide) (by decide)
theorem own_pd2 : parseMethodDescriptor "(Ljava/lang/Object;)Z" = some ⟨[(.object "java/lang/Object")], some .boolean⟩ := by decide +kernel
theorem own_pd3 : parseMethodDescriptor "(I)Ljava/lang/Integer;" = some ⟨[.int], some (.object "java/lang/Integer")⟩ := by decide +kernel
set_option maxRecDepth 65536 in
set_option maxHeartbeats 40000000 in
theorem own_s122 {pgm : Program} {l : Launch} {e : Env} {s : State} {m : MethodId} {args : Array Value} {below : List Frame} {meth : Method} {c : Code} {T0 : State} {locs : List Loc} {cells slots : Nat} {Z : State} {a0 : Array Value} {h0 : Heap} {n0 : Nat} (i0 : Int32) (i1 : Int32) (i2 : Int32) (i3 : Int32) (i4 : Int32) (i5 : Int32) (i6 : Int32) (i7 : Int32) (i8 : Int32) (o9 : Addr) (o10 : Addr) (i11 : Int32) (ca : Addr) (cl : Cell) (bv : Int32 → Value)
    (X0 : Stand pgm l e room_1 s m args below meth c T0 locs cells slots) (hx : pgm.tables.exec = Jvm.exec) (hZ : Z.Warmed39 s.vm) (hw : ∀ d ∈ tables_1, d.before a0 Z = true) (hby : c.code = code) (hml : c.maxLocals = maxLocals) (hown : s.vm.findClass "com/example/feldspar/feldspar/algebra/SortKeyEqualsPinLaw" = some m.cls) (hret : meth.sig.returnType = ret) (hlk : meth.locks = false) (e0 : T0.heap = h0) (N0 : Fr n0 locs) (Z0 : n0 ≤ h0.size) (hcells : cells ≤ 2) (hslots : slots ≤ 6) (f0 : Sta Z h0 "java/lang/Integer$IntegerCache" "high" "I" (.int (127 : Int32))) (f1 : Sta Z h0 "java/lang/Integer$IntegerCache" "cache" "[Ljava/lang/Integer;" (.ref ca)) (f2 : Exa Z h0 o9 "com/example/feldspar/feldspar/algebra/SortKey") (f3 : Exa Z h0 o10 "com/example/feldspar/feldspar/algebra/SortKey") (f4 : Fld Z h0 o9 "com/example/feldspar/feldspar/algebra/SortKey" "field" "I" (.int i0)) (f5 : Fld Z h0 o9 "com/example/feldspar/feldspar/algebra/SortKey" "descending" "Z" (.int i4)) (f6 : Fld Z h0 o9 "com/example/feldspar/feldspar/algebra/SortKey" "nullsFirst" "Z" (.int i5)) (f7 : Fld Z h0 o10 "com/example/feldspar/feldspar/algebra/SortKey" "field" "I" (.int i8)) (f8 : Fld Z h0 o10 "com/example/feldspar/feldspar/algebra/SortKey" "descending" "Z" (.int i6)) (f9 : Fld Z h0 o10 "com/example/feldspar/feldspar/algebra/SortKey" "nullsFirst" "Z" (.int i7)) (BX : Bxs Z ca cl "java/lang/Integer" "I" 256 bv) (KZ : Keep Z.heap h0 []) (hE : i11 = if i0 = i8 ∧ i4 = i6 ∧ i5 = i7 then 1 else 0) :
    Go pgm e below s (Q0 n0) 4 8 T0 (mkF m 122 #[.val (.int i0), .val (.int i1), .val (.int i2), .val (.int i3), .val (.int i4), .val (.int i5), .val (.int i6), .val (.int i7), .val (.int i8), .val (.ref o9), .val (.ref o10), .val (.int i11), .unset, .unset] []) := by
  refine Go.step (T' := T0) (g' := (mkF m 123 #[.val (.int i0), .val (.int i1), .val (.int i2), .val (.int i3), .val (.int i4), .val (.int i5), .val (.int i6), .val (.int i7), .val (.int i8), .val (.ref o9), .val (.ref o10), .val (.int i11), .unset, .unset] [(.int i3)])) (fun _ k => XS.iloadN X0.here hx rfl (hb hby at_122) rfl  k) ?_
  refine Go.step (T' := T0) (g' := (mkF m 124 #[.val (.int i0), .val (.int i1), .val (.int i2), .val (.int i3), .val (.int i4), .val (.int i5), .val (.int i6), .val (.int i7), .val (.int i8), .val (.ref o9), .val (.ref o10), .val (.int i11), .unset, .unset] [(.int (1 : Int32)), (.int i3)])) (fun _ k => XS.iconst X0.here hx rfl (hb hby at_123) k) ?_
  refine Go.step (T' := T0) (g' := (mkF m 125 #[.val (.int i0), .val (.int i1), .val (.int i2), .val (.int i3), .val (.int i4), .val (.int i5), .val (.int i6), .val (.int i7), .val (.int i8), .val (.ref o9), .val (.ref o10), .val (.int i11), .unset, .unset] [(.int ((i3.toUInt32 >>> ((1 : Int32) &&& 31).toUInt32).toInt32))])) (fun _ k => XS.iushr X0.here hx rfl (hb hby at_124) rfl k) ?_
  refine Go.step (T' := T0) (g' := (mkF m 126 #[.val (.int i0), .val (.int i1), .val (.int i2), .val (.int i3), .val (.int i4), .val (.int i5), .val (.int i6), .val (.int i7), .val (.int i8), .val (.ref o9), .val (.ref o10), .val (.int i11), .unset, .unset] [(.int (3 : Int32)), (.int ((i3.toUInt32 >>> ((1 : Int32) &&& 31).toUInt32).toInt32))])) (fun _ k => XS.iconst X0.here hx rfl (hb hby at_125) k) ?_
  refine Go.step (T' := T0) (g' := (mkF m 127 #[.val (.int i0), .val (.int i1), .val (.int i2), .val (.int i3), .val (.int i4), .val (.int i5), .val (.int i6), .val (.int i7), .val (.int i8), .val (.ref o9), .val (.ref o10), .val (.int i11), .unset, .unset] [(.int (((i3.toUInt32 >>> ((1 : Int32) &&& 31).toUInt32).toInt32) &&& (3 : Int32)))])) (fun _ k => XS.iand X0.here hx rfl (hb hby at_126) rfl k) ?_
  refine Go.step (T' := T0) (g' := (mkF m 129 #[.val (.int i0), .val (.int i1), .val (.int i2), .val (.int i3), .val (.int i4), .val (.int i5), .val (.int i6), .val (.int i7), .val (.int i8), .val (.ref o9), .val (.ref o10), .val (.int i11), .val (.int (((i3.toUInt32 >>> ((1 : Int32) &&& 31).toUInt32).toInt32) &&& (3 : Int32))), .unset] [])) (fun _ k => XS.istore X0.here hx rfl (hb hby at_127) rfl (l' := #[.val (.int i0), .val (.int i1), .val (.int i2), .val (.int i3), .val (.int i4), .val (.int i5), .val (.int i6), .val (.int i7), .val (.int i8), .val (.ref o9), .val (.ref o10), .val (.int i11), .val (.int (((i3.toUInt32 >>> ((1 : Int32) &&& 31).toUInt32).toInt32) &&& (3 : Int32))), .unset]) rfl k) ?_
  obtain ⟨kd, hkd⟩ : ∃ z, z = (((i3.toUInt32 >>> ((1 : Int32) &&& 31).toUInt32).toInt32) &&& (3 : Int32)) := ⟨_, rfl⟩
  rw [← hkd]
  refine Go.step (T' := T0) (g' := (mkF m 131 #[.val (.int i0), .val (.int i1), .val (.int i2), .val (.int i3), .val (.int i4), .val (.int i5), .val (.int i6), .val (.int i7), .val (.int i8), .val (.ref o9), .val (.ref o10), .val (.int i11), .val (.int kd), .unset] [(.int kd)])) (fun _ k => XS.iload X0.here hx rfl (hb hby at_129) rfl  k) ?_
  by_cases hc101 : kd = (0 : Int32)
  · skip
    refine Go.step (T' := T0) (g' := (mkF m 134 #[.val (.int i0), .val (.int i1), .val (.int i2), .val (.int i3), .val (.int i4), .val (.int i5), .val (.int i6), .val (.int i7), .val (.int i8), .val (.ref o9), .val (.ref o10), .val (.int i11), .val (.int kd), .unset] [])) (fun _ k => XS.ifNo X0.here hx rfl (hb hby at_131) rfl ((if0 _ _).trans (teq hc101).2) k) ?_
    refine Go.step (T' := T0) (g' := (mkF m 136 #[.val (.int i0), .val (.int i1), .val (.int i2), .val (.int i3), .val (.int i4), .val (.int i5), .val (.int i6), .val (.int i7), .val (.int i8), .val (.ref o9), .val (.ref o10), .val (.int i11), .val (.int kd), .unset] [(.ref o9)])) (fun _ k => XS.aload X0.here hx rfl (hb hby at_134) rfl rfl k) ?_
    refine Go.step (T' := T0) (g' := (mkF m 138 #[.val (.int i0), .val (.int i1), .val (.int i2), .val (.int i3), .val (.int i4), .val (.int i5), .val (.int i6), .val (.int i7), .val (.int i8), .val (.ref o9), .val (.ref o10), .val (.int i11), .val (.int kd), .unset] [(.ref o10), (.ref o9)])) (fun _ k => XS.aload X0.here hx rfl (hb hby at_136) rfl rfl k) ?_
    have hr102 : (if i0 = i8 ∧ i4 = i6 ∧ i5 = i7 then (1 : Int32) else 0) = i11 := hE.symm
    obtain ⟨cq103, kq103, q103a, q103b, q103c⟩ := isOf hZ e0 f2
    obtain ⟨_, _, ⟨T103, L103, k103, n103⟩, -, X103, ⟨Lc103, hQ103, l103, y103, z103⟩, st103⟩ := X0.virtualBack hx (y := (⟨"com/example/feldspar/feldspar/algebra/SortKey", "equals", "(Ljava/lang/Object;)Z"⟩ : MethodName)) (z := (⟨"com/example/feldspar/feldspar/algebra/SortKey", "equals", "(Ljava/lang/Object;)Z"⟩ : MethodName)) hown (mvT hZ (hw _ (List.mem_of_getElem? (i := 15) rfl))) (mvT hZ (hw _ (List.mem_of_getElem? (i := 16) rfl))) (notFace_of_selects (args := #[]) (mvT hZ (hw _ (List.mem_of_getElem? (i := 18) rfl)))) (mvT hZ (hw _ (List.mem_of_getElem? (i := 18) rfl))) (mvT hZ (hw _ (List.mem_of_getElem? (i := 17) rfl))) (by decide) (backOf (W := 0) (Q := Qret (some (.int i11)) h0 n0) (Con.ret hr102 (own_eq l Z a0 hw [] o9 o10 i0 i4 i5 i8 i6 i7 h0 n0 Z0 f3 f4 f5 f6 f7 f8 f9)) hZ (hw _ (List.mem_of_getElem? (i := 19) rfl)) (hw _ (List.mem_of_getElem? (i := 2) rfl)) (by decide) (by decide)) q103a q103c (g := (mkF m 138 #[.val (.int i0), .val (.int i1), .val (.int i2), .val (.int i3), .val (.int i4), .val (.int i5), .val (.int i6), .val (.int i7), .val (.int i8), .val (.ref o9), .val (.ref o10), .val (.int i11), .val (.int kd), .unset] [(.ref o10), (.ref o9)])) rfl (by rw [hml]; rfl) (Steps.refl _) (argsL := [(.ref o10)]) (rest := []) (lenOf own_pd2 rfl) rfl (by show 2 * 0 + _ ≤ _; exact Nat.le_of_eq rfl) (hb hby at_138) (fun _ _ => ⟨rfl, e0, (by dsimp only [Pt.cells, Pt.slots, room_1]; omega), (by dsimp only [Pt.cells, Pt.slots, room_1]; omega)⟩)
    dsimp only [Pt.U, Pt.locs, Pt.cells, Pt.slots] at X103 l103 y103 z103 st103 hQ103
    subst l103 y103 z103
    obtain ⟨rfl, N103q, eh103⟩ := hQ103
    have N103 := Fr.app N0 N103q
    refine Go.step (T' := T103) (g' := (mkF m 141 #[.val (.int i0), .val (.int i1), .val (.int i2), .val (.int i3), .val (.int i4), .val (.int i5), .val (.int i6), .val (.int i7), .val (.int i8), .val (.ref o9), .val (.ref o10), .val (.int i11), .val (.int kd), .unset] [(.int i11)])) (fun _ k => st103.trans k) ?_
    refine Go.step (T' := T103) (g' := (mkF m 143 #[.val (.int i0), .val (.int i1), .val (.int i2), .val (.int i3), .val (.int i4), .val (.int i5), .val (.int i6), .val (.int i7), .val (.int i8), .val (.ref o9), .val (.ref o10), .val (.int i11), .val (.int kd), .unset] [(.int i11), (.int i11)])) (fun _ k => XS.iload X103.here hx rfl (hb hby at_141) rfl  k) ?_
    refine Go.step (T' := T103) (g' := (mkF m 146 #[.val (.int i0), .val (.int i1), .val (.int i2), .val (.int i3), .val (.int i4), .val (.int i5), .val (.int i6), .val (.int i7), .val (.int i8), .val (.ref o9), .val (.ref o10), .val (.int i11), .val (.int kd), .unset] [])) (fun _ k => XS.icmpNo X103.here hx rfl (hb hby at_143) rfl (teq (rfl : i11 = i11)).2 k) ?_
    refine Go.step (T' := T103) (g' := (mkF m 148 #[.val (.int i0), .val (.int i1), .val (.int i2), .val (.int i3), .val (.int i4), .val (.int i5), .val (.int i6), .val (.int i7), .val (.int i8), .val (.ref o9), .val (.ref o10), .val (.int i11), .val (.int kd), .unset] [(.ref o9)])) (fun _ k => XS.aload X103.here hx rfl (hb hby at_146) rfl rfl k) ?_
    refine Go.step (T' := T103) (g' := (mkF m 150 #[.val (.int i0), .val (.int i1), .val (.int i2), .val (.int i3), .val (.int i4), .val (.int i5), .val (.int i6), .val (.int i7), .val (.int i8), .val (.ref o9), .val (.ref o10), .val (.int i11), .val (.int kd), .unset] [(.ref o9), (.ref o9)])) (fun _ k => XS.aload X103.here hx rfl (hb hby at_148) rfl rfl k) ?_
    have hr104 : (if i0 = i0 ∧ i4 = i4 ∧ i5 = i5 then (1 : Int32) else 0) = (1 : Int32) := by simp
    obtain ⟨cq105, kq105, q105a, q105b, q105c⟩ := isOf hZ eh103 f2
    obtain ⟨_, _, ⟨T105, L105, k105, n105⟩, -, X105, ⟨Lc105, hQ105, l105, y105, z105⟩, st105⟩ := X103.virtualBack hx (y := (⟨"com/example/feldspar/feldspar/algebra/SortKey", "equals", "(Ljava/lang/Object;)Z"⟩ : MethodName)) (z := (⟨"com/example/feldspar/feldspar/algebra/SortKey", "equals", "(Ljava/lang/Object;)Z"⟩ : MethodName)) hown (mvT hZ (hw _ (List.mem_of_getElem? (i := 15) rfl))) (mvT hZ (hw _ (List.mem_of_getElem? (i := 16) rfl))) (notFace_of_selects (args := #[]) (mvT hZ (hw _ (List.mem_of_getElem? (i := 18) rfl)))) (mvT hZ (hw _ (List.mem_of_getElem? (i := 18) rfl))) (mvT hZ (hw _ (List.mem_of_getElem? (i := 17) rfl))) (by decide) (backOf (W := 0) (Q := Qret (some (.int (1 : Int32))) h0 n0) (Con.ret hr104 (own_eq l Z a0 hw [] o9 o9 i0 i4 i5 i0 i4 i5 h0 n0 Z0 f2 f4 f5 f6 f4 f5 f6)) hZ (hw _ (List.mem_of_getElem? (i := 19) rfl)) (hw _ (List.mem_of_getElem? (i := 2) rfl)) (by decide) (by decide)) q105a q105c (g := (mkF m 150 #[.val (.int i0), .val (.int i1), .val (.int i2), .val (.int i3), .val (.int i4), .val (.int i5), .val (.int i6), .val (.int i7), .val (.int i8), .val (.ref o9), .val (.ref o10), .val (.int i11), .val (.int kd), .unset] [(.ref o9), (.ref o9)])) rfl (by rw [hml]; rfl) (Steps.refl _) (argsL := [(.ref o9)]) (rest := []) (lenOf own_pd2 rfl) rfl (by show 2 * 0 + _ ≤ _; exact Nat.le_of_eq rfl) (hb hby at_150) (fun _ _ => ⟨rfl, eh103, (by dsimp only [Pt.cells, Pt.slots, room_1]; omega), (by dsimp only [Pt.cells, Pt.slots, room_1]; omega)⟩)
    dsimp only [Pt.U, Pt.locs, Pt.cells, Pt.slots] at X105 l105 y105 z105 st105 hQ105
    subst l105 y105 z105
    obtain ⟨rfl, N105q, eh105⟩ := hQ105
    have N105 := Fr.app N103 N105q
    refine Go.step (T' := T105) (g' := (mkF m 153 #[.val (.int i0), .val (.int i1), .val (.int i2), .val (.int i3), .val (.int i4), .val (.int i5), .val (.int i6), .val (.int i7), .val (.int i8), .val (.ref o9), .val (.ref o10), .val (.int i11), .val (.int kd), .unset] [(.int (1 : Int32))])) (fun _ k => st105.trans k) ?_
    refine Go.step (T' := T105) (g' := (mkF m 156 #[.val (.int i0), .val (.int i1), .val (.int i2), .val (.int i3), .val (.int i4), .val (.int i5), .val (.int i6), .val (.int i7), .val (.int i8), .val (.ref o9), .val (.ref o10), .val (.int i11), .val (.int kd), .unset] [])) (fun _ k => XS.ifNo X105.here hx rfl (hb hby at_153) rfl ((if0 _ _).trans (feq (by decide : ¬ ((1 : Int32) = (0 : Int32)))).1) k) ?_
    refine Go.step (T' := T105) (g' := (mkF m 157 #[.val (.int i0), .val (.int i1), .val (.int i2), .val (.int i3), .val (.int i4), .val (.int i5), .val (.int i6), .val (.int i7), .val (.int i8), .val (.ref o9), .val (.ref o10), .val (.int i11), .val (.int kd), .unset] [(.int (1 : Int32))])) (fun _ k => XS.iconst X105.here hx rfl (hb hby at_156) k) ?_
    refine Go.step (T' := T105) (g' := (mkF m 161 #[.val (.int i0), .val (.int i1), .val (.int i2), .val (.int i3), .val (.int i4), .val (.int i5), .val (.int i6), .val (.int i7), .val (.int i8), .val (.ref o9), .val (.ref o10), .val (.int i11), .val (.int kd), .unset] [(.int (1 : Int32))])) (fun _ k => XS.goto X105.here hx rfl (pc0 := 157) (pc' := 161) rfl (hb hby at_157) (by decide) (by decide) k) ?_
    exact Go.retN X105 hx (t := .boolean) hret hlk (by simp) (hb hby at_161) (⟨rfl, N105⟩) (by omega) (by omega)
  · skip
    refine Go.step (T' := T0) (g' := (mkF m 162 #[.val (.int i0), .val (.int i1), .val (.int i2), .val (.int i3), .val (.int i4), .val (.int i5), .val (.int i6), .val (.int i7), .val (.int i8), .val (.ref o9), .val (.ref o10), .val (.int i11), .val (.int kd), .unset] [])) (fun _ k => XS.ifYes X0.here hx rfl (pc0 := 131) (pc' := 162) rfl (hb hby at_131) rfl ((if0 _ _).trans (feq hc101).2) (by decide) (by decide) k) ?_
    refine Go.step (T' := T0) (g' := (mkF m 164 #[.val (.int i0), .val (.int i1), .val (.int i2), .val (.int i3), .val (.int i4), .val (.int i5), .val (.int i6), .val (.int i7), .val (.int i8), .val (.ref o9), .val (.ref o10), .val (.int i11), .val (.int kd), .unset] [(.int kd)])) (fun _ k => XS.iload X0.here hx rfl (hb hby at_162) rfl  k) ?_
    refine Go.step (T' := T0) (g' := (mkF m 165 #[.val (.int i0), .val (.int i1), .val (.int i2), .val (.int i3), .val (.int i4), .val (.int i5), .val (.int i6), .val (.int i7), .val (.int i8), .val (.ref o9), .val (.ref o10), .val (.int i11), .val (.int kd), .unset] [(.int (1 : Int32)), (.int kd)])) (fun _ k => XS.iconst X0.here hx rfl (hb hby at_164) k) ?_
    by_cases hc106 : kd = (1 : Int32)
    · skip
      refine Go.step (T' := T0) (g' := (mkF m 168 #[.val (.int i0), .val (.int i1), .val (.int i2), .val (.int i3), .val (.int i4), .val (.int i5), .val (.int i6), .val (.int i7), .val (.int i8), .val (.ref o9), .val (.ref o10), .val (.int i11), .val (.int kd), .unset] [])) (fun _ k => XS.icmpNo X0.here hx rfl (hb hby at_165) rfl (teq hc106).2 k) ?_
      refine Go.step (T' := T0) (g' := (mkF m 170 #[.val (.int i0), .val (.int i1), .val (.int i2), .val (.int i3), .val (.int i4), .val (.int i5), .val (.int i6), .val (.int i7), .val (.int i8), .val (.ref o9), .val (.ref o10), .val (.int i11), .val (.int kd), .unset] [(.ref o9)])) (fun _ k => XS.aload X0.here hx rfl (hb hby at_168) rfl rfl k) ?_
      refine Go.step (T' := T0) (g' := (mkF m 171 #[.val (.int i0), .val (.int i1), .val (.int i2), .val (.int i3), .val (.int i4), .val (.int i5), .val (.int i6), .val (.int i7), .val (.int i8), .val (.ref o9), .val (.ref o10), .val (.int i11), .val (.int kd), .unset] [.null, (.ref o9)])) (fun _ k => XS.aconstNull X0.here hx rfl (hb hby at_170) k) ?_
      obtain ⟨cq107, kq107, q107a, q107b, q107c⟩ := isOf hZ e0 f2
      obtain ⟨_, _, ⟨T107, L107, k107, n107⟩, -, X107, ⟨Lc107, hQ107, l107, y107, z107⟩, st107⟩ := X0.virtualBack hx (y := (⟨"com/example/feldspar/feldspar/algebra/SortKey", "equals", "(Ljava/lang/Object;)Z"⟩ : MethodName)) (z := (⟨"com/example/feldspar/feldspar/algebra/SortKey", "equals", "(Ljava/lang/Object;)Z"⟩ : MethodName)) hown (mvT hZ (hw _ (List.mem_of_getElem? (i := 15) rfl))) (mvT hZ (hw _ (List.mem_of_getElem? (i := 16) rfl))) (notFace_of_selects (args := #[]) (mvT hZ (hw _ (List.mem_of_getElem? (i := 18) rfl)))) (mvT hZ (hw _ (List.mem_of_getElem? (i := 18) rfl))) (mvT hZ (hw _ (List.mem_of_getElem? (i := 17) rfl))) (by decide) (backOf (W := 0) (Q := Qret (some (.int 0)) h0 n0) (own_eqn l Z a0 hw [] o9 h0 n0 Z0) hZ (hw _ (List.mem_of_getElem? (i := 19) rfl)) (hw _ (List.mem_of_getElem? (i := 2) rfl)) (by decide) (by decide)) q107a q107c (g := (mkF m 171 #[.val (.int i0), .val (.int i1), .val (.int i2), .val (.int i3), .val (.int i4), .val (.int i5), .val (.int i6), .val (.int i7), .val (.int i8), .val (.ref o9), .val (.ref o10), .val (.int i11), .val (.int kd), .unset] [.null, (.ref o9)])) rfl (by rw [hml]; rfl) (Steps.refl _) (argsL := [.null]) (rest := []) (lenOf own_pd2 rfl) rfl (by show 2 * 0 + _ ≤ _; exact Nat.le_of_eq rfl) (hb hby at_171) (fun _ _ => ⟨rfl, e0, (by dsimp only [Pt.cells, Pt.slots, room_1]; omega), (by dsimp only [Pt.cells, Pt.slots, room_1]; omega)⟩)
      dsimp only [Pt.U, Pt.locs, Pt.cells, Pt.slots] at X107 l107 y107 z107 st107 hQ107
      subst l107 y107 z107
      obtain ⟨rfl, N107q, eh107⟩ := hQ107
      have N107 := Fr.app N0 N107q
      refine Go.step (T' := T107) (g' := (mkF m 174 #[.val (.int i0), .val (.int i1), .val (.int i2), .val (.int i3), .val (.int i4), .val (.int i5), .val (.int i6), .val (.int i7), .val (.int i8), .val (.ref o9), .val (.ref o10), .val (.int i11), .val (.int kd), .unset] [(.int (0 : Int32))])) (fun _ k => st107.trans k) ?_
      refine Go.step (T' := T107) (g' := (mkF m 177 #[.val (.int i0), .val (.int i1), .val (.int i2), .val (.int i3), .val (.int i4), .val (.int i5), .val (.int i6), .val (.int i7), .val (.int i8), .val (.ref o9), .val (.ref o10), .val (.int i11), .val (.int kd), .unset] [])) (fun _ k => XS.ifNo X107.here hx rfl (hb hby at_174) rfl ((if0 _ _).trans (teq (by decide : (0 : Int32) = (0 : Int32))).2) k) ?_
      refine Go.step (T' := T107) (g' := (mkF m 178 #[.val (.int i0), .val (.int i1), .val (.int i2), .val (.int i3), .val (.int i4), .val (.int i5), .val (.int i6), .val (.int i7), .val (.int i8), .val (.ref o9), .val (.ref o10), .val (.int i11), .val (.int kd), .unset] [(.int (1 : Int32))])) (fun _ k => XS.iconst X107.here hx rfl (hb hby at_177) k) ?_
      refine Go.step (T' := T107) (g' := (mkF m 182 #[.val (.int i0), .val (.int i1), .val (.int i2), .val (.int i3), .val (.int i4), .val (.int i5), .val (.int i6), .val (.int i7), .val (.int i8), .val (.ref o9), .val (.ref o10), .val (.int i11), .val (.int kd), .unset] [(.int (1 : Int32))])) (fun _ k => XS.goto X107.here hx rfl (pc0 := 178) (pc' := 182) rfl (hb hby at_178) (by decide) (by decide) k) ?_
      exact Go.retN X107 hx (t := .boolean) hret hlk (by simp) (hb hby at_182) (⟨rfl, N107⟩) (by omega) (by omega)
    · skip
      refine Go.step (T' := T0) (g' := (mkF m 183 #[.val (.int i0), .val (.int i1), .val (.int i2), .val (.int i3), .val (.int i4), .val (.int i5), .val (.int i6), .val (.int i7), .val (.int i8), .val (.ref o9), .val (.ref o10), .val (.int i11), .val (.int kd), .unset] [])) (fun _ k => XS.icmpYes X0.here hx rfl (pc0 := 165) (pc' := 183) rfl (hb hby at_165) rfl (feq hc106).2 (by decide) (by decide) k) ?_
      refine Go.step (T' := T0) (g' := (mkF m 185 #[.val (.int i0), .val (.int i1), .val (.int i2), .val (.int i3), .val (.int i4), .val (.int i5), .val (.int i6), .val (.int i7), .val (.int i8), .val (.ref o9), .val (.ref o10), .val (.int i11), .val (.int kd), .unset] [(.int kd)])) (fun _ k => XS.iload X0.here hx rfl (hb hby at_183) rfl  k) ?_
      refine Go.step (T' := T0) (g' := (mkF m 186 #[.val (.int i0), .val (.int i1), .val (.int i2), .val (.int i3), .val (.int i4), .val (.int i5), .val (.int i6), .val (.int i7), .val (.int i8), .val (.ref o9), .val (.ref o10), .val (.int i11), .val (.int kd), .unset] [(.int (2 : Int32)), (.int kd)])) (fun _ k => XS.iconst X0.here hx rfl (hb hby at_185) k) ?_
      by_cases hc108 : kd = (2 : Int32)
      · skip
        refine Go.step (T' := T0) (g' := (mkF m 189 #[.val (.int i0), .val (.int i1), .val (.int i2), .val (.int i3), .val (.int i4), .val (.int i5), .val (.int i6), .val (.int i7), .val (.int i8), .val (.ref o9), .val (.ref o10), .val (.int i11), .val (.int kd), .unset] [])) (fun _ k => XS.icmpNo X0.here hx rfl (hb hby at_186) rfl (teq hc108).2 k) ?_
        refine Go.step (T' := T0) (g' := (mkF m 190 #[.val (.int i0), .val (.int i1), .val (.int i2), .val (.int i3), .val (.int i4), .val (.int i5), .val (.int i6), .val (.int i7), .val (.int i8), .val (.ref o9), .val (.ref o10), .val (.int i11), .val (.int kd), .unset] [(.int i0)])) (fun _ k => XS.iloadN X0.here hx rfl (hb hby at_189) rfl  k) ?_
        obtain ⟨_, _, ⟨T109, L109, k109, n109⟩, -, X109, ⟨Lc109, hQ109, l109, y109, z109⟩, st109⟩ := Jvm.LawKit.callS X0 hx (y := (⟨"java/lang/Integer", "valueOf", "(I)Ljava/lang/Integer;"⟩ : MethodName)) hown (mvT hZ (hw _ (List.mem_of_getElem? (i := 22) rfl))) (mvT hZ (hw _ (List.mem_of_getElem? (i := 23) rfl))) (mvT hZ (hw _ (List.mem_of_getElem? (i := 24) rfl))) (mvT hZ (hw _ (List.mem_of_getElem? (i := 25) rfl))) (by decide) (backOf (W := 0) (Q := Qbox Z h0 n0) (own_box l Z a0 hw [] i0 ca cl h0 n0 Z0 f0 f1 (own_arr_keep BX.1 KZ nin0) BX.2.1 (fun j hj => (BX.2.2.2 j hj).imp fun b q => ⟨q.1, q.2.1.keep KZ⟩)) hZ (hw _ (List.mem_of_getElem? (i := 25) rfl)) (hw _ (List.mem_of_getElem? (i := 24) rfl)) (by decide) (by decide)) (g := (mkF m 190 #[.val (.int i0), .val (.int i1), .val (.int i2), .val (.int i3), .val (.int i4), .val (.int i5), .val (.int i6), .val (.int i7), .val (.int i8), .val (.ref o9), .val (.ref o10), .val (.int i11), .val (.int kd), .unset] [(.int i0)])) rfl (by rw [hml]; rfl) (argsL := [(.int i0)]) (rest := []) (lenOf own_pd3 rfl) rfl (by show 2 * 0 + _ ≤ _; exact Nat.le_of_eq rfl) (hb hby at_190) (fun _ _ => ⟨rfl, e0, (by dsimp only [Pt.cells, Pt.slots, room_1]; omega), (by dsimp only [Pt.cells, Pt.slots, room_1]; omega)⟩)
        dsimp only [Pt.U, Pt.locs, Pt.cells, Pt.slots] at X109 l109 y109 z109 st109 hQ109
        subst l109 y109 z109
        obtain ⟨b109, rfl, N109q, K109, E109⟩ := hQ109
        have N109 := Fr.app N0 N109q
        have KK109 := KZ.trans K109 all0
        have Z109 : n0 ≤ T109.heap.size := Nat.le_trans Z0 K109.1
        have F110 := own_sta_keep f0 K109 all0
        have F111 := own_sta_keep f1 K109 all0
        have F112 := f2.keep K109
        have F113 := f3.keep K109
        have F114 := f4.keep K109 nin0
        have F115 := f5.keep K109 nin0
        have F116 := f6.keep K109 nin0
        have F117 := f7.keep K109 nin0
        have F118 := f8.keep K109 nin0
        have F119 := f9.keep K109 nin0
        refine Go.step (T' := T109) (g' := (mkF m 193 #[.val (.int i0), .val (.int i1), .val (.int i2), .val (.int i3), .val (.int i4), .val (.int i5), .val (.int i6), .val (.int i7), .val (.int i8), .val (.ref o9), .val (.ref o10), .val (.int i11), .val (.int kd), .unset] [(.ref b109)])) (st109) ?_
        refine Go.step (T' := T109) (g' := (mkF m 195 #[.val (.int i0), .val (.int i1), .val (.int i2), .val (.int i3), .val (.int i4), .val (.int i5), .val (.int i6), .val (.int i7), .val (.int i8), .val (.ref o9), .val (.ref o10), .val (.int i11), .val (.int kd), .val (.ref b109)] [])) (fun _ k => XS.astore X109.here hx rfl (hb hby at_193) rfl rfl (l' := #[.val (.int i0), .val (.int i1), .val (.int i2), .val (.int i3), .val (.int i4), .val (.int i5), .val (.int i6), .val (.int i7), .val (.int i8), .val (.ref o9), .val (.ref o10), .val (.int i11), .val (.int kd), .val (.ref b109)]) rfl k) ?_
        refine Go.step (T' := T109) (g' := (mkF m 197 #[.val (.int i0), .val (.int i1), .val (.int i2), .val (.int i3), .val (.int i4), .val (.int i5), .val (.int i6), .val (.int i7), .val (.int i8), .val (.ref o9), .val (.ref o10), .val (.int i11), .val (.int kd), .val (.ref b109)] [(.ref o9)])) (fun _ k => XS.aload X109.here hx rfl (hb hby at_195) rfl rfl k) ?_
        refine Go.step (T' := T109) (g' := (mkF m 199 #[.val (.int i0), .val (.int i1), .val (.int i2), .val (.int i3), .val (.int i4), .val (.int i5), .val (.int i6), .val (.int i7), .val (.int i8), .val (.ref o9), .val (.ref o10), .val (.int i11), .val (.int kd), .val (.ref b109)] [(.ref b109), (.ref o9)])) (fun _ k => XS.aload X109.here hx rfl (hb hby at_197) rfl rfl k) ?_
        obtain ⟨cq120, kq120, q120a, q120b, q120c⟩ := isOf hZ rfl F112
        obtain ⟨_, _, ⟨T120, L120, k120, n120⟩, -, X120, ⟨Lc120, hQ120, l120, y120, z120⟩, st120⟩ := X109.virtualBack hx (y := (⟨"com/example/feldspar/feldspar/algebra/SortKey", "equals", "(Ljava/lang/Object;)Z"⟩ : MethodName)) (z := (⟨"com/example/feldspar/feldspar/algebra/SortKey", "equals", "(Ljava/lang/Object;)Z"⟩ : MethodName)) hown (mvT hZ (hw _ (List.mem_of_getElem? (i := 15) rfl))) (mvT hZ (hw _ (List.mem_of_getElem? (i := 16) rfl))) (notFace_of_selects (args := #[]) (mvT hZ (hw _ (List.mem_of_getElem? (i := 18) rfl)))) (mvT hZ (hw _ (List.mem_of_getElem? (i := 18) rfl))) (mvT hZ (hw _ (List.mem_of_getElem? (i := 17) rfl))) (by decide) (backOf (W := 0) (Q := Qret (some (.int 0)) T109.heap n0) (own_eqi l Z a0 hw [] o9 b109 T109.heap n0 Z109 E109) hZ (hw _ (List.mem_of_getElem? (i := 19) rfl)) (hw _ (List.mem_of_getElem? (i := 2) rfl)) (by decide) (by decide)) q120a q120c (g := (mkF m 199 #[.val (.int i0), .val (.int i1), .val (.int i2), .val (.int i3), .val (.int i4), .val (.int i5), .val (.int i6), .val (.int i7), .val (.int i8), .val (.ref o9), .val (.ref o10), .val (.int i11), .val (.int kd), .val (.ref b109)] [(.ref b109), (.ref o9)])) rfl (by rw [hml]; rfl) (Steps.refl _) (argsL := [(.ref b109)]) (rest := []) (lenOf own_pd2 rfl) rfl (by show 2 * 0 + _ ≤ _; exact Nat.le_of_eq rfl) (hb hby at_199) (fun _ _ => ⟨rfl, rfl, (by dsimp only [Pt.cells, Pt.slots, room_1]; omega), (by dsimp only [Pt.cells, Pt.slots, room_1]; omega)⟩)
        dsimp only [Pt.U, Pt.locs, Pt.cells, Pt.slots] at X120 l120 y120 z120 st120 hQ120
        subst l120 y120 z120
        obtain ⟨rfl, N120q, eh120⟩ := hQ120
        have N120 := Fr.app N109 N120q
        refine Go.step (T' := T120) (g' := (mkF m 202 #[.val (.int i0), .val (.int i1), .val (.int i2), .val (.int i3), .val (.int i4), .val (.int i5), .val (.int i6), .val (.int i7), .val (.int i8), .val (.ref o9), .val (.ref o10), .val (.int i11), .val (.int kd), .val (.ref b109)] [(.int (0 : Int32))])) (fun _ k => st120.trans k) ?_
        refine Go.step (T' := T120) (g' := (mkF m 205 #[.val (.int i0), .val (.int i1), .val (.int i2), .val (.int i3), .val (.int i4), .val (.int i5), .val (.int i6), .val (.int i7), .val (.int i8), .val (.ref o9), .val (.ref o10), .val (.int i11), .val (.int kd), .val (.ref b109)] [])) (fun _ k => XS.ifNo X120.here hx rfl (hb hby at_202) rfl ((if0 _ _).trans (teq (by decide : (0 : Int32) = (0 : Int32))).2) k) ?_
        refine Go.step (T' := T120) (g' := (mkF m 206 #[.val (.int i0), .val (.int i1), .val (.int i2), .val (.int i3), .val (.int i4), .val (.int i5), .val (.int i6), .val (.int i7), .val (.int i8), .val (.ref o9), .val (.ref o10), .val (.int i11), .val (.int kd), .val (.ref b109)] [(.int (1 : Int32))])) (fun _ k => XS.iconst X120.here hx rfl (hb hby at_205) k) ?_
        refine Go.step (T' := T120) (g' := (mkF m 210 #[.val (.int i0), .val (.int i1), .val (.int i2), .val (.int i3), .val (.int i4), .val (.int i5), .val (.int i6), .val (.int i7), .val (.int i8), .val (.ref o9), .val (.ref o10), .val (.int i11), .val (.int kd), .val (.ref b109)] [(.int (1 : Int32))])) (fun _ k => XS.goto X120.here hx rfl (pc0 := 206) (pc' := 210) rfl (hb hby at_206) (by decide) (by decide) k) ?_
        exact Go.retN X120 hx (t := .boolean) hret hlk (by simp) (hb hby at_210) (⟨rfl, N120⟩) (by omega) (by omega)
      · skip
        refine Go.step (T' := T0) (g' := (mkF m 211 #[.val (.int i0), .val (.int i1), .val (.int i2), .val (.int i3), .val (.int i4), .val (.int i5), .val (.int i6), .val (.int i7), .val (.int i8), .val (.ref o9), .val (.ref o10), .val (.int i11), .val (.int kd), .unset] [])) (fun _ k => XS.icmpYes X0.here hx rfl (pc0 := 186) (pc' := 211) rfl (hb hby at_186) rfl (feq hc108).2 (by decide) (by decide) k) ?_
        refine Go.step (T' := T0) (g' := (mkF m 213 #[.val (.int i0), .val (.int i1), .val (.int i2), .val (.int i3), .val (.int i4), .val (.int i5), .val (.int i6), .val (.int i7), .val (.int i8), .val (.ref o9), .val (.ref o10), .val (.int i11), .val (.int kd), .unset] [(.ref o10)])) (fun _ k => XS.aload X0.here hx rfl (hb hby at_211) rfl rfl k) ?_
        refine Go.step (T' := T0) (g' := (mkF m 215 #[.val (.int i0), .val (.int i1), .val (.int i2), .val (.int i3), .val (.int i4), .val (.int i5), .val (.int i6), .val (.int i7), .val (.int i8), .val (.ref o9), .val (.ref o10), .val (.int i11), .val (.int kd), .unset] [(.ref o9), (.ref o10)])) (fun _ k => XS.aload X0.here hx rfl (hb hby at_213) rfl rfl k) ?_
        have hr121 : (if i8 = i0 ∧ i6 = i4 ∧ i7 = i5 then (1 : Int32) else 0) = i11 := (own_ifc (Iff.intro (fun q => ⟨q.1.symm, q.2.1.symm, q.2.2.symm⟩) (fun q => ⟨q.1.symm, q.2.1.symm, q.2.2.symm⟩))).trans hE.symm
        obtain ⟨cq122, kq122, q122a, q122b, q122c⟩ := isOf hZ e0 f3
        obtain ⟨_, _, ⟨T122, L122, k122, n122⟩, -, X122, ⟨Lc122, hQ122, l122, y122, z122⟩, st122⟩ := X0.virtualBack hx (y := (⟨"com/example/feldspar/feldspar/algebra/SortKey", "equals", "(Ljava/lang/Object;)Z"⟩ : MethodName)) (z := (⟨"com/example/feldspar/feldspar/algebra/SortKey", "equals", "(Ljava/lang/Object;)Z"⟩ : MethodName)) hown (mvT hZ (hw _ (List.mem_of_getElem? (i := 15) rfl))) (mvT hZ (hw _ (List.mem_of_getElem? (i := 16) rfl))) (notFace_of_selects (args := #[]) (mvT hZ (hw _ (List.mem_of_getElem? (i := 18) rfl)))) (mvT hZ (hw _ (List.mem_of_getElem? (i := 18) rfl))) (mvT hZ (hw _ (List.mem_of_getElem? (i := 17) rfl))) (by decide) (backOf (W := 0) (Q := Qret (some (.int i11)) h0 n0) (Con.ret hr121 (own_eq l Z a0 hw [] o10 o9 i8 i6 i7 i0 i4 i5 h0 n0 Z0 f2 f7 f8 f9 f4 f5 f6)) hZ (hw _ (List.mem_of_getElem? (i := 19) rfl)) (hw _ (List.mem_of_getElem? (i := 2) rfl)) (by decide) (by decide)) q122a q122c (g := (mkF m 215 #[.val (.int i0), .val (.int i1), .val (.int i2), .val (.int i3), .val (.int i4), .val (.int i5), .val (.int i6), .val (.int i7), .val (.int i8), .val (.ref o9), .val (.ref o10), .val (.int i11), .val (.int kd), .unset] [(.ref o9), (.ref o10)])) rfl (by rw [hml]; rfl) (Steps.refl _) (argsL := [(.ref o9)]) (rest := []) (lenOf own_pd2 rfl) rfl (by show 2 * 0 + _ ≤ _; exact Nat.le_of_eq rfl) (hb hby at_215) (fun _ _ => ⟨rfl, e0, (by dsimp only [Pt.cells, Pt.slots, room_1]; omega), (by dsimp only [Pt.cells, Pt.slots, room_1]; omega)⟩)
        dsimp only [Pt.U, Pt.locs, Pt.cells, Pt.slots] at X122 l122 y122 z122 st122 hQ122
        subst l122 y122 z122
        obtain ⟨rfl, N122q, eh122⟩ := hQ122
        have N122 := Fr.app N0 N122q
        refine Go.step (T' := T122) (g' := (mkF m 218 #[.val (.int i0), .val (.int i1), .val (.int i2), .val (.int i3), .val (.int i4), .val (.int i5), .val (.int i6), .val (.int i7), .val (.int i8), .val (.ref o9), .val (.ref o10), .val (.int i11), .val (.int kd), .unset] [(.int i11)])) (fun _ k => st122.trans k) ?_
        refine Go.step (T' := T122) (g' := (mkF m 220 #[.val (.int i0), .val (.int i1), .val (.int i2), .val (.int i3), .val (.int i4), .val (.int i5), .val (.int i6), .val (.int i7), .val (.int i8), .val (.ref o9), .val (.ref o10), .val (.int i11), .val (.int kd), .unset] [(.int i11), (.int i11)])) (fun _ k => XS.iload X122.here hx rfl (hb hby at_218) rfl  k) ?_
        refine Go.step (T' := T122) (g' := (mkF m 223 #[.val (.int i0), .val (.int i1), .val (.int i2), .val (.int i3), .val (.int i4), .val (.int i5), .val (.int i6), .val (.int i7), .val (.int i8), .val (.ref o9), .val (.ref o10), .val (.int i11), .val (.int kd), .unset] [])) (fun _ k => XS.icmpNo X122.here hx rfl (hb hby at_220) rfl (teq (rfl : i11 = i11)).2 k) ?_
        refine Go.step (T' := T122) (g' := (mkF m 224 #[.val (.int i0), .val (.int i1), .val (.int i2), .val (.int i3), .val (.int i4), .val (.int i5), .val (.int i6), .val (.int i7), .val (.int i8), .val (.ref o9), .val (.ref o10), .val (.int i11), .val (.int kd), .unset] [(.int (1 : Int32))])) (fun _ k => XS.iconst X122.here hx rfl (hb hby at_223) k) ?_
        refine Go.step (T' := T122) (g' := (mkF m 228 #[.val (.int i0), .val (.int i1), .val (.int i2), .val (.int i3), .val (.int i4), .val (.int i5), .val (.int i6), .val (.int i7), .val (.int i8), .val (.ref o9), .val (.ref o10), .val (.int i11), .val (.int kd), .unset] [(.int (1 : Int32))])) (fun _ k => XS.goto X122.here hx rfl (pc0 := 224) (pc' := 228) rfl (hb hby at_224) (by decide) (by decide) k) ?_
        exact Go.retN X122 hx (t := .boolean) hret hlk (by simp) (hb hby at_228) (⟨rfl, N122⟩) (by omega) (by omega)
theorem own_pd4 : parseMethodDescriptor "(IZZ)V" = some ⟨[.int, .boolean, .boolean], none⟩ := by decide +kernel
set_option maxRecDepth 65536 in
set_option maxHeartbeats 40000000 in
theorem own_s66 {pgm : Program} {l : Launch} {e : Env} {s : State} {m : MethodId} {args : Array Value} {below : List Frame} {meth : Method} {c : Code} {T0 : State} {locs : List Loc} {cells slots : Nat} {Z : State} {a0 : Array Value} {h0 : Heap} {n0 : Nat} (i0 : Int32) (i1 : Int32) (i2 : Int32) (i3 : Int32) (i4 : Int32) (i5 : Int32) (i6 : Int32) (i7 : Int32) (i8 : Int32) (ca : Addr) (cl : Cell) (bv : Int32 → Value)
    (X0 : Stand pgm l e room_1 s m args below meth c T0 locs cells slots) (hx : pgm.tables.exec = Jvm.exec) (hZ : Z.Warmed39 s.vm) (hw : ∀ d ∈ tables_1, d.before a0 Z = true) (hby : c.code = code) (hml : c.maxLocals = maxLocals) (hown : s.vm.findClass "com/example/feldspar/feldspar/algebra/SortKeyEqualsPinLaw" = some m.cls) (hret : meth.sig.returnType = ret) (hlk : meth.locks = false) (e0 : T0.heap = h0) (N0 : Fr n0 locs) (Z0 : n0 ≤ h0.size) (hcells : cells ≤ 0) (hslots : slots ≤ 0) (f0 : Sta Z h0 "java/lang/Integer$IntegerCache" "high" "I" (.int (127 : Int32))) (f1 : Sta Z h0 "java/lang/Integer$IntegerCache" "cache" "[Ljava/lang/Integer;" (.ref ca)) (BX : Bxs Z ca cl "java/lang/Integer" "I" 256 bv) (KZ : Keep Z.heap h0 []) (b4 : nar .boolean i4 = i4) (b5 : nar .boolean i5 = i5) (b6 : nar .boolean i6 = i6) (b7 : nar .boolean i7 = i7) :
    Go pgm e below s (Q0 n0) 4 8 T0 (mkF m 66 #[.val (.int i0), .val (.int i1), .val (.int i2), .val (.int i3), .val (.int i4), .val (.int i5), .val (.int i6), .val (.int i7), .val (.int i8), .unset, .unset, .unset, .unset, .unset] []) := by
  obtain ⟨T101, h101, X101, e101, E101, A101, D101, -, st101⟩ := newO X0 hx hZ hown (hw _ (List.mem_of_getElem? (i := 0) rfl)) (hw _ (List.mem_of_getElem? (i := 1) rfl)) (hw _ (List.mem_of_getElem? (i := 2) rfl)) e0 (g := (mkF m 66 #[.val (.int i0), .val (.int i1), .val (.int i2), .val (.int i3), .val (.int i4), .val (.int i5), .val (.int i6), .val (.int i7), .val (.int i8), .unset, .unset, .unset, .unset, .unset] [])) rfl (hb hby at_66) (by dsimp only [Pt.cells, Pt.slots, room_1]; omega) (by dsimp only [Pt.cells, Pt.slots, room_1]; omega)
  obtain ⟨b101, g101⟩ : ∃ z, z = h0.size := ⟨_, rfl⟩
  rw [← g101] at A101 D101 st101
  have ge101 : n0 ≤ b101 := Nat.le_trans Z0 (Nat.le_of_eq g101.symm)
  have Z101 : n0 ≤ h101.size := Nat.le_trans Z0 E101.1
  have sz101 : Z.heap.size ≤ b101 := Nat.le_trans KZ.1 (Nat.le_of_eq g101.symm)
  have K101 := KZ.ext E101
  have F102 := f0.ext E101
  have F103 := f1.ext E101
  have F104 : Fld Z h101 b101 "com/example/feldspar/feldspar/algebra/SortKey" "field" "I" (.int (0 : Int32)) := D101 (Or.inr (hw _ (List.mem_of_getElem? (i := 10) rfl))) (ty := .int) (by decide)
  have F105 : Fld Z h101 b101 "com/example/feldspar/feldspar/algebra/SortKey" "descending" "Z" (.int (0 : Int32)) := D101 (Or.inr (hw _ (List.mem_of_getElem? (i := 12) rfl))) (ty := .boolean) (by decide)
  have F106 : Fld Z h101 b101 "com/example/feldspar/feldspar/algebra/SortKey" "nullsFirst" "Z" (.int (0 : Int32)) := D101 (Or.inr (hw _ (List.mem_of_getElem? (i := 14) rfl))) (ty := .boolean) (by decide)
  refine Go.step (T' := T101) (g' := (mkF m 69 #[.val (.int i0), .val (.int i1), .val (.int i2), .val (.int i3), .val (.int i4), .val (.int i5), .val (.int i6), .val (.int i7), .val (.int i8), .unset, .unset, .unset, .unset, .unset] [(.ref b101)])) st101 ?_
  refine Go.step (T' := T101) (g' := (mkF m 70 #[.val (.int i0), .val (.int i1), .val (.int i2), .val (.int i3), .val (.int i4), .val (.int i5), .val (.int i6), .val (.int i7), .val (.int i8), .unset, .unset, .unset, .unset, .unset] [(.ref b101), (.ref b101)])) (fun _ k => XS.dup X101.here hx rfl (hb hby at_69) rfl rfl k) ?_
  refine Go.step (T' := T101) (g' := (mkF m 71 #[.val (.int i0), .val (.int i1), .val (.int i2), .val (.int i3), .val (.int i4), .val (.int i5), .val (.int i6), .val (.int i7), .val (.int i8), .unset, .unset, .unset, .unset, .unset] [(.int i0), (.ref b101), (.ref b101)])) (fun _ k => XS.iloadN X101.here hx rfl (hb hby at_70) rfl  k) ?_
  refine Go.step (T' := T101) (g' := (mkF m 73 #[.val (.int i0), .val (.int i1), .val (.int i2), .val (.int i3), .val (.int i4), .val (.int i5), .val (.int i6), .val (.int i7), .val (.int i8), .unset, .unset, .unset, .unset, .unset] [(.int i4), (.int i0), (.ref b101), (.ref b101)])) (fun _ k => XS.iload X101.here hx rfl (hb hby at_71) rfl  k) ?_
  refine Go.step (T' := T101) (g' := (mkF m 75 #[.val (.int i0), .val (.int i1), .val (.int i2), .val (.int i3), .val (.int i4), .val (.int i5), .val (.int i6), .val (.int i7), .val (.int i8), .unset, .unset, .unset, .unset, .unset] [(.int i5), (.int i4), (.int i0), (.ref b101), (.ref b101)])) (fun _ k => XS.iload X101.here hx rfl (hb hby at_73) rfl  k) ?_
  obtain ⟨_, _, ⟨T107, L107, k107, n107⟩, -, X107, ⟨Lc107, hQ107, l107, y107, z107⟩, st107⟩ := X101.specialBack hx (y := (⟨"com/example/feldspar/feldspar/algebra/SortKey", "<init>", "(IZZ)V"⟩ : MethodName)) rfl hown (mvT hZ (hw _ (List.mem_of_getElem? (i := 3) rfl))) (mvT hZ (hw _ (List.mem_of_getElem? (i := 4) rfl))) (mvT hZ (hw _ (List.mem_of_getElem? (i := 5) rfl))) (by decide) (backOf (W := 1) (Q := Qini Z b101 i0 i4 i5 h101 n0) (own_ini l Z a0 hw [] b101 i0 i4 i5 ((.int (0 : Int32))) ((.int (0 : Int32))) ((.int (0 : Int32))) h101 n0 Z101 A101 ge101 F104 F105 F106 b4 b5) hZ (hw _ (List.mem_of_getElem? (i := 5) rfl)) (hw _ (List.mem_of_getElem? (i := 2) rfl)) (by decide) (by decide)) (g := (mkF m 75 #[.val (.int i0), .val (.int i1), .val (.int i2), .val (.int i3), .val (.int i4), .val (.int i5), .val (.int i6), .val (.int i7), .val (.int i8), .unset, .unset, .unset, .unset, .unset] [(.int i5), (.int i4), (.int i0), (.ref b101), (.ref b101)])) rfl (by rw [hml]; rfl) (Steps.refl _) (a := b101) (argsL := [(.int i0), (.int i4), (.int i5)]) (rest := [(.ref b101)]) (lenOf own_pd4 rfl) rfl (by show 2 * 0 + _ ≤ _; exact Nat.le_of_eq rfl) (hb hby at_75) (fun _ _ => ⟨rfl, e101, (by dsimp only [Pt.cells, Pt.slots, room_1]; omega), (by dsimp only [Pt.cells, Pt.slots, room_1]; omega)⟩)
  dsimp only [Pt.U, Pt.locs, Pt.cells, Pt.slots] at X107 l107 y107 z107 st107 hQ107
  subst l107 y107 z107
  obtain ⟨rfl, N107q, K107, G107a, G107b, G107c⟩ := hQ107
  have N107 := Fr.app N0 N107q
  have KK107 := K101.trans K107 (allS (Or.inr sz101) all0)
  have Z107 : n0 ≤ T107.heap.size := Nat.le_trans Z101 K107.1
  have F108 := own_sta_keep F102 K107 (allS (own_plain A101) all0)
  have F109 := own_sta_keep F103 K107 (allS (own_plain A101) all0)
  have F110 := A101.keep K107
  refine Go.step (T' := T107) (g' := (mkF m 78 #[.val (.int i0), .val (.int i1), .val (.int i2), .val (.int i3), .val (.int i4), .val (.int i5), .val (.int i6), .val (.int i7), .val (.int i8), .unset, .unset, .unset, .unset, .unset] [(.ref b101)])) (fun _ k => st107.trans k) ?_
  refine Go.step (T' := T107) (g' := (mkF m 80 #[.val (.int i0), .val (.int i1), .val (.int i2), .val (.int i3), .val (.int i4), .val (.int i5), .val (.int i6), .val (.int i7), .val (.int i8), .val (.ref b101), .unset, .unset, .unset, .unset] [])) (fun _ k => XS.astore X107.here hx rfl (hb hby at_78) rfl rfl (l' := #[.val (.int i0), .val (.int i1), .val (.int i2), .val (.int i3), .val (.int i4), .val (.int i5), .val (.int i6), .val (.int i7), .val (.int i8), .val (.ref b101), .unset, .unset, .unset, .unset]) rfl k) ?_
  obtain ⟨T111, h111, X111, e111, E111, A111, D111, -, st111⟩ := newO X107 hx hZ hown (hw _ (List.mem_of_getElem? (i := 0) rfl)) (hw _ (List.mem_of_getElem? (i := 1) rfl)) (hw _ (List.mem_of_getElem? (i := 2) rfl)) rfl (g := (mkF m 80 #[.val (.int i0), .val (.int i1), .val (.int i2), .val (.int i3), .val (.int i4), .val (.int i5), .val (.int i6), .val (.int i7), .val (.int i8), .val (.ref b101), .unset, .unset, .unset, .unset] [])) rfl (hb hby at_80) (by dsimp only [Pt.cells, Pt.slots, room_1]; omega) (by dsimp only [Pt.cells, Pt.slots, room_1]; omega)
  obtain ⟨b111, g111⟩ : ∃ z, z = T107.heap.size := ⟨_, rfl⟩
  rw [← g111] at A111 D111 st111
  have ne112 : b101 ≠ b111 := by have q := F110.lt; intro r; rw [r, g111] at q; exact Nat.lt_irrefl _ q
  have ge111 : n0 ≤ b111 := Nat.le_trans Z107 (Nat.le_of_eq g111.symm)
  have Z111 : n0 ≤ h111.size := Nat.le_trans Z107 E111.1
  have sz111 : Z.heap.size ≤ b111 := Nat.le_trans KK107.1 (Nat.le_of_eq g111.symm)
  have K111 := KK107.ext E111
  have F113 := F108.ext E111
  have F114 := F109.ext E111
  have F115 := F110.ext E111
  have F116 := G107a.ext E111
  have F117 := G107b.ext E111
  have F118 := G107c.ext E111
  have F119 : Fld Z h111 b111 "com/example/feldspar/feldspar/algebra/SortKey" "field" "I" (.int (0 : Int32)) := D111 (Or.inr (hw _ (List.mem_of_getElem? (i := 10) rfl))) (ty := .int) (by decide)
  have F120 : Fld Z h111 b111 "com/example/feldspar/feldspar/algebra/SortKey" "descending" "Z" (.int (0 : Int32)) := D111 (Or.inr (hw _ (List.mem_of_getElem? (i := 12) rfl))) (ty := .boolean) (by decide)
  have F121 : Fld Z h111 b111 "com/example/feldspar/feldspar/algebra/SortKey" "nullsFirst" "Z" (.int (0 : Int32)) := D111 (Or.inr (hw _ (List.mem_of_getElem? (i := 14) rfl))) (ty := .boolean) (by decide)
  refine Go.step (T' := T111) (g' := (mkF m 83 #[.val (.int i0), .val (.int i1), .val (.int i2), .val (.int i3), .val (.int i4), .val (.int i5), .val (.int i6), .val (.int i7), .val (.int i8), .val (.ref b101), .unset, .unset, .unset, .unset] [(.ref b111)])) st111 ?_
  refine Go.step (T' := T111) (g' := (mkF m 84 #[.val (.int i0), .val (.int i1), .val (.int i2), .val (.int i3), .val (.int i4), .val (.int i5), .val (.int i6), .val (.int i7), .val (.int i8), .val (.ref b101), .unset, .unset, .unset, .unset] [(.ref b111), (.ref b111)])) (fun _ k => XS.dup X111.here hx rfl (hb hby at_83) rfl rfl k) ?_
  refine Go.step (T' := T111) (g' := (mkF m 86 #[.val (.int i0), .val (.int i1), .val (.int i2), .val (.int i3), .val (.int i4), .val (.int i5), .val (.int i6), .val (.int i7), .val (.int i8), .val (.ref b101), .unset, .unset, .unset, .unset] [(.int i8), (.ref b111), (.ref b111)])) (fun _ k => XS.iload X111.here hx rfl (hb hby at_84) rfl  k) ?_
  refine Go.step (T' := T111) (g' := (mkF m 88 #[.val (.int i0), .val (.int i1), .val (.int i2), .val (.int i3), .val (.int i4), .val (.int i5), .val (.int i6), .val (.int i7), .val (.int i8), .val (.ref b101), .unset, .unset, .unset, .unset] [(.int i6), (.int i8), (.ref b111), (.ref b111)])) (fun _ k => XS.iload X111.here hx rfl (hb hby at_86) rfl  k) ?_
  refine Go.step (T' := T111) (g' := (mkF m 90 #[.val (.int i0), .val (.int i1), .val (.int i2), .val (.int i3), .val (.int i4), .val (.int i5), .val (.int i6), .val (.int i7), .val (.int i8), .val (.ref b101), .unset, .unset, .unset, .unset] [(.int i7), (.int i6), (.int i8), (.ref b111), (.ref b111)])) (fun _ k => XS.iload X111.here hx rfl (hb hby at_88) rfl  k) ?_
  obtain ⟨_, _, ⟨T122, L122, k122, n122⟩, -, X122, ⟨Lc122, hQ122, l122, y122, z122⟩, st122⟩ := X111.specialBack hx (y := (⟨"com/example/feldspar/feldspar/algebra/SortKey", "<init>", "(IZZ)V"⟩ : MethodName)) rfl hown (mvT hZ (hw _ (List.mem_of_getElem? (i := 3) rfl))) (mvT hZ (hw _ (List.mem_of_getElem? (i := 4) rfl))) (mvT hZ (hw _ (List.mem_of_getElem? (i := 5) rfl))) (by decide) (backOf (W := 1) (Q := Qini Z b111 i8 i6 i7 h111 n0) (own_ini l Z a0 hw [] b111 i8 i6 i7 ((.int (0 : Int32))) ((.int (0 : Int32))) ((.int (0 : Int32))) h111 n0 Z111 A111 ge111 F119 F120 F121 b6 b7) hZ (hw _ (List.mem_of_getElem? (i := 5) rfl)) (hw _ (List.mem_of_getElem? (i := 2) rfl)) (by decide) (by decide)) (g := (mkF m 90 #[.val (.int i0), .val (.int i1), .val (.int i2), .val (.int i3), .val (.int i4), .val (.int i5), .val (.int i6), .val (.int i7), .val (.int i8), .val (.ref b101), .unset, .unset, .unset, .unset] [(.int i7), (.int i6), (.int i8), (.ref b111), (.ref b111)])) rfl (by rw [hml]; rfl) (Steps.refl _) (a := b111) (argsL := [(.int i8), (.int i6), (.int i7)]) (rest := [(.ref b111)]) (lenOf own_pd4 rfl) rfl (by show 2 * 0 + _ ≤ _; exact Nat.le_of_eq rfl) (hb hby at_90) (fun _ _ => ⟨rfl, e111, (by dsimp only [Pt.cells, Pt.slots, room_1]; omega), (by dsimp only [Pt.cells, Pt.slots, room_1]; omega)⟩)
  dsimp only [Pt.U, Pt.locs, Pt.cells, Pt.slots] at X122 l122 y122 z122 st122 hQ122
  subst l122 y122 z122
  obtain ⟨rfl, N122q, K122, G122a, G122b, G122c⟩ := hQ122
  have N122 := Fr.app N107 N122q
  have KK122 := K111.trans K122 (allS (Or.inr sz111) all0)
  have Z122 : n0 ≤ T122.heap.size := Nat.le_trans Z111 K122.1
  have F123 := own_sta_keep F113 K122 (allS (own_plain A111) all0)
  have F124 := own_sta_keep F114 K122 (allS (own_plain A111) all0)
  have F125 := F115.keep K122
  have F126 := F116.keep K122 (ninS ne112 nin0)
  have F127 := F117.keep K122 (ninS ne112 nin0)
  have F128 := F118.keep K122 (ninS ne112 nin0)
  have F129 := A111.keep K122
  refine Go.step (T' := T122) (g' := (mkF m 93 #[.val (.int i0), .val (.int i1), .val (.int i2), .val (.int i3), .val (.int i4), .val (.int i5), .val (.int i6), .val (.int i7), .val (.int i8), .val (.ref b101), .unset, .unset, .unset, .unset] [(.ref b111)])) (fun _ k => st122.trans k) ?_
  refine Go.step (T' := T122) (g' := (mkF m 95 #[.val (.int i0), .val (.int i1), .val (.int i2), .val (.int i3), .val (.int i4), .val (.int i5), .val (.int i6), .val (.int i7), .val (.int i8), .val (.ref b101), .val (.ref b111), .unset, .unset, .unset] [])) (fun _ k => XS.astore X122.here hx rfl (hb hby at_93) rfl rfl (l' := #[.val (.int i0), .val (.int i1), .val (.int i2), .val (.int i3), .val (.int i4), .val (.int i5), .val (.int i6), .val (.int i7), .val (.int i8), .val (.ref b101), .val (.ref b111), .unset, .unset, .unset]) rfl k) ?_
  refine Go.step (T' := T122) (g' := (mkF m 96 #[.val (.int i0), .val (.int i1), .val (.int i2), .val (.int i3), .val (.int i4), .val (.int i5), .val (.int i6), .val (.int i7), .val (.int i8), .val (.ref b101), .val (.ref b111), .unset, .unset, .unset] [(.int i0)])) (fun _ k => XS.iloadN X122.here hx rfl (hb hby at_95) rfl  k) ?_
  refine Go.step (T' := T122) (g' := (mkF m 98 #[.val (.int i0), .val (.int i1), .val (.int i2), .val (.int i3), .val (.int i4), .val (.int i5), .val (.int i6), .val (.int i7), .val (.int i8), .val (.ref b101), .val (.ref b111), .unset, .unset, .unset] [(.int i8), (.int i0)])) (fun _ k => XS.iload X122.here hx rfl (hb hby at_96) rfl  k) ?_
  by_cases hc130 : i0 = i8
  · skip
    refine Go.step (T' := T122) (g' := (mkF m 101 #[.val (.int i0), .val (.int i1), .val (.int i2), .val (.int i3), .val (.int i4), .val (.int i5), .val (.int i6), .val (.int i7), .val (.int i8), .val (.ref b101), .val (.ref b111), .unset, .unset, .unset] [])) (fun _ k => XS.icmpNo X122.here hx rfl (hb hby at_98) rfl (teq hc130).2 k) ?_
    refine Go.step (T' := T122) (g' := (mkF m 103 #[.val (.int i0), .val (.int i1), .val (.int i2), .val (.int i3), .val (.int i4), .val (.int i5), .val (.int i6), .val (.int i7), .val (.int i8), .val (.ref b101), .val (.ref b111), .unset, .unset, .unset] [(.int i4)])) (fun _ k => XS.iload X122.here hx rfl (hb hby at_101) rfl  k) ?_
    refine Go.step (T' := T122) (g' := (mkF m 105 #[.val (.int i0), .val (.int i1), .val (.int i2), .val (.int i3), .val (.int i4), .val (.int i5), .val (.int i6), .val (.int i7), .val (.int i8), .val (.ref b101), .val (.ref b111), .unset, .unset, .unset] [(.int i6), (.int i4)])) (fun _ k => XS.iload X122.here hx rfl (hb hby at_103) rfl  k) ?_
    by_cases hc131 : i4 = i6
    · skip
      refine Go.step (T' := T122) (g' := (mkF m 108 #[.val (.int i0), .val (.int i1), .val (.int i2), .val (.int i3), .val (.int i4), .val (.int i5), .val (.int i6), .val (.int i7), .val (.int i8), .val (.ref b101), .val (.ref b111), .unset, .unset, .unset] [])) (fun _ k => XS.icmpNo X122.here hx rfl (hb hby at_105) rfl (teq hc131).2 k) ?_
      refine Go.step (T' := T122) (g' := (mkF m 110 #[.val (.int i0), .val (.int i1), .val (.int i2), .val (.int i3), .val (.int i4), .val (.int i5), .val (.int i6), .val (.int i7), .val (.int i8), .val (.ref b101), .val (.ref b111), .unset, .unset, .unset] [(.int i5)])) (fun _ k => XS.iload X122.here hx rfl (hb hby at_108) rfl  k) ?_
      refine Go.step (T' := T122) (g' := (mkF m 112 #[.val (.int i0), .val (.int i1), .val (.int i2), .val (.int i3), .val (.int i4), .val (.int i5), .val (.int i6), .val (.int i7), .val (.int i8), .val (.ref b101), .val (.ref b111), .unset, .unset, .unset] [(.int i7), (.int i5)])) (fun _ k => XS.iload X122.here hx rfl (hb hby at_110) rfl  k) ?_
      by_cases hc132 : i5 = i7
      · skip
        refine Go.step (T' := T122) (g' := (mkF m 115 #[.val (.int i0), .val (.int i1), .val (.int i2), .val (.int i3), .val (.int i4), .val (.int i5), .val (.int i6), .val (.int i7), .val (.int i8), .val (.ref b101), .val (.ref b111), .unset, .unset, .unset] [])) (fun _ k => XS.icmpNo X122.here hx rfl (hb hby at_112) rfl (teq hc132).2 k) ?_
        refine Go.step (T' := T122) (g' := (mkF m 116 #[.val (.int i0), .val (.int i1), .val (.int i2), .val (.int i3), .val (.int i4), .val (.int i5), .val (.int i6), .val (.int i7), .val (.int i8), .val (.ref b101), .val (.ref b111), .unset, .unset, .unset] [(.int (1 : Int32))])) (fun _ k => XS.iconst X122.here hx rfl (hb hby at_115) k) ?_
        refine Go.step (T' := T122) (g' := (mkF m 120 #[.val (.int i0), .val (.int i1), .val (.int i2), .val (.int i3), .val (.int i4), .val (.int i5), .val (.int i6), .val (.int i7), .val (.int i8), .val (.ref b101), .val (.ref b111), .unset, .unset, .unset] [(.int (1 : Int32))])) (fun _ k => XS.goto X122.here hx rfl (pc0 := 116) (pc' := 120) rfl (hb hby at_116) (by decide) (by decide) k) ?_
        refine Go.step (T' := T122) (g' := (mkF m 122 #[.val (.int i0), .val (.int i1), .val (.int i2), .val (.int i3), .val (.int i4), .val (.int i5), .val (.int i6), .val (.int i7), .val (.int i8), .val (.ref b101), .val (.ref b111), .val (.int (1 : Int32)), .unset, .unset] [])) (fun _ k => XS.istore X122.here hx rfl (hb hby at_120) rfl (l' := #[.val (.int i0), .val (.int i1), .val (.int i2), .val (.int i3), .val (.int i4), .val (.int i5), .val (.int i6), .val (.int i7), .val (.int i8), .val (.ref b101), .val (.ref b111), .val (.int (1 : Int32)), .unset, .unset]) rfl k) ?_
        exact own_s122 i0 i1 i2 i3 i4 i5 i6 i7 i8 b101 b111 (1 : Int32) ca cl bv X122 hx hZ hw hby hml hown hret hlk rfl N122 Z122 (by omega) (by omega) F123 F124 F125 F129 F126 F127 F128 G122a G122b G122c BX KK122 (by simp [hc130, hc131, hc132])
      · skip
        refine Go.step (T' := T122) (g' := (mkF m 119 #[.val (.int i0), .val (.int i1), .val (.int i2), .val (.int i3), .val (.int i4), .val (.int i5), .val (.int i6), .val (.int i7), .val (.int i8), .val (.ref b101), .val (.ref b111), .unset, .unset, .unset] [])) (fun _ k => XS.icmpYes X122.here hx rfl (pc0 := 112) (pc' := 119) rfl (hb hby at_112) rfl (feq hc132).2 (by decide) (by decide) k) ?_
        refine Go.step (T' := T122) (g' := (mkF m 120 #[.val (.int i0), .val (.int i1), .val (.int i2), .val (.int i3), .val (.int i4), .val (.int i5), .val (.int i6), .val (.int i7), .val (.int i8), .val (.ref b101), .val (.ref b111), .unset, .unset, .unset] [(.int (0 : Int32))])) (fun _ k => XS.iconst X122.here hx rfl (hb hby at_119) k) ?_
        refine Go.step (T' := T122) (g' := (mkF m 122 #[.val (.int i0), .val (.int i1), .val (.int i2), .val (.int i3), .val (.int i4), .val (.int i5), .val (.int i6), .val (.int i7), .val (.int i8), .val (.ref b101), .val (.ref b111), .val (.int (0 : Int32)), .unset, .unset] [])) (fun _ k => XS.istore X122.here hx rfl (hb hby at_120) rfl (l' := #[.val (.int i0), .val (.int i1), .val (.int i2), .val (.int i3), .val (.int i4), .val (.int i5), .val (.int i6), .val (.int i7), .val (.int i8), .val (.ref b101), .val (.ref b111), .val (.int (0 : Int32)), .unset, .unset]) rfl k) ?_
        exact own_s122 i0 i1 i2 i3 i4 i5 i6 i7 i8 b101 b111 (0 : Int32) ca cl bv X122 hx hZ hw hby hml hown hret hlk rfl N122 Z122 (by omega) (by omega) F123 F124 F125 F129 F126 F127 F128 G122a G122b G122c BX KK122 (by simp [hc130, hc131, hc132])
    · skip
      refine Go.step (T' := T122) (g' := (mkF m 119 #[.val (.int i0), .val (.int i1), .val (.int i2), .val (.int i3), .val (.int i4), .val (.int i5), .val (.int i6), .val (.int i7), .val (.int i8), .val (.ref b101), .val (.ref b111), .unset, .unset, .unset] [])) (fun _ k => XS.icmpYes X122.here hx rfl (pc0 := 105) (pc' := 119) rfl (hb hby at_105) rfl (feq hc131).2 (by decide) (by decide) k) ?_
      refine Go.step (T' := T122) (g' := (mkF m 120 #[.val (.int i0), .val (.int i1), .val (.int i2), .val (.int i3), .val (.int i4), .val (.int i5), .val (.int i6), .val (.int i7), .val (.int i8), .val (.ref b101), .val (.ref b111), .unset, .unset, .unset] [(.int (0 : Int32))])) (fun _ k => XS.iconst X122.here hx rfl (hb hby at_119) k) ?_
      refine Go.step (T' := T122) (g' := (mkF m 122 #[.val (.int i0), .val (.int i1), .val (.int i2), .val (.int i3), .val (.int i4), .val (.int i5), .val (.int i6), .val (.int i7), .val (.int i8), .val (.ref b101), .val (.ref b111), .val (.int (0 : Int32)), .unset, .unset] [])) (fun _ k => XS.istore X122.here hx rfl (hb hby at_120) rfl (l' := #[.val (.int i0), .val (.int i1), .val (.int i2), .val (.int i3), .val (.int i4), .val (.int i5), .val (.int i6), .val (.int i7), .val (.int i8), .val (.ref b101), .val (.ref b111), .val (.int (0 : Int32)), .unset, .unset]) rfl k) ?_
      exact own_s122 i0 i1 i2 i3 i4 i5 i6 i7 i8 b101 b111 (0 : Int32) ca cl bv X122 hx hZ hw hby hml hown hret hlk rfl N122 Z122 (by omega) (by omega) F123 F124 F125 F129 F126 F127 F128 G122a G122b G122c BX KK122 (by simp [hc130, hc131])
  · skip
    refine Go.step (T' := T122) (g' := (mkF m 119 #[.val (.int i0), .val (.int i1), .val (.int i2), .val (.int i3), .val (.int i4), .val (.int i5), .val (.int i6), .val (.int i7), .val (.int i8), .val (.ref b101), .val (.ref b111), .unset, .unset, .unset] [])) (fun _ k => XS.icmpYes X122.here hx rfl (pc0 := 98) (pc' := 119) rfl (hb hby at_98) rfl (feq hc130).2 (by decide) (by decide) k) ?_
    refine Go.step (T' := T122) (g' := (mkF m 120 #[.val (.int i0), .val (.int i1), .val (.int i2), .val (.int i3), .val (.int i4), .val (.int i5), .val (.int i6), .val (.int i7), .val (.int i8), .val (.ref b101), .val (.ref b111), .unset, .unset, .unset] [(.int (0 : Int32))])) (fun _ k => XS.iconst X122.here hx rfl (hb hby at_119) k) ?_
    refine Go.step (T' := T122) (g' := (mkF m 122 #[.val (.int i0), .val (.int i1), .val (.int i2), .val (.int i3), .val (.int i4), .val (.int i5), .val (.int i6), .val (.int i7), .val (.int i8), .val (.ref b101), .val (.ref b111), .val (.int (0 : Int32)), .unset, .unset] [])) (fun _ k => XS.istore X122.here hx rfl (hb hby at_120) rfl (l' := #[.val (.int i0), .val (.int i1), .val (.int i2), .val (.int i3), .val (.int i4), .val (.int i5), .val (.int i6), .val (.int i7), .val (.int i8), .val (.ref b101), .val (.ref b111), .val (.int (0 : Int32)), .unset, .unset]) rfl k) ?_
    exact own_s122 i0 i1 i2 i3 i4 i5 i6 i7 i8 b101 b111 (0 : Int32) ca cl bv X122 hx hZ hw hby hml hown hret hlk rfl N122 Z122 (by omega) (by omega) F123 F124 F125 F129 F126 F127 F128 G122a G122b G122c BX KK122 (by simp [hc130])
set_option maxRecDepth 65536 in
set_option maxHeartbeats 40000000 in
theorem own_s53 {pgm : Program} {l : Launch} {e : Env} {s : State} {m : MethodId} {args : Array Value} {below : List Frame} {meth : Method} {c : Code} {T0 : State} {locs : List Loc} {cells slots : Nat} {Z : State} {a0 : Array Value} {h0 : Heap} {n0 : Nat} (i0 : Int32) (i1 : Int32) (i2 : Int32) (i3 : Int32) (i4 : Int32) (i5 : Int32) (i6 : Int32) (i7 : Int32) (ca : Addr) (cl : Cell) (bv : Int32 → Value)
    (X0 : Stand pgm l e room_1 s m args below meth c T0 locs cells slots) (hx : pgm.tables.exec = Jvm.exec) (hZ : Z.Warmed39 s.vm) (hw : ∀ d ∈ tables_1, d.before a0 Z = true) (hby : c.code = code) (hml : c.maxLocals = maxLocals) (hown : s.vm.findClass "com/example/feldspar/feldspar/algebra/SortKeyEqualsPinLaw" = some m.cls) (hret : meth.sig.returnType = ret) (hlk : meth.locks = false) (e0 : T0.heap = h0) (N0 : Fr n0 locs) (Z0 : n0 ≤ h0.size) (hcells : cells ≤ 0) (hslots : slots ≤ 0) (f0 : Sta Z h0 "java/lang/Integer$IntegerCache" "high" "I" (.int (127 : Int32))) (f1 : Sta Z h0 "java/lang/Integer$IntegerCache" "cache" "[Ljava/lang/Integer;" (.ref ca)) (BX : Bxs Z ca cl "java/lang/Integer" "I" 256 bv) (KZ : Keep Z.heap h0 []) (b4 : nar .boolean i4 = i4) (b5 : nar .boolean i5 = i5) (b6 : nar .boolean i6 = i6) (b7 : nar .boolean i7 = i7) :
    Go pgm e below s (Q0 n0) 4 8 T0 (mkF m 53 #[.val (.int i0), .val (.int i1), .val (.int i2), .val (.int i3), .val (.int i4), .val (.int i5), .val (.int i6), .val (.int i7), .unset, .unset, .unset, .unset, .unset, .unset] []) := by
  refine Go.step (T' := T0) (g' := (mkF m 54 #[.val (.int i0), .val (.int i1), .val (.int i2), .val (.int i3), .val (.int i4), .val (.int i5), .val (.int i6), .val (.int i7), .unset, .unset, .unset, .unset, .unset, .unset] [(.int i3)])) (fun _ k => XS.iloadN X0.here hx rfl (hb hby at_53) rfl  k) ?_
  refine Go.step (T' := T0) (g' := (mkF m 55 #[.val (.int i0), .val (.int i1), .val (.int i2), .val (.int i3), .val (.int i4), .val (.int i5), .val (.int i6), .val (.int i7), .unset, .unset, .unset, .unset, .unset, .unset] [(.int (1 : Int32)), (.int i3)])) (fun _ k => XS.iconst X0.here hx rfl (hb hby at_54) k) ?_
  refine Go.step (T' := T0) (g' := (mkF m 56 #[.val (.int i0), .val (.int i1), .val (.int i2), .val (.int i3), .val (.int i4), .val (.int i5), .val (.int i6), .val (.int i7), .unset, .unset, .unset, .unset, .unset, .unset] [(.int (i3 &&& (1 : Int32)))])) (fun _ k => XS.iand X0.here hx rfl (hb hby at_55) rfl k) ?_
  by_cases hc101 : (i3 &&& (1 : Int32)) = (0 : Int32)
  · skip
    refine Go.step (T' := T0) (g' := (mkF m 63 #[.val (.int i0), .val (.int i1), .val (.int i2), .val (.int i3), .val (.int i4), .val (.int i5), .val (.int i6), .val (.int i7), .unset, .unset, .unset, .unset, .unset, .unset] [])) (fun _ k => XS.ifYes X0.here hx rfl (pc0 := 56) (pc' := 63) rfl (hb hby at_56) rfl ((if0 _ _).trans (teq hc101).1) (by decide) (by decide) k) ?_
    refine Go.step (T' := T0) (g' := (mkF m 64 #[.val (.int i0), .val (.int i1), .val (.int i2), .val (.int i3), .val (.int i4), .val (.int i5), .val (.int i6), .val (.int i7), .unset, .unset, .unset, .unset, .unset, .unset] [(.int i1)])) (fun _ k => XS.iloadN X0.here hx rfl (hb hby at_63) rfl  k) ?_
    refine Go.step (T' := T0) (g' := (mkF m 66 #[.val (.int i0), .val (.int i1), .val (.int i2), .val (.int i3), .val (.int i4), .val (.int i5), .val (.int i6), .val (.int i7), .val (.int i1), .unset, .unset, .unset, .unset, .unset] [])) (fun _ k => XS.istore X0.here hx rfl (hb hby at_64) rfl (l' := #[.val (.int i0), .val (.int i1), .val (.int i2), .val (.int i3), .val (.int i4), .val (.int i5), .val (.int i6), .val (.int i7), .val (.int i1), .unset, .unset, .unset, .unset, .unset]) rfl k) ?_
    exact own_s66 i0 i1 i2 i3 i4 i5 i6 i7 i1 ca cl bv X0 hx hZ hw hby hml hown hret hlk e0 N0 Z0 (by omega) (by omega) f0 f1 BX KZ b4 b5 b6 b7
  · skip
    refine Go.step (T' := T0) (g' := (mkF m 59 #[.val (.int i0), .val (.int i1), .val (.int i2), .val (.int i3), .val (.int i4), .val (.int i5), .val (.int i6), .val (.int i7), .unset, .unset, .unset, .unset, .unset, .unset] [])) (fun _ k => XS.ifNo X0.here hx rfl (hb hby at_56) rfl ((if0 _ _).trans (feq hc101).1) k) ?_
    refine Go.step (T' := T0) (g' := (mkF m 60 #[.val (.int i0), .val (.int i1), .val (.int i2), .val (.int i3), .val (.int i4), .val (.int i5), .val (.int i6), .val (.int i7), .unset, .unset, .unset, .unset, .unset, .unset] [(.int i0)])) (fun _ k => XS.iloadN X0.here hx rfl (hb hby at_59) rfl  k) ?_
    refine Go.step (T' := T0) (g' := (mkF m 64 #[.val (.int i0), .val (.int i1), .val (.int i2), .val (.int i3), .val (.int i4), .val (.int i5), .val (.int i6), .val (.int i7), .unset, .unset, .unset, .unset, .unset, .unset] [(.int i0)])) (fun _ k => XS.goto X0.here hx rfl (pc0 := 60) (pc' := 64) rfl (hb hby at_60) (by decide) (by decide) k) ?_
    refine Go.step (T' := T0) (g' := (mkF m 66 #[.val (.int i0), .val (.int i1), .val (.int i2), .val (.int i3), .val (.int i4), .val (.int i5), .val (.int i6), .val (.int i7), .val (.int i0), .unset, .unset, .unset, .unset, .unset] [])) (fun _ k => XS.istore X0.here hx rfl (hb hby at_64) rfl (l' := #[.val (.int i0), .val (.int i1), .val (.int i2), .val (.int i3), .val (.int i4), .val (.int i5), .val (.int i6), .val (.int i7), .val (.int i0), .unset, .unset, .unset, .unset, .unset]) rfl k) ?_
    exact own_s66 i0 i1 i2 i3 i4 i5 i6 i7 i0 ca cl bv X0 hx hZ hw hby hml hown hret hlk e0 N0 Z0 (by omega) (by omega) f0 f1 BX KZ b4 b5 b6 b7
set_option maxRecDepth 65536 in
set_option maxHeartbeats 40000000 in
theorem own_s39 {pgm : Program} {l : Launch} {e : Env} {s : State} {m : MethodId} {args : Array Value} {below : List Frame} {meth : Method} {c : Code} {T0 : State} {locs : List Loc} {cells slots : Nat} {Z : State} {a0 : Array Value} {h0 : Heap} {n0 : Nat} (i0 : Int32) (i1 : Int32) (i2 : Int32) (i3 : Int32) (i4 : Int32) (i5 : Int32) (i6 : Int32) (ca : Addr) (cl : Cell) (bv : Int32 → Value)
    (X0 : Stand pgm l e room_1 s m args below meth c T0 locs cells slots) (hx : pgm.tables.exec = Jvm.exec) (hZ : Z.Warmed39 s.vm) (hw : ∀ d ∈ tables_1, d.before a0 Z = true) (hby : c.code = code) (hml : c.maxLocals = maxLocals) (hown : s.vm.findClass "com/example/feldspar/feldspar/algebra/SortKeyEqualsPinLaw" = some m.cls) (hret : meth.sig.returnType = ret) (hlk : meth.locks = false) (e0 : T0.heap = h0) (N0 : Fr n0 locs) (Z0 : n0 ≤ h0.size) (hcells : cells ≤ 0) (hslots : slots ≤ 0) (f0 : Sta Z h0 "java/lang/Integer$IntegerCache" "high" "I" (.int (127 : Int32))) (f1 : Sta Z h0 "java/lang/Integer$IntegerCache" "cache" "[Ljava/lang/Integer;" (.ref ca)) (BX : Bxs Z ca cl "java/lang/Integer" "I" 256 bv) (KZ : Keep Z.heap h0 []) (b4 : nar .boolean i4 = i4) (b5 : nar .boolean i5 = i5) (b6 : nar .boolean i6 = i6) :
    Go pgm e below s (Q0 n0) 4 8 T0 (mkF m 39 #[.val (.int i0), .val (.int i1), .val (.int i2), .val (.int i3), .val (.int i4), .val (.int i5), .val (.int i6), .unset, .unset, .unset, .unset, .unset, .unset, .unset] []) := by
  refine Go.step (T' := T0) (g' := (mkF m 40 #[.val (.int i0), .val (.int i1), .val (.int i2), .val (.int i3), .val (.int i4), .val (.int i5), .val (.int i6), .unset, .unset, .unset, .unset, .unset, .unset, .unset] [(.int i2)])) (fun _ k => XS.iloadN X0.here hx rfl (hb hby at_39) rfl  k) ?_
  refine Go.step (T' := T0) (g' := (mkF m 42 #[.val (.int i0), .val (.int i1), .val (.int i2), .val (.int i3), .val (.int i4), .val (.int i5), .val (.int i6), .unset, .unset, .unset, .unset, .unset, .unset, .unset] [(.int (8 : Int32)), (.int i2)])) (fun _ k => XS.bipush X0.here hx rfl (hb hby at_40) k) ?_
  refine Go.step (T' := T0) (g' := (mkF m 43 #[.val (.int i0), .val (.int i1), .val (.int i2), .val (.int i3), .val (.int i4), .val (.int i5), .val (.int i6), .unset, .unset, .unset, .unset, .unset, .unset, .unset] [(.int (i2 &&& (8 : Int32)))])) (fun _ k => XS.iand X0.here hx rfl (hb hby at_42) rfl k) ?_
  by_cases hc101 : (i2 &&& (8 : Int32)) = (0 : Int32)
  · skip
    refine Go.step (T' := T0) (g' := (mkF m 50 #[.val (.int i0), .val (.int i1), .val (.int i2), .val (.int i3), .val (.int i4), .val (.int i5), .val (.int i6), .unset, .unset, .unset, .unset, .unset, .unset, .unset] [])) (fun _ k => XS.ifYes X0.here hx rfl (pc0 := 43) (pc' := 50) rfl (hb hby at_43) rfl ((if0 _ _).trans (teq hc101).1) (by decide) (by decide) k) ?_
    refine Go.step (T' := T0) (g' := (mkF m 51 #[.val (.int i0), .val (.int i1), .val (.int i2), .val (.int i3), .val (.int i4), .val (.int i5), .val (.int i6), .unset, .unset, .unset, .unset, .unset, .unset, .unset] [(.int (0 : Int32))])) (fun _ k => XS.iconst X0.here hx rfl (hb hby at_50) k) ?_
    refine Go.step (T' := T0) (g' := (mkF m 53 #[.val (.int i0), .val (.int i1), .val (.int i2), .val (.int i3), .val (.int i4), .val (.int i5), .val (.int i6), .val (.int (0 : Int32)), .unset, .unset, .unset, .unset, .unset, .unset] [])) (fun _ k => XS.istore X0.here hx rfl (hb hby at_51) rfl (l' := #[.val (.int i0), .val (.int i1), .val (.int i2), .val (.int i3), .val (.int i4), .val (.int i5), .val (.int i6), .val (.int (0 : Int32)), .unset, .unset, .unset, .unset, .unset, .unset]) rfl k) ?_
    exact own_s53 i0 i1 i2 i3 i4 i5 i6 (0 : Int32) ca cl bv X0 hx hZ hw hby hml hown hret hlk e0 N0 Z0 (by omega) (by omega) f0 f1 BX KZ b4 b5 b6 (by decide)
  · skip
    refine Go.step (T' := T0) (g' := (mkF m 46 #[.val (.int i0), .val (.int i1), .val (.int i2), .val (.int i3), .val (.int i4), .val (.int i5), .val (.int i6), .unset, .unset, .unset, .unset, .unset, .unset, .unset] [])) (fun _ k => XS.ifNo X0.here hx rfl (hb hby at_43) rfl ((if0 _ _).trans (feq hc101).1) k) ?_
    refine Go.step (T' := T0) (g' := (mkF m 47 #[.val (.int i0), .val (.int i1), .val (.int i2), .val (.int i3), .val (.int i4), .val (.int i5), .val (.int i6), .unset, .unset, .unset, .unset, .unset, .unset, .unset] [(.int (1 : Int32))])) (fun _ k => XS.iconst X0.here hx rfl (hb hby at_46) k) ?_
    refine Go.step (T' := T0) (g' := (mkF m 51 #[.val (.int i0), .val (.int i1), .val (.int i2), .val (.int i3), .val (.int i4), .val (.int i5), .val (.int i6), .unset, .unset, .unset, .unset, .unset, .unset, .unset] [(.int (1 : Int32))])) (fun _ k => XS.goto X0.here hx rfl (pc0 := 47) (pc' := 51) rfl (hb hby at_47) (by decide) (by decide) k) ?_
    refine Go.step (T' := T0) (g' := (mkF m 53 #[.val (.int i0), .val (.int i1), .val (.int i2), .val (.int i3), .val (.int i4), .val (.int i5), .val (.int i6), .val (.int (1 : Int32)), .unset, .unset, .unset, .unset, .unset, .unset] [])) (fun _ k => XS.istore X0.here hx rfl (hb hby at_51) rfl (l' := #[.val (.int i0), .val (.int i1), .val (.int i2), .val (.int i3), .val (.int i4), .val (.int i5), .val (.int i6), .val (.int (1 : Int32)), .unset, .unset, .unset, .unset, .unset, .unset]) rfl k) ?_
    exact own_s53 i0 i1 i2 i3 i4 i5 i6 (1 : Int32) ca cl bv X0 hx hZ hw hby hml hown hret hlk e0 N0 Z0 (by omega) (by omega) f0 f1 BX KZ b4 b5 b6 (by decide)
set_option maxRecDepth 65536 in
set_option maxHeartbeats 40000000 in
theorem own_s26 {pgm : Program} {l : Launch} {e : Env} {s : State} {m : MethodId} {args : Array Value} {below : List Frame} {meth : Method} {c : Code} {T0 : State} {locs : List Loc} {cells slots : Nat} {Z : State} {a0 : Array Value} {h0 : Heap} {n0 : Nat} (i0 : Int32) (i1 : Int32) (i2 : Int32) (i3 : Int32) (i4 : Int32) (i5 : Int32) (ca : Addr) (cl : Cell) (bv : Int32 → Value)
    (X0 : Stand pgm l e room_1 s m args below meth c T0 locs cells slots) (hx : pgm.tables.exec = Jvm.exec) (hZ : Z.Warmed39 s.vm) (hw : ∀ d ∈ tables_1, d.before a0 Z = true) (hby : c.code = code) (hml : c.maxLocals = maxLocals) (hown : s.vm.findClass "com/example/feldspar/feldspar/algebra/SortKeyEqualsPinLaw" = some m.cls) (hret : meth.sig.returnType = ret) (hlk : meth.locks = false) (e0 : T0.heap = h0) (N0 : Fr n0 locs) (Z0 : n0 ≤ h0.size) (hcells : cells ≤ 0) (hslots : slots ≤ 0) (f0 : Sta Z h0 "java/lang/Integer$IntegerCache" "high" "I" (.int (127 : Int32))) (f1 : Sta Z h0 "java/lang/Integer$IntegerCache" "cache" "[Ljava/lang/Integer;" (.ref ca)) (BX : Bxs Z ca cl "java/lang/Integer" "I" 256 bv) (KZ : Keep Z.heap h0 []) (b4 : nar .boolean i4 = i4) (b5 : nar .boolean i5 = i5) :
    Go pgm e below s (Q0 n0) 4 8 T0 (mkF m 26 #[.val (.int i0), .val (.int i1), .val (.int i2), .val (.int i3), .val (.int i4), .val (.int i5), .unset, .unset, .unset, .unset, .unset, .unset, .unset, .unset] []) := by
  refine Go.step (T' := T0) (g' := (mkF m 27 #[.val (.int i0), .val (.int i1), .val (.int i2), .val (.int i3), .val (.int i4), .val (.int i5), .unset, .unset, .unset, .unset, .unset, .unset, .unset, .unset] [(.int i2)])) (fun _ k => XS.iloadN X0.here hx rfl (hb hby at_26) rfl  k) ?_
  refine Go.step (T' := T0) (g' := (mkF m 28 #[.val (.int i0), .val (.int i1), .val (.int i2), .val (.int i3), .val (.int i4), .val (.int i5), .unset, .unset, .unset, .unset, .unset, .unset, .unset, .unset] [(.int (4 : Int32)), (.int i2)])) (fun _ k => XS.iconst X0.here hx rfl (hb hby at_27) k) ?_
  refine Go.step (T' := T0) (g' := (mkF m 29 #[.val (.int i0), .val (.int i1), .val (.int i2), .val (.int i3), .val (.int i4), .val (.int i5), .unset, .unset, .unset, .unset, .unset, .unset, .unset, .unset] [(.int (i2 &&& (4 : Int32)))])) (fun _ k => XS.iand X0.here hx rfl (hb hby at_28) rfl k) ?_
  by_cases hc101 : (i2 &&& (4 : Int32)) = (0 : Int32)
  · skip
    refine Go.step (T' := T0) (g' := (mkF m 36 #[.val (.int i0), .val (.int i1), .val (.int i2), .val (.int i3), .val (.int i4), .val (.int i5), .unset, .unset, .unset, .unset, .unset, .unset, .unset, .unset] [])) (fun _ k => XS.ifYes X0.here hx rfl (pc0 := 29) (pc' := 36) rfl (hb hby at_29) rfl ((if0 _ _).trans (teq hc101).1) (by decide) (by decide) k) ?_
    refine Go.step (T' := T0) (g' := (mkF m 37 #[.val (.int i0), .val (.int i1), .val (.int i2), .val (.int i3), .val (.int i4), .val (.int i5), .unset, .unset, .unset, .unset, .unset, .unset, .unset, .unset] [(.int (0 : Int32))])) (fun _ k => XS.iconst X0.here hx rfl (hb hby at_36) k) ?_
    refine Go.step (T' := T0) (g' := (mkF m 39 #[.val (.int i0), .val (.int i1), .val (.int i2), .val (.int i3), .val (.int i4), .val (.int i5), .val (.int (0 : Int32)), .unset, .unset, .unset, .unset, .unset, .unset, .unset] [])) (fun _ k => XS.istore X0.here hx rfl (hb hby at_37) rfl (l' := #[.val (.int i0), .val (.int i1), .val (.int i2), .val (.int i3), .val (.int i4), .val (.int i5), .val (.int (0 : Int32)), .unset, .unset, .unset, .unset, .unset, .unset, .unset]) rfl k) ?_
    exact own_s39 i0 i1 i2 i3 i4 i5 (0 : Int32) ca cl bv X0 hx hZ hw hby hml hown hret hlk e0 N0 Z0 (by omega) (by omega) f0 f1 BX KZ b4 b5 (by decide)
  · skip
    refine Go.step (T' := T0) (g' := (mkF m 32 #[.val (.int i0), .val (.int i1), .val (.int i2), .val (.int i3), .val (.int i4), .val (.int i5), .unset, .unset, .unset, .unset, .unset, .unset, .unset, .unset] [])) (fun _ k => XS.ifNo X0.here hx rfl (hb hby at_29) rfl ((if0 _ _).trans (feq hc101).1) k) ?_
    refine Go.step (T' := T0) (g' := (mkF m 33 #[.val (.int i0), .val (.int i1), .val (.int i2), .val (.int i3), .val (.int i4), .val (.int i5), .unset, .unset, .unset, .unset, .unset, .unset, .unset, .unset] [(.int (1 : Int32))])) (fun _ k => XS.iconst X0.here hx rfl (hb hby at_32) k) ?_
    refine Go.step (T' := T0) (g' := (mkF m 37 #[.val (.int i0), .val (.int i1), .val (.int i2), .val (.int i3), .val (.int i4), .val (.int i5), .unset, .unset, .unset, .unset, .unset, .unset, .unset, .unset] [(.int (1 : Int32))])) (fun _ k => XS.goto X0.here hx rfl (pc0 := 33) (pc' := 37) rfl (hb hby at_33) (by decide) (by decide) k) ?_
    refine Go.step (T' := T0) (g' := (mkF m 39 #[.val (.int i0), .val (.int i1), .val (.int i2), .val (.int i3), .val (.int i4), .val (.int i5), .val (.int (1 : Int32)), .unset, .unset, .unset, .unset, .unset, .unset, .unset] [])) (fun _ k => XS.istore X0.here hx rfl (hb hby at_37) rfl (l' := #[.val (.int i0), .val (.int i1), .val (.int i2), .val (.int i3), .val (.int i4), .val (.int i5), .val (.int (1 : Int32)), .unset, .unset, .unset, .unset, .unset, .unset, .unset]) rfl k) ?_
    exact own_s39 i0 i1 i2 i3 i4 i5 (1 : Int32) ca cl bv X0 hx hZ hw hby hml hown hret hlk e0 N0 Z0 (by omega) (by omega) f0 f1 BX KZ b4 b5 (by decide)
set_option maxRecDepth 65536 in
set_option maxHeartbeats 40000000 in
theorem own_s13 {pgm : Program} {l : Launch} {e : Env} {s : State} {m : MethodId} {args : Array Value} {below : List Frame} {meth : Method} {c : Code} {T0 : State} {locs : List Loc} {cells slots : Nat} {Z : State} {a0 : Array Value} {h0 : Heap} {n0 : Nat} (i0 : Int32) (i1 : Int32) (i2 : Int32) (i3 : Int32) (i4 : Int32) (ca : Addr) (cl : Cell) (bv : Int32 → Value)
    (X0 : Stand pgm l e room_1 s m args below meth c T0 locs cells slots) (hx : pgm.tables.exec = Jvm.exec) (hZ : Z.Warmed39 s.vm) (hw : ∀ d ∈ tables_1, d.before a0 Z = true) (hby : c.code = code) (hml : c.maxLocals = maxLocals) (hown : s.vm.findClass "com/example/feldspar/feldspar/algebra/SortKeyEqualsPinLaw" = some m.cls) (hret : meth.sig.returnType = ret) (hlk : meth.locks = false) (e0 : T0.heap = h0) (N0 : Fr n0 locs) (Z0 : n0 ≤ h0.size) (hcells : cells ≤ 0) (hslots : slots ≤ 0) (f0 : Sta Z h0 "java/lang/Integer$IntegerCache" "high" "I" (.int (127 : Int32))) (f1 : Sta Z h0 "java/lang/Integer$IntegerCache" "cache" "[Ljava/lang/Integer;" (.ref ca)) (BX : Bxs Z ca cl "java/lang/Integer" "I" 256 bv) (KZ : Keep Z.heap h0 []) (b4 : nar .boolean i4 = i4) :
    Go pgm e below s (Q0 n0) 4 8 T0 (mkF m 13 #[.val (.int i0), .val (.int i1), .val (.int i2), .val (.int i3), .val (.int i4), .unset, .unset, .unset, .unset, .unset, .unset, .unset, .unset, .unset] []) := by
  refine Go.step (T' := T0) (g' := (mkF m 14 #[.val (.int i0), .val (.int i1), .val (.int i2), .val (.int i3), .val (.int i4), .unset, .unset, .unset, .unset, .unset, .unset, .unset, .unset, .unset] [(.int i2)])) (fun _ k => XS.iloadN X0.here hx rfl (hb hby at_13) rfl  k) ?_
  refine Go.step (T' := T0) (g' := (mkF m 15 #[.val (.int i0), .val (.int i1), .val (.int i2), .val (.int i3), .val (.int i4), .unset, .unset, .unset, .unset, .unset, .unset, .unset, .unset, .unset] [(.int (2 : Int32)), (.int i2)])) (fun _ k => XS.iconst X0.here hx rfl (hb hby at_14) k) ?_
  refine Go.step (T' := T0) (g' := (mkF m 16 #[.val (.int i0), .val (.int i1), .val (.int i2), .val (.int i3), .val (.int i4), .unset, .unset, .unset, .unset, .unset, .unset, .unset, .unset, .unset] [(.int (i2 &&& (2 : Int32)))])) (fun _ k => XS.iand X0.here hx rfl (hb hby at_15) rfl k) ?_
  by_cases hc101 : (i2 &&& (2 : Int32)) = (0 : Int32)
  · skip
    refine Go.step (T' := T0) (g' := (mkF m 23 #[.val (.int i0), .val (.int i1), .val (.int i2), .val (.int i3), .val (.int i4), .unset, .unset, .unset, .unset, .unset, .unset, .unset, .unset, .unset] [])) (fun _ k => XS.ifYes X0.here hx rfl (pc0 := 16) (pc' := 23) rfl (hb hby at_16) rfl ((if0 _ _).trans (teq hc101).1) (by decide) (by decide) k) ?_
    refine Go.step (T' := T0) (g' := (mkF m 24 #[.val (.int i0), .val (.int i1), .val (.int i2), .val (.int i3), .val (.int i4), .unset, .unset, .unset, .unset, .unset, .unset, .unset, .unset, .unset] [(.int (0 : Int32))])) (fun _ k => XS.iconst X0.here hx rfl (hb hby at_23) k) ?_
    refine Go.step (T' := T0) (g' := (mkF m 26 #[.val (.int i0), .val (.int i1), .val (.int i2), .val (.int i3), .val (.int i4), .val (.int (0 : Int32)), .unset, .unset, .unset, .unset, .unset, .unset, .unset, .unset] [])) (fun _ k => XS.istore X0.here hx rfl (hb hby at_24) rfl (l' := #[.val (.int i0), .val (.int i1), .val (.int i2), .val (.int i3), .val (.int i4), .val (.int (0 : Int32)), .unset, .unset, .unset, .unset, .unset, .unset, .unset, .unset]) rfl k) ?_
    exact own_s26 i0 i1 i2 i3 i4 (0 : Int32) ca cl bv X0 hx hZ hw hby hml hown hret hlk e0 N0 Z0 (by omega) (by omega) f0 f1 BX KZ b4 (by decide)
  · skip
    refine Go.step (T' := T0) (g' := (mkF m 19 #[.val (.int i0), .val (.int i1), .val (.int i2), .val (.int i3), .val (.int i4), .unset, .unset, .unset, .unset, .unset, .unset, .unset, .unset, .unset] [])) (fun _ k => XS.ifNo X0.here hx rfl (hb hby at_16) rfl ((if0 _ _).trans (feq hc101).1) k) ?_
    refine Go.step (T' := T0) (g' := (mkF m 20 #[.val (.int i0), .val (.int i1), .val (.int i2), .val (.int i3), .val (.int i4), .unset, .unset, .unset, .unset, .unset, .unset, .unset, .unset, .unset] [(.int (1 : Int32))])) (fun _ k => XS.iconst X0.here hx rfl (hb hby at_19) k) ?_
    refine Go.step (T' := T0) (g' := (mkF m 24 #[.val (.int i0), .val (.int i1), .val (.int i2), .val (.int i3), .val (.int i4), .unset, .unset, .unset, .unset, .unset, .unset, .unset, .unset, .unset] [(.int (1 : Int32))])) (fun _ k => XS.goto X0.here hx rfl (pc0 := 20) (pc' := 24) rfl (hb hby at_20) (by decide) (by decide) k) ?_
    refine Go.step (T' := T0) (g' := (mkF m 26 #[.val (.int i0), .val (.int i1), .val (.int i2), .val (.int i3), .val (.int i4), .val (.int (1 : Int32)), .unset, .unset, .unset, .unset, .unset, .unset, .unset, .unset] [])) (fun _ k => XS.istore X0.here hx rfl (hb hby at_24) rfl (l' := #[.val (.int i0), .val (.int i1), .val (.int i2), .val (.int i3), .val (.int i4), .val (.int (1 : Int32)), .unset, .unset, .unset, .unset, .unset, .unset, .unset, .unset]) rfl k) ?_
    exact own_s26 i0 i1 i2 i3 i4 (1 : Int32) ca cl bv X0 hx hZ hw hby hml hown hret hlk e0 N0 Z0 (by omega) (by omega) f0 f1 BX KZ b4 (by decide)
theorem own_ef_code_IIII (m : MethodId) (x0 : Int32) (x1 : Int32) (x2 : Int32) (x3 : Int32) : entryFrame m #[(.int x0), (.int x1), (.int x2), (.int x3)] maxLocals = mkF m 0 #[.val (.int x0), .val (.int x1), .val (.int x2), .val (.int x3), .unset, .unset, .unset, .unset, .unset, .unset, .unset, .unset, .unset, .unset] [] := by first | (simp [entryFrame, mkF, argsToLocals, Value.category, maxLocals]; done) | rfl | (simp [entryFrame, mkF, argsToLocals, own_cI, own_cJ, own_cR, own_cN, maxLocals]; done)
theorem own_pn_SortKeyEqualsPinLaw : plainName "com/example/feldspar/feldspar/algebra/SortKeyEqualsPinLaw" = true := by first | (simp [plainName, overriddenIn]; done) | decide +kernel
set_option maxRecDepth 65536 in
set_option maxHeartbeats 40000000 in
theorem rm0 (l : Launch) (Z : State) (a0 : Array Value) (hw : ∀ d ∈ tables_1, d.before a0 Z = true) (ws : List Jvm.Cond) (i0 i1 i2 i3 : Int32) (ca : Addr) (cl : Cell) (bv : Int32 → Value) (h0 : Heap) (n0 : Nat) (Z0 : n0 ≤ h0.size) (Sh : Sta Z h0 "java/lang/Integer$IntegerCache" "high" "I" (.int (127 : Int32))) (Sc : Sta Z h0 "java/lang/Integer$IntegerCache" "cache" "[Ljava/lang/Integer;" (.ref ca)) (BX : Bxs Z ca cl "java/lang/Integer" "I" 256 bv) (KZ : Keep Z.heap h0 []) :
    Con l Z x code maxLocals ret room_1 ws #[(.int i0), (.int i1), (.int i2), (.int i3)] h0 (Q0 n0) 4 8 := by
  refine Con.of (plainFor_of_name own_pn_SortKeyEqualsPinLaw) ?_
  intro pgm e s m below meth c s₁ X0 hx hZ hby hml hown hnm hret hlk e0 hs0
  have N0 := Fr.nil n0
  have hown : s.vm.findClass "com/example/feldspar/feldspar/algebra/SortKeyEqualsPinLaw" = some m.cls := hown
  have hnm : meth.name = "law" := hnm
  refine Go.cast (own_ef_code_IIII m i0 i1 i2 i3) ?_
  refine Go.step (T' := s₁) (g' := (mkF m 1 #[.val (.int i0), .val (.int i1), .val (.int i2), .val (.int i3), .unset, .unset, .unset, .unset, .unset, .unset, .unset, .unset, .unset, .unset] [(.int i2)])) (fun _ k => XS.iloadN X0.here hx rfl (hb hby at_0) rfl  k) ?_
  refine Go.step (T' := s₁) (g' := (mkF m 2 #[.val (.int i0), .val (.int i1), .val (.int i2), .val (.int i3), .unset, .unset, .unset, .unset, .unset, .unset, .unset, .unset, .unset, .unset] [(.int (1 : Int32)), (.int i2)])) (fun _ k => XS.iconst X0.here hx rfl (hb hby at_1) k) ?_
  refine Go.step (T' := s₁) (g' := (mkF m 3 #[.val (.int i0), .val (.int i1), .val (.int i2), .val (.int i3), .unset, .unset, .unset, .unset, .unset, .unset, .unset, .unset, .unset, .unset] [(.int (i2 &&& (1 : Int32)))])) (fun _ k => XS.iand X0.here hx rfl (hb hby at_2) rfl k) ?_
  by_cases hc101 : (i2 &&& (1 : Int32)) = (0 : Int32)
  · skip
    refine Go.step (T' := s₁) (g' := (mkF m 10 #[.val (.int i0), .val (.int i1), .val (.int i2), .val (.int i3), .unset, .unset, .unset, .unset, .unset, .unset, .unset, .unset, .unset, .unset] [])) (fun _ k => XS.ifYes X0.here hx rfl (pc0 := 3) (pc' := 10) rfl (hb hby at_3) rfl ((if0 _ _).trans (teq hc101).1) (by decide) (by decide) k) ?_
    refine Go.step (T' := s₁) (g' := (mkF m 11 #[.val (.int i0), .val (.int i1), .val (.int i2), .val (.int i3), .unset, .unset, .unset, .unset, .unset, .unset, .unset, .unset, .unset, .unset] [(.int (0 : Int32))])) (fun _ k => XS.iconst X0.here hx rfl (hb hby at_10) k) ?_
    refine Go.step (T' := s₁) (g' := (mkF m 13 #[.val (.int i0), .val (.int i1), .val (.int i2), .val (.int i3), .val (.int (0 : Int32)), .unset, .unset, .unset, .unset, .unset, .unset, .unset, .unset, .unset] [])) (fun _ k => XS.istore X0.here hx rfl (hb hby at_11) rfl (l' := #[.val (.int i0), .val (.int i1), .val (.int i2), .val (.int i3), .val (.int (0 : Int32)), .unset, .unset, .unset, .unset, .unset, .unset, .unset, .unset, .unset]) rfl k) ?_
    exact own_s13 i0 i1 i2 i3 (0 : Int32) ca cl bv X0 hx hZ hw hby hml hown hret hlk e0 N0 Z0 (by decide) (by decide) Sh Sc BX KZ (by decide)
  · skip
    refine Go.step (T' := s₁) (g' := (mkF m 6 #[.val (.int i0), .val (.int i1), .val (.int i2), .val (.int i3), .unset, .unset, .unset, .unset, .unset, .unset, .unset, .unset, .unset, .unset] [])) (fun _ k => XS.ifNo X0.here hx rfl (hb hby at_3) rfl ((if0 _ _).trans (feq hc101).1) k) ?_
    refine Go.step (T' := s₁) (g' := (mkF m 7 #[.val (.int i0), .val (.int i1), .val (.int i2), .val (.int i3), .unset, .unset, .unset, .unset, .unset, .unset, .unset, .unset, .unset, .unset] [(.int (1 : Int32))])) (fun _ k => XS.iconst X0.here hx rfl (hb hby at_6) k) ?_
    refine Go.step (T' := s₁) (g' := (mkF m 11 #[.val (.int i0), .val (.int i1), .val (.int i2), .val (.int i3), .unset, .unset, .unset, .unset, .unset, .unset, .unset, .unset, .unset, .unset] [(.int (1 : Int32))])) (fun _ k => XS.goto X0.here hx rfl (pc0 := 7) (pc' := 11) rfl (hb hby at_7) (by decide) (by decide) k) ?_
    refine Go.step (T' := s₁) (g' := (mkF m 13 #[.val (.int i0), .val (.int i1), .val (.int i2), .val (.int i3), .val (.int (1 : Int32)), .unset, .unset, .unset, .unset, .unset, .unset, .unset, .unset, .unset] [])) (fun _ k => XS.istore X0.here hx rfl (hb hby at_11) rfl (l' := #[.val (.int i0), .val (.int i1), .val (.int i2), .val (.int i3), .val (.int (1 : Int32)), .unset, .unset, .unset, .unset, .unset, .unset, .unset, .unset, .unset]) rfl k) ?_
    exact own_s13 i0 i1 i2 i3 (1 : Int32) ca cl bv X0 hx hZ hw hby hml hown hret hlk e0 N0 Z0 (by decide) (by decide) Sh Sc BX KZ (by decide)
set_option maxRecDepth 65536 in
set_option maxHeartbeats 40000000 in
theorem comes_1 {Post : Tables → Env → Array Value → State → Outcome → State → Prop} (hpost : ∀ tb e args s v u, (limb_1_1.after args s (.returned v) u = true ∧ limb_1_2.after args s (.returned v) u = true ∧ True) → FrameEnd s (.returned v) u (Jvm.fieldLocs frame_1_writes args s ++ Jvm.arrayLocs frame_1_arrays args s ++ Jvm.staticLocs frame_1_statics s) 16 128 → Post tb e args s (.returned v) u) :
    ArmFor flags0 classFile x code maxLocals ret World_1 tables_1 room_1 Calls_1 rest_1 Pre_1 Post := by
  intro l hfl _ _ p e ha hc hk s m args below hf hA hF happ hP
  obtain ⟨hcalls, hrest, hpre⟩ := hP
  obtain ⟨-, -, -, hnamed, -, -, -, hat⟩ := (Spec.applies_iff hf).mp happ
  obtain ⟨hg, hn⟩ := and_e (Cond.before_iff.mp (show (Jvm.Cond.and given_1 narrow_1).before args s = true from hpre))
  obtain ⟨g0a, g0b⟩ := and_e hg
  obtain ⟨g1a, g1b⟩ := and_e g0b
  obtain ⟨g2a, g2b⟩ := and_e g1b
  obtain ⟨g3a, g3b⟩ := and_e g2b
  obtain ⟨vw0, vw1, vw2, vw3, rfl⟩ : ∃ vw0 vw1 vw2 vw3 : Value, args = #[vw0, vw1, vw2, vw3] := by
    have hs : args.size = 4 := by simpa [Cond.value, given_1] using g0a
    obtain ⟨L⟩ := args
    match L, hs with
    | [vw0, vw1, vw2, vw3], _ => exact ⟨vw0, vw1, vw2, vw3, rfl⟩
  have hw := fun d (hd : d ∈ tables_1) => atoms_spec (ws := Jvm.Cond.code x code maxLocals ret :: tables_1) hat d (List.mem_cons_of_mem _ hd)
  have hfit : Fit s := fun {y c} hc i hi => by
    obtain ⟨ha, rfl⟩ := Array.getElem?_eq_some_iff.mp hc
    have q := List.all_eq_true.mp ((Array.all_eq_true_iff_forall_mem.mp hF) _ (Array.getElem_mem ha)) i (List.mem_range.mpr hi)
    simpa [Array.getElem?_eq_getElem hi] using q
  obtain ⟨hsets, hown0⟩ := atoms_of _ (rest_1_c_eq ▸ (show rest_1_c.before _ s = true from hrest))
  obtain ⟨i0, ei0⟩ := is_v g1a
  obtain rfl : vw0 = (.int i0) := Option.some.inj ei0
  obtain ⟨i1, ei1⟩ := is_v g2a
  obtain rfl : vw1 = (.int i1) := Option.some.inj ei1
  obtain ⟨i2, ei2⟩ := is_v g3a
  obtain rfl : vw2 = (.int i2) := Option.some.inj ei2
  obtain ⟨i3, ei3⟩ := is_v g3b
  obtain rfl : vw3 = (.int i3) := Option.some.inj ei3
  have ev_h := own_eqI (Cond.before_iff.mp (hsets _ (List.mem_of_getElem? (i := 3) rfl)))
  have Sh := Sta.start ev_h (Or.inl (hsets _ (List.mem_of_getElem? (i := 1) rfl)))
  obtain ⟨ca, ev_c⟩ := arr_v (Cond.before_iff.mp (hsets _ (List.mem_of_getElem? (i := 4) rfl)))
  have Sc := Sta.start ev_c (Or.inr ⟨(hw _ (List.mem_of_getElem? (i := 27) rfl)), (hsets _ (List.mem_of_getElem? (i := 2) rfl))⟩)
  obtain ⟨cl, Ar⟩ := Arr.start ev_c (Cond.before_iff.mp (hsets _ (List.mem_of_getElem? (i := 4) rfl)))
  have ev_l := own_eqI (Cond.before_iff.mp (hsets _ (List.mem_of_getElem? (i := 6) rfl)))
  have BX : Bxs s ca cl "java/lang/Integer" "I" 256 (fun j => .int (j - 128)) := Bxs.start (fun _ => ev_c) Ar (own_len ev_c Ar ev_l).1 (own_len ev_c Ar ev_l).2 (by decide) (Cond.before_iff.mp (hsets _ (List.mem_of_getElem? (i := 7) rfl))) (fun X j nn q => eqv_i (own_sub_at (idx_at nn)) q)
  obtain ⟨n, o, h1, h2, h3, _, L, rfl, ⟨rfl, N⟩, hq⟩ := rm0 l s _ hw tables_1 i0 i1 i2 i3 ca cl _ s.heap s.heap.size (Nat.le_refl _) Sh Sc BX (Keep.refl _ _) p e ha hc hk s m _ below hf ((Spec.applies_iff_loose hf).mp happ).1 ⟨rfl, State.Warmed39.refl s, rfl⟩ trivial
  refine ⟨n, _, h1, h2, h3, hpost _ _ _ _ _ _ ⟨Cond.after_iff.mpr rfl, Cond.after_iff.mpr (eq_i res_at (Term.int_eval (1)) rfl), trivial⟩ ⟨hq.1, hq.2.1, (hq.2.2.sift fun y hy => Or.inr (N y hy)).mono (by decide) (by decide)⟩⟩
theorem main_1_1 : Claimed_1_1 := comes_1 fun _ _ _ _ _ _ h hF => ⟨h.1, hF⟩
theorem main_1_2 : Claimed_1_2 := comes_1 fun _ _ _ _ _ _ h hF => ⟨h.2.1, hF⟩
end Jvm.Pilot.@@N@@
namespace Jvm.Pilot.@@N@@
open Jvm Jvm.ClassFile Sem Op Lib Jvm.Free Jvm.Stand Jvm.Pilot.@@N@@.Jvm.D
/-! MADE BY PROGRAM (witnessworld.py) out of the Statement's table words and the real class files: 16 classes; the members and pool entries that the words name. The judged class is class 1, her method 1. -/
namespace start1
open Jvm.ClassFile
def u (s : String) : CpInfo := .utf8 (stringToUtf16 s)
/-- a pool by its gaps: so many unusable entries, then the entry; so many at the end -/
def gap : Nat → List CpInfo → List CpInfo
  | 0, r => r
  | n + 1, r => .unusable :: gap n r
def poolList (es : List (Nat × CpInfo)) (last : Nat) : List CpInfo := es.foldr (fun e r => gap e.1 (e.2 :: r)) (gap last [])
def pool (es : List (Nat × CpInfo)) (last : Nat) : Array CpInfo := ⟨poolList es last⟩
def fileOf (pool : Array CpInfo) (this : Nat) (attrs : Array Attribute := #[]) (ms : Array MethodInfo := #[]) (fl : Nat := 33) (sup : Nat := 0) (ifs : Array Nat := #[]) (fds : Array FieldInfo := #[]) : ClassFile where
  minorVersion := 0
  majorVersion := 65
  constantPool := pool
  accessFlags := fl
  thisClass := this
  superClass := sup
  interfaces := ifs
  fields := fds
  methods := ms
  attributes := attrs
def plain (name : String) (sup : Option ClassId) : Class where
  name := name
  kind := .ordinary
  loader := none
  accessFlags := 33
  super := sup
  interfaces := #[]
  cf := none
  fields := #[]
  methods := #[]
  instanceTypes := #[]
  staticTypes := #[]
  resolved := #[]
  callSites := []
  init := .initialized
  statics := none
  mirror := none

def pool0 : Array CpInfo := pool [(5, u "<init>"), (0, u "()V"), (1, .class_ 10), (1, u "java/lang/Object")] 113

def k0c0 : Code := { maxStack := 0, maxLocals := 1, code := object_method_1_code, exceptionTable := #[], attributes := #[] }
def k0m0 : Method := { name := "<init>", desc := "()V", sig := { parameters := [], returnType := none }, accessFlags := 1, code := some k0c0 }
/-- java/lang/Object -/
def k0 : Class := { plain "java/lang/Object" none with
  accessFlags := 33
  interfaces := #[]
  cf := some (fileOf pool0 8 #[] #[{ accessFlags := 1, nameIndex := 5, descriptorIndex := 6, attributes := #[] }] 33 0 #[] #[])
  fields := #[]
  methods := #[k0m0]
  instanceTypes := #[]
  staticTypes := #[]
  resolved := Array.replicate 124 none
  statics := none }

def pool1 : Array CpInfo := pool [(2, .class_ 4), (1, u "java/lang/Object"), (0, u "<init>"), (0, u "()V"), (0, .class_ 8), (0, u "com/example/feldspar/feldspar/algebra/SortKey"), (0, .methodref 7 10), (0, .nameAndType 5 11), (0, u "(IZZ)V"), (0, .methodref 7 13), (0, .nameAndType 14 15), (0, u "equals"), (0, u "(Ljava/lang/Object;)Z"), (0, .methodref 17 18), (0, .class_ 19), (0, .nameAndType 20 21), (0, u "java/lang/Integer"), (0, u "valueOf"), (0, u "(I)Ljava/lang/Integer;"), (0, .class_ 23), (0, u "com/example/feldspar/feldspar/algebra/SortKeyEqualsPinLaw"), (2, u "law"), (0, u "(IIII)Z")] 3

def k1m0 : Method := { name := "<init>", desc := "()V", sig := { parameters := [], returnType := none }, accessFlags := 1, code := none }
def k1c1 : Code := { maxStack := 5, maxLocals := 14, code := code, exceptionTable := #[], attributes := #[] }
def k1m1 : Method := { name := "law", desc := "(IIII)Z", sig := { parameters := [.int, .int, .int, .int], returnType := some .boolean }, accessFlags := 9, code := some k1c1 }
/-- com/example/feldspar/feldspar/algebra/SortKeyEqualsPinLaw -/
def k1 : Class := { plain "com/example/feldspar/feldspar/algebra/SortKeyEqualsPinLaw" (some 0) with
  accessFlags := 49
  interfaces := #[]
  cf := some (fileOf pool1 22 #[] #[{ accessFlags := 1, nameIndex := 5, descriptorIndex := 6, attributes := #[] }, { accessFlags := 9, nameIndex := 26, descriptorIndex := 27, attributes := #[] }] 49 2 #[] #[])
  fields := #[]
  methods := #[k1m0, k1m1]
  instanceTypes := #[]
  staticTypes := #[]
  resolved := Array.replicate 31 none
  statics := none }

def pool2 : Array CpInfo := pool [(1, .methodref 2 3), (0, .class_ 4), (0, .nameAndType 5 6), (0, u "java/lang/Object"), (0, u "<init>"), (0, u "()V"), (0, .fieldref 8 9), (0, .class_ 10), (0, .nameAndType 11 12), (0, u "com/example/feldspar/feldspar/algebra/SortKey"), (0, u "field"), (0, u "I"), (0, .fieldref 8 14), (0, .nameAndType 15 16), (0, u "descending"), (0, u "Z"), (0, .fieldref 8 18), (0, .nameAndType 19 16), (0, u "nullsFirst"), (29, u "(IZZ)V"), (6, u "equals"), (0, u "(Ljava/lang/Object;)Z")] 23

def k2c0 : Code := { maxStack := 2, maxLocals := 4, code := prog_23_method_1_code, exceptionTable := #[], attributes := #[] }
def k2m0 : Method := { name := "<init>", desc := "(IZZ)V", sig := { parameters := [.int, .boolean, .boolean], returnType := none }, accessFlags := 1, code := some k2c0 }
def k2c1 : Code := { maxStack := 2, maxLocals := 3, code := prog_23_method_5_code, exceptionTable := #[], attributes := #[] }
def k2m1 : Method := { name := "equals", desc := "(Ljava/lang/Object;)Z", sig := { parameters := [(.object "java/lang/Object")], returnType := some .boolean }, accessFlags := 1, code := some k2c1 }
/-- com/example/feldspar/feldspar/algebra/SortKey -/
def k2 : Class := { plain "com/example/feldspar/feldspar/algebra/SortKey" (some 0) with
  accessFlags := 49
  interfaces := #[]
  cf := some (fileOf pool2 8 #[] #[{ accessFlags := 1, nameIndex := 5, descriptorIndex := 49, attributes := #[] }, { accessFlags := 1, nameIndex := 56, descriptorIndex := 57, attributes := #[] }] 49 2 #[] #[{ accessFlags := 18, nameIndex := 11, descriptorIndex := 12, attributes := #[] }, { accessFlags := 18, nameIndex := 15, descriptorIndex := 16, attributes := #[] }, { accessFlags := 18, nameIndex := 19, descriptorIndex := 16, attributes := #[] }])
  fields := #[{ name := "field", type := .int, accessFlags := 18, slot := 0, constantValue := 0 }, { name := "descending", type := .boolean, accessFlags := 18, slot := 1, constantValue := 0 }, { name := "nullsFirst", type := .boolean, accessFlags := 18, slot := 2, constantValue := 0 }]
  methods := #[k2m0, k2m1]
  instanceTypes := #[.int, .boolean, .boolean]
  staticTypes := #[]
  resolved := Array.replicate 81 none
  statics := none }

def pool3 : Array CpInfo := pool [(1, .class_ 2), (0, u "java/io/Serializable"), (0, .class_ 4), (0, u "java/lang/Object")] 2

/-- java/io/Serializable -/
def k3 : Class := { plain "java/io/Serializable" (some 0) with
  accessFlags := 1537
  interfaces := #[]
  cf := some (fileOf pool3 1 #[] #[] 1537 3 #[] #[])
  fields := #[]
  methods := #[]
  instanceTypes := #[]
  staticTypes := #[]
  resolved := Array.replicate 7 none
  statics := none }

def pool4 : Array CpInfo := pool [(1, .methodref 2 3), (0, .class_ 4), (0, .nameAndType 5 6), (0, u "java/lang/Object"), (0, u "<init>"), (0, u "()V"), (1, .class_ 10), (1, u "java/lang/Number"), (2, .class_ 14), (0, u "java/io/Serializable"), (0, u "serialVersionUID"), (0, u "J")] 20

def k4c0 : Code := { maxStack := 1, maxLocals := 1, code := jdk_18_method_1_code, exceptionTable := #[], attributes := #[] }
def k4m0 : Method := { name := "<init>", desc := "()V", sig := { parameters := [], returnType := none }, accessFlags := 1, code := some k4c0 }
/-- java/lang/Number -/
def k4 : Class := { plain "java/lang/Number" (some 0) with
  accessFlags := 1057
  interfaces := #[3]
  cf := some (fileOf pool4 8 #[] #[{ accessFlags := 1, nameIndex := 5, descriptorIndex := 6, attributes := #[] }] 1057 2 #[13] #[{ accessFlags := 26, nameIndex := 15, descriptorIndex := 16, attributes := #[] }])
  fields := #[{ name := "serialVersionUID", type := .long, accessFlags := 26, slot := 0, constantValue := 0 }]
  methods := #[k4m0]
  instanceTypes := #[]
  staticTypes := #[.long]
  resolved := Array.replicate 37 none
  statics := none }

def pool5 : Array CpInfo := pool [(1, .class_ 2), (0, u "java/lang/Comparable"), (0, .class_ 4), (0, u "java/lang/Object")] 7

/-- java/lang/Comparable -/
def k5 : Class := { plain "java/lang/Comparable" (some 0) with
  accessFlags := 1537
  interfaces := #[]
  cf := some (fileOf pool5 1 #[] #[] 1537 3 #[] #[])
  fields := #[]
  methods := #[]
  instanceTypes := #[]
  staticTypes := #[]
  resolved := Array.replicate 12 none
  statics := none }

def pool6 : Array CpInfo := pool [(1, .class_ 2), (0, u "java/lang/constant/Constable"), (0, .class_ 4), (0, u "java/lang/Object")] 6

/-- java/lang/constant/Constable -/
def k6 : Class := { plain "java/lang/constant/Constable" (some 0) with
  accessFlags := 1537
  interfaces := #[]
  cf := some (fileOf pool6 1 #[] #[] 1537 3 #[] #[])
  fields := #[]
  methods := #[]
  instanceTypes := #[]
  staticTypes := #[]
  resolved := Array.replicate 11 none
  statics := none }

def pool7 : Array CpInfo := pool [(1, .class_ 2), (0, u "java/lang/constant/ConstantDesc"), (0, .class_ 4), (0, u "java/lang/Object")] 32

/-- java/lang/constant/ConstantDesc -/
def k7 : Class := { plain "java/lang/constant/ConstantDesc" (some 0) with
  accessFlags := 1537
  interfaces := #[]
  cf := some (fileOf pool7 1 #[] #[] 1537 3 #[] #[])
  fields := #[]
  methods := #[]
  instanceTypes := #[]
  staticTypes := #[]
  resolved := Array.replicate 37 none
  statics := none }

def pool8 : Array CpInfo := pool [(1, .class_ 2), (0, u "java/lang/Integer"), (16, u "digits"), (0, u "[C"), (46, u "<init>"), (17, u "DigitOnes"), (0, u "[B"), (2, u "DigitTens"), (10, .nameAndType 67 101), (0, u "()V"), (85, u "valueOf"), (0, u "(I)Ljava/lang/Integer;"), (0, .class_ 190), (0, u "java/lang/Integer$IntegerCache"), (0, .fieldref 189 192), (0, .nameAndType 193 194), (0, u "high"), (0, u "I"), (0, .fieldref 189 196), (0, .nameAndType 197 198), (0, u "cache"), (0, u "[Ljava/lang/Integer;"), (0, .methodref 1 200), (0, .nameAndType 67 201), (0, u "(I)V"), (0, .methodref 203 100), (0, .class_ 204), (0, u "java/lang/Number"), (0, .fieldref 1 206), (0, .nameAndType 207 194), (0, u "value"), (94, u "TYPE"), (0, u "Ljava/lang/Class;"), (0, .class_ 305), (0, u "java/lang/Comparable"), (0, .class_ 307), (0, u "java/lang/constant/Constable"), (0, .class_ 309), (0, u "java/lang/constant/ConstantDesc"), (0, u "MIN_VALUE"), (1, u "MAX_VALUE"), (3, u "SIZE"), (1, u "BYTES"), (1, u "serialVersionUID"), (0, u "J")] 131

def k8c0 : Code := { maxStack := 3, maxLocals := 1, code := jdk_33_method_22_code, exceptionTable := #[], attributes := #[] }
def k8m0 : Method := { name := "valueOf", desc := "(I)Ljava/lang/Integer;", sig := { parameters := [.int], returnType := some (.object "java/lang/Integer") }, accessFlags := 9, code := some k8c0 }
def k8c1 : Code := { maxStack := 2, maxLocals := 2, code := jdk_33_method_23_code, exceptionTable := #[], attributes := #[] }
def k8m1 : Method := { name := "<init>", desc := "(I)V", sig := { parameters := [.int], returnType := none }, accessFlags := 1, code := some k8c1 }
/-- java/lang/Integer -/
def k8 : Class := { plain "java/lang/Integer" (some 4) with
  accessFlags := 49
  interfaces := #[5, 6, 7]
  cf := some (fileOf pool8 1 #[.nestMembers #[189]] #[{ accessFlags := 9, nameIndex := 187, descriptorIndex := 188, attributes := #[] }, { accessFlags := 1, nameIndex := 67, descriptorIndex := 201, attributes := #[] }] 49 203 #[304, 306, 308] #[{ accessFlags := 25, nameIndex := 310, descriptorIndex := 194, attributes := #[] }, { accessFlags := 25, nameIndex := 312, descriptorIndex := 194, attributes := #[] }, { accessFlags := 25, nameIndex := 302, descriptorIndex := 303, attributes := #[] }, { accessFlags := 24, nameIndex := 19, descriptorIndex := 20, attributes := #[] }, { accessFlags := 24, nameIndex := 89, descriptorIndex := 86, attributes := #[] }, { accessFlags := 24, nameIndex := 85, descriptorIndex := 86, attributes := #[] }, { accessFlags := 18, nameIndex := 207, descriptorIndex := 194, attributes := #[] }, { accessFlags := 25, nameIndex := 316, descriptorIndex := 194, attributes := #[] }, { accessFlags := 25, nameIndex := 318, descriptorIndex := 194, attributes := #[] }, { accessFlags := 26, nameIndex := 320, descriptorIndex := 321, attributes := #[] }])
  fields := #[{ name := "MIN_VALUE", type := .int, accessFlags := 25, slot := 0, constantValue := 0 }, { name := "MAX_VALUE", type := .int, accessFlags := 25, slot := 1, constantValue := 0 }, { name := "TYPE", type := (.object "java/lang/Class"), accessFlags := 25, slot := 2, constantValue := 0 }, { name := "digits", type := (.array .char), accessFlags := 24, slot := 3, constantValue := 0 }, { name := "DigitTens", type := (.array .byte), accessFlags := 24, slot := 4, constantValue := 0 }, { name := "DigitOnes", type := (.array .byte), accessFlags := 24, slot := 5, constantValue := 0 }, { name := "value", type := .int, accessFlags := 18, slot := 0, constantValue := 0 }, { name := "SIZE", type := .int, accessFlags := 25, slot := 6, constantValue := 0 }, { name := "BYTES", type := .int, accessFlags := 25, slot := 7, constantValue := 0 }, { name := "serialVersionUID", type := .long, accessFlags := 26, slot := 8, constantValue := 0 }]
  methods := #[k8m0, k8m1]
  instanceTypes := #[.int]
  staticTypes := #[.int, .int, (.object "java/lang/Class"), (.array .char), (.array .byte), (.array .byte), .int, .int, .long]
  resolved := Array.replicate 453 none
  statics := none }

def pool9 : Array CpInfo := pool [(2, .class_ 4), (1, u "java/lang/Object"), (0, u "<init>"), (0, u "()V"), (0, .class_ 8), (0, u "java/lang/Integer"), (7, .class_ 18), (1, u "java/lang/Integer$IntegerCache"), (0, u "$assertionsDisabled"), (0, u "Z"), (26, u "high"), (0, u "I"), (8, u "archivedCache"), (0, u "[Ljava/lang/Integer;"), (12, u "cache"), (0, u "low")] 27

def k9m0 : Method := { name := "<init>", desc := "()V", sig := { parameters := [], returnType := none }, accessFlags := 2, code := none }
/-- java/lang/Integer$IntegerCache -/
def k9 : Class := { plain "java/lang/Integer$IntegerCache" (some 0) with
  accessFlags := 48
  interfaces := #[]
  cf := some (fileOf pool9 16 #[.nestHost 7] #[{ accessFlags := 2, nameIndex := 5, descriptorIndex := 6, attributes := #[] }] 48 2 #[] #[{ accessFlags := 24, nameIndex := 72, descriptorIndex := 48, attributes := #[] }, { accessFlags := 24, nameIndex := 47, descriptorIndex := 48, attributes := #[] }, { accessFlags := 24, nameIndex := 71, descriptorIndex := 58, attributes := #[] }, { accessFlags := 8, nameIndex := 57, descriptorIndex := 58, attributes := #[] }, { accessFlags := 4120, nameIndex := 19, descriptorIndex := 20, attributes := #[] }])
  fields := #[{ name := "low", type := .int, accessFlags := 24, slot := 0, constantValue := 0 }, { name := "high", type := .int, accessFlags := 24, slot := 1, constantValue := 0 }, { name := "cache", type := (.array (.object "java/lang/Integer")), accessFlags := 24, slot := 2, constantValue := 0 }, { name := "archivedCache", type := (.array (.object "java/lang/Integer")), accessFlags := 8, slot := 3, constantValue := 0 }, { name := "$assertionsDisabled", type := .boolean, accessFlags := 4120, slot := 4, constantValue := 0 }]
  methods := #[k9m0]
  instanceTypes := #[]
  staticTypes := #[.int, .int, (.array (.object "java/lang/Integer")), (.array (.object "java/lang/Integer")), .boolean]
  resolved := Array.replicate 100 none
  statics := some 0 }

def pool10 : Array CpInfo := pool [(1, u "java/lang/Cloneable"), (0, .class_ 1), (0, u "java/lang/Object"), (0, .class_ 3)] 3

/-- java/lang/Cloneable -/
def k10 : Class := { plain "java/lang/Cloneable" (some 0) with
  accessFlags := 1537
  interfaces := #[]
  cf := some (fileOf pool10 2 #[] #[] 1537 4 #[] #[])
  fields := #[]
  methods := #[]
  instanceTypes := #[]
  staticTypes := #[]
  resolved := Array.replicate 8 none
  statics := none }

/-- the primitive byte -/
def k11 : Class := { plain "byte" none with kind := .primitive 'B', accessFlags := 0x411 }
/-- [B -/
def k12 : Class := { plain "[B" (some 0) with kind := .array 11 .byte, interfaces := #[10, 3], accessFlags := 1041 }

/-- the primitive int -/
def k13 : Class := { plain "int" none with kind := .primitive 'I', accessFlags := 0x411 }
/-- [I -/
def k14 : Class := { plain "[I" (some 0) with kind := .array 13 .int, interfaces := #[10, 3], accessFlags := 1041 }

/-- [Ljava/lang/Integer; -/
def k15 : Class := { plain "[Ljava/lang/Integer;" (some 0) with kind := .array 8 (.object "java/lang/Integer"), interfaces := #[10, 3], accessFlags := 1041 }

def heap : Heap := #[{ cls := 9, slots := #[.int 0, .int 127, .ref 1, .null, .int 0], vm := .statics 9 },
  { cls := 15, slots := #[.ref 2, .ref 3, .ref 4, .ref 5, .ref 6, .ref 7, .ref 8, .ref 9, .ref 10, .ref 11, .ref 12, .ref 13, .ref 14, .ref 15, .ref 16, .ref 17, .ref 18, .ref 19, .ref 20, .ref 21, .ref 22, .ref 23, .ref 24, .ref 25, .ref 26, .ref 27, .ref 28, .ref 29, .ref 30, .ref 31, .ref 32, .ref 33, .ref 34, .ref 35, .ref 36, .ref 37, .ref 38, .ref 39, .ref 40, .ref 41, .ref 42, .ref 43, .ref 44, .ref 45, .ref 46, .ref 47, .ref 48, .ref 49, .ref 50, .ref 51, .ref 52, .ref 53, .ref 54, .ref 55, .ref 56, .ref 57, .ref 58, .ref 59, .ref 60, .ref 61, .ref 62, .ref 63, .ref 64, .ref 65, .ref 66, .ref 67, .ref 68, .ref 69, .ref 70, .ref 71, .ref 72, .ref 73, .ref 74, .ref 75, .ref 76, .ref 77, .ref 78, .ref 79, .ref 80, .ref 81, .ref 82, .ref 83, .ref 84, .ref 85, .ref 86, .ref 87, .ref 88, .ref 89, .ref 90, .ref 91, .ref 92, .ref 93, .ref 94, .ref 95, .ref 96, .ref 97, .ref 98, .ref 99, .ref 100, .ref 101, .ref 102, .ref 103, .ref 104, .ref 105, .ref 106, .ref 107, .ref 108, .ref 109, .ref 110, .ref 111, .ref 112, .ref 113, .ref 114, .ref 115, .ref 116, .ref 117, .ref 118, .ref 119, .ref 120, .ref 121, .ref 122, .ref 123, .ref 124, .ref 125, .ref 126, .ref 127, .ref 128, .ref 129, .ref 130, .ref 131, .ref 132, .ref 133, .ref 134, .ref 135, .ref 136, .ref 137, .ref 138, .ref 139, .ref 140, .ref 141, .ref 142, .ref 143, .ref 144, .ref 145, .ref 146, .ref 147, .ref 148, .ref 149, .ref 150, .ref 151, .ref 152, .ref 153, .ref 154, .ref 155, .ref 156, .ref 157, .ref 158, .ref 159, .ref 160, .ref 161, .ref 162, .ref 163, .ref 164, .ref 165, .ref 166, .ref 167, .ref 168, .ref 169, .ref 170, .ref 171, .ref 172, .ref 173, .ref 174, .ref 175, .ref 176, .ref 177, .ref 178, .ref 179, .ref 180, .ref 181, .ref 182, .ref 183, .ref 184, .ref 185, .ref 186, .ref 187, .ref 188, .ref 189, .ref 190, .ref 191, .ref 192, .ref 193, .ref 194, .ref 195, .ref 196, .ref 197, .ref 198, .ref 199, .ref 200, .ref 201, .ref 202, .ref 203, .ref 204, .ref 205, .ref 206, .ref 207, .ref 208, .ref 209, .ref 210, .ref 211, .ref 212, .ref 213, .ref 214, .ref 215, .ref 216, .ref 217, .ref 218, .ref 219, .ref 220, .ref 221, .ref 222, .ref 223, .ref 224, .ref 225, .ref 226, .ref 227, .ref 228, .ref 229, .ref 230, .ref 231, .ref 232, .ref 233, .ref 234, .ref 235, .ref 236, .ref 237, .ref 238, .ref 239, .ref 240, .ref 241, .ref 242, .ref 243, .ref 244, .ref 245, .ref 246, .ref 247, .ref 248, .ref 249, .ref 250, .ref 251, .ref 252, .ref 253, .ref 254, .ref 255, .ref 256, .ref 257], vm := .none },
  { cls := 8, slots := #[.int (-128)], vm := .none },
  { cls := 8, slots := #[.int (-127)], vm := .none },
  { cls := 8, slots := #[.int (-126)], vm := .none },
  { cls := 8, slots := #[.int (-125)], vm := .none },
  { cls := 8, slots := #[.int (-124)], vm := .none },
  { cls := 8, slots := #[.int (-123)], vm := .none },
  { cls := 8, slots := #[.int (-122)], vm := .none },
  { cls := 8, slots := #[.int (-121)], vm := .none },
  { cls := 8, slots := #[.int (-120)], vm := .none },
  { cls := 8, slots := #[.int (-119)], vm := .none },
  { cls := 8, slots := #[.int (-118)], vm := .none },
  { cls := 8, slots := #[.int (-117)], vm := .none },
  { cls := 8, slots := #[.int (-116)], vm := .none },
  { cls := 8, slots := #[.int (-115)], vm := .none },
  { cls := 8, slots := #[.int (-114)], vm := .none },
  { cls := 8, slots := #[.int (-113)], vm := .none },
  { cls := 8, slots := #[.int (-112)], vm := .none },
  { cls := 8, slots := #[.int (-111)], vm := .none },
  { cls := 8, slots := #[.int (-110)], vm := .none },
  { cls := 8, slots := #[.int (-109)], vm := .none },
  { cls := 8, slots := #[.int (-108)], vm := .none },
  { cls := 8, slots := #[.int (-107)], vm := .none },
  { cls := 8, slots := #[.int (-106)], vm := .none },
  { cls := 8, slots := #[.int (-105)], vm := .none },
  { cls := 8, slots := #[.int (-104)], vm := .none },
  { cls := 8, slots := #[.int (-103)], vm := .none },
  { cls := 8, slots := #[.int (-102)], vm := .none },
  { cls := 8, slots := #[.int (-101)], vm := .none },
  { cls := 8, slots := #[.int (-100)], vm := .none },
  { cls := 8, slots := #[.int (-99)], vm := .none },
  { cls := 8, slots := #[.int (-98)], vm := .none },
  { cls := 8, slots := #[.int (-97)], vm := .none },
  { cls := 8, slots := #[.int (-96)], vm := .none },
  { cls := 8, slots := #[.int (-95)], vm := .none },
  { cls := 8, slots := #[.int (-94)], vm := .none },
  { cls := 8, slots := #[.int (-93)], vm := .none },
  { cls := 8, slots := #[.int (-92)], vm := .none },
  { cls := 8, slots := #[.int (-91)], vm := .none },
  { cls := 8, slots := #[.int (-90)], vm := .none },
  { cls := 8, slots := #[.int (-89)], vm := .none },
  { cls := 8, slots := #[.int (-88)], vm := .none },
  { cls := 8, slots := #[.int (-87)], vm := .none },
  { cls := 8, slots := #[.int (-86)], vm := .none },
  { cls := 8, slots := #[.int (-85)], vm := .none },
  { cls := 8, slots := #[.int (-84)], vm := .none },
  { cls := 8, slots := #[.int (-83)], vm := .none },
  { cls := 8, slots := #[.int (-82)], vm := .none },
  { cls := 8, slots := #[.int (-81)], vm := .none },
  { cls := 8, slots := #[.int (-80)], vm := .none },
  { cls := 8, slots := #[.int (-79)], vm := .none },
  { cls := 8, slots := #[.int (-78)], vm := .none },
  { cls := 8, slots := #[.int (-77)], vm := .none },
  { cls := 8, slots := #[.int (-76)], vm := .none },
  { cls := 8, slots := #[.int (-75)], vm := .none },
  { cls := 8, slots := #[.int (-74)], vm := .none },
  { cls := 8, slots := #[.int (-73)], vm := .none },
  { cls := 8, slots := #[.int (-72)], vm := .none },
  { cls := 8, slots := #[.int (-71)], vm := .none },
  { cls := 8, slots := #[.int (-70)], vm := .none },
  { cls := 8, slots := #[.int (-69)], vm := .none },
  { cls := 8, slots := #[.int (-68)], vm := .none },
  { cls := 8, slots := #[.int (-67)], vm := .none },
  { cls := 8, slots := #[.int (-66)], vm := .none },
  { cls := 8, slots := #[.int (-65)], vm := .none },
  { cls := 8, slots := #[.int (-64)], vm := .none },
  { cls := 8, slots := #[.int (-63)], vm := .none },
  { cls := 8, slots := #[.int (-62)], vm := .none },
  { cls := 8, slots := #[.int (-61)], vm := .none },
  { cls := 8, slots := #[.int (-60)], vm := .none },
  { cls := 8, slots := #[.int (-59)], vm := .none },
  { cls := 8, slots := #[.int (-58)], vm := .none },
  { cls := 8, slots := #[.int (-57)], vm := .none },
  { cls := 8, slots := #[.int (-56)], vm := .none },
  { cls := 8, slots := #[.int (-55)], vm := .none },
  { cls := 8, slots := #[.int (-54)], vm := .none },
  { cls := 8, slots := #[.int (-53)], vm := .none },
  { cls := 8, slots := #[.int (-52)], vm := .none },
  { cls := 8, slots := #[.int (-51)], vm := .none },
  { cls := 8, slots := #[.int (-50)], vm := .none },
  { cls := 8, slots := #[.int (-49)], vm := .none },
  { cls := 8, slots := #[.int (-48)], vm := .none },
  { cls := 8, slots := #[.int (-47)], vm := .none },
  { cls := 8, slots := #[.int (-46)], vm := .none },
  { cls := 8, slots := #[.int (-45)], vm := .none },
  { cls := 8, slots := #[.int (-44)], vm := .none },
  { cls := 8, slots := #[.int (-43)], vm := .none },
  { cls := 8, slots := #[.int (-42)], vm := .none },
  { cls := 8, slots := #[.int (-41)], vm := .none },
  { cls := 8, slots := #[.int (-40)], vm := .none },
  { cls := 8, slots := #[.int (-39)], vm := .none },
  { cls := 8, slots := #[.int (-38)], vm := .none },
  { cls := 8, slots := #[.int (-37)], vm := .none },
  { cls := 8, slots := #[.int (-36)], vm := .none },
  { cls := 8, slots := #[.int (-35)], vm := .none },
  { cls := 8, slots := #[.int (-34)], vm := .none },
  { cls := 8, slots := #[.int (-33)], vm := .none },
  { cls := 8, slots := #[.int (-32)], vm := .none },
  { cls := 8, slots := #[.int (-31)], vm := .none },
  { cls := 8, slots := #[.int (-30)], vm := .none },
  { cls := 8, slots := #[.int (-29)], vm := .none },
  { cls := 8, slots := #[.int (-28)], vm := .none },
  { cls := 8, slots := #[.int (-27)], vm := .none },
  { cls := 8, slots := #[.int (-26)], vm := .none },
  { cls := 8, slots := #[.int (-25)], vm := .none },
  { cls := 8, slots := #[.int (-24)], vm := .none },
  { cls := 8, slots := #[.int (-23)], vm := .none },
  { cls := 8, slots := #[.int (-22)], vm := .none },
  { cls := 8, slots := #[.int (-21)], vm := .none },
  { cls := 8, slots := #[.int (-20)], vm := .none },
  { cls := 8, slots := #[.int (-19)], vm := .none },
  { cls := 8, slots := #[.int (-18)], vm := .none },
  { cls := 8, slots := #[.int (-17)], vm := .none },
  { cls := 8, slots := #[.int (-16)], vm := .none },
  { cls := 8, slots := #[.int (-15)], vm := .none },
  { cls := 8, slots := #[.int (-14)], vm := .none },
  { cls := 8, slots := #[.int (-13)], vm := .none },
  { cls := 8, slots := #[.int (-12)], vm := .none },
  { cls := 8, slots := #[.int (-11)], vm := .none },
  { cls := 8, slots := #[.int (-10)], vm := .none },
  { cls := 8, slots := #[.int (-9)], vm := .none },
  { cls := 8, slots := #[.int (-8)], vm := .none },
  { cls := 8, slots := #[.int (-7)], vm := .none },
  { cls := 8, slots := #[.int (-6)], vm := .none },
  { cls := 8, slots := #[.int (-5)], vm := .none },
  { cls := 8, slots := #[.int (-4)], vm := .none },
  { cls := 8, slots := #[.int (-3)], vm := .none },
  { cls := 8, slots := #[.int (-2)], vm := .none },
  { cls := 8, slots := #[.int (-1)], vm := .none },
  { cls := 8, slots := #[.int (0)], vm := .none },
  { cls := 8, slots := #[.int (1)], vm := .none },
  { cls := 8, slots := #[.int (2)], vm := .none },
  { cls := 8, slots := #[.int (3)], vm := .none },
  { cls := 8, slots := #[.int (4)], vm := .none },
  { cls := 8, slots := #[.int (5)], vm := .none },
  { cls := 8, slots := #[.int (6)], vm := .none },
  { cls := 8, slots := #[.int (7)], vm := .none },
  { cls := 8, slots := #[.int (8)], vm := .none },
  { cls := 8, slots := #[.int (9)], vm := .none },
  { cls := 8, slots := #[.int (10)], vm := .none },
  { cls := 8, slots := #[.int (11)], vm := .none },
  { cls := 8, slots := #[.int (12)], vm := .none },
  { cls := 8, slots := #[.int (13)], vm := .none },
  { cls := 8, slots := #[.int (14)], vm := .none },
  { cls := 8, slots := #[.int (15)], vm := .none },
  { cls := 8, slots := #[.int (16)], vm := .none },
  { cls := 8, slots := #[.int (17)], vm := .none },
  { cls := 8, slots := #[.int (18)], vm := .none },
  { cls := 8, slots := #[.int (19)], vm := .none },
  { cls := 8, slots := #[.int (20)], vm := .none },
  { cls := 8, slots := #[.int (21)], vm := .none },
  { cls := 8, slots := #[.int (22)], vm := .none },
  { cls := 8, slots := #[.int (23)], vm := .none },
  { cls := 8, slots := #[.int (24)], vm := .none },
  { cls := 8, slots := #[.int (25)], vm := .none },
  { cls := 8, slots := #[.int (26)], vm := .none },
  { cls := 8, slots := #[.int (27)], vm := .none },
  { cls := 8, slots := #[.int (28)], vm := .none },
  { cls := 8, slots := #[.int (29)], vm := .none },
  { cls := 8, slots := #[.int (30)], vm := .none },
  { cls := 8, slots := #[.int (31)], vm := .none },
  { cls := 8, slots := #[.int (32)], vm := .none },
  { cls := 8, slots := #[.int (33)], vm := .none },
  { cls := 8, slots := #[.int (34)], vm := .none },
  { cls := 8, slots := #[.int (35)], vm := .none },
  { cls := 8, slots := #[.int (36)], vm := .none },
  { cls := 8, slots := #[.int (37)], vm := .none },
  { cls := 8, slots := #[.int (38)], vm := .none },
  { cls := 8, slots := #[.int (39)], vm := .none },
  { cls := 8, slots := #[.int (40)], vm := .none },
  { cls := 8, slots := #[.int (41)], vm := .none },
  { cls := 8, slots := #[.int (42)], vm := .none },
  { cls := 8, slots := #[.int (43)], vm := .none },
  { cls := 8, slots := #[.int (44)], vm := .none },
  { cls := 8, slots := #[.int (45)], vm := .none },
  { cls := 8, slots := #[.int (46)], vm := .none },
  { cls := 8, slots := #[.int (47)], vm := .none },
  { cls := 8, slots := #[.int (48)], vm := .none },
  { cls := 8, slots := #[.int (49)], vm := .none },
  { cls := 8, slots := #[.int (50)], vm := .none },
  { cls := 8, slots := #[.int (51)], vm := .none },
  { cls := 8, slots := #[.int (52)], vm := .none },
  { cls := 8, slots := #[.int (53)], vm := .none },
  { cls := 8, slots := #[.int (54)], vm := .none },
  { cls := 8, slots := #[.int (55)], vm := .none },
  { cls := 8, slots := #[.int (56)], vm := .none },
  { cls := 8, slots := #[.int (57)], vm := .none },
  { cls := 8, slots := #[.int (58)], vm := .none },
  { cls := 8, slots := #[.int (59)], vm := .none },
  { cls := 8, slots := #[.int (60)], vm := .none },
  { cls := 8, slots := #[.int (61)], vm := .none },
  { cls := 8, slots := #[.int (62)], vm := .none },
  { cls := 8, slots := #[.int (63)], vm := .none },
  { cls := 8, slots := #[.int (64)], vm := .none },
  { cls := 8, slots := #[.int (65)], vm := .none },
  { cls := 8, slots := #[.int (66)], vm := .none },
  { cls := 8, slots := #[.int (67)], vm := .none },
  { cls := 8, slots := #[.int (68)], vm := .none },
  { cls := 8, slots := #[.int (69)], vm := .none },
  { cls := 8, slots := #[.int (70)], vm := .none },
  { cls := 8, slots := #[.int (71)], vm := .none },
  { cls := 8, slots := #[.int (72)], vm := .none },
  { cls := 8, slots := #[.int (73)], vm := .none },
  { cls := 8, slots := #[.int (74)], vm := .none },
  { cls := 8, slots := #[.int (75)], vm := .none },
  { cls := 8, slots := #[.int (76)], vm := .none },
  { cls := 8, slots := #[.int (77)], vm := .none },
  { cls := 8, slots := #[.int (78)], vm := .none },
  { cls := 8, slots := #[.int (79)], vm := .none },
  { cls := 8, slots := #[.int (80)], vm := .none },
  { cls := 8, slots := #[.int (81)], vm := .none },
  { cls := 8, slots := #[.int (82)], vm := .none },
  { cls := 8, slots := #[.int (83)], vm := .none },
  { cls := 8, slots := #[.int (84)], vm := .none },
  { cls := 8, slots := #[.int (85)], vm := .none },
  { cls := 8, slots := #[.int (86)], vm := .none },
  { cls := 8, slots := #[.int (87)], vm := .none },
  { cls := 8, slots := #[.int (88)], vm := .none },
  { cls := 8, slots := #[.int (89)], vm := .none },
  { cls := 8, slots := #[.int (90)], vm := .none },
  { cls := 8, slots := #[.int (91)], vm := .none },
  { cls := 8, slots := #[.int (92)], vm := .none },
  { cls := 8, slots := #[.int (93)], vm := .none },
  { cls := 8, slots := #[.int (94)], vm := .none },
  { cls := 8, slots := #[.int (95)], vm := .none },
  { cls := 8, slots := #[.int (96)], vm := .none },
  { cls := 8, slots := #[.int (97)], vm := .none },
  { cls := 8, slots := #[.int (98)], vm := .none },
  { cls := 8, slots := #[.int (99)], vm := .none },
  { cls := 8, slots := #[.int (100)], vm := .none },
  { cls := 8, slots := #[.int (101)], vm := .none },
  { cls := 8, slots := #[.int (102)], vm := .none },
  { cls := 8, slots := #[.int (103)], vm := .none },
  { cls := 8, slots := #[.int (104)], vm := .none },
  { cls := 8, slots := #[.int (105)], vm := .none },
  { cls := 8, slots := #[.int (106)], vm := .none },
  { cls := 8, slots := #[.int (107)], vm := .none },
  { cls := 8, slots := #[.int (108)], vm := .none },
  { cls := 8, slots := #[.int (109)], vm := .none },
  { cls := 8, slots := #[.int (110)], vm := .none },
  { cls := 8, slots := #[.int (111)], vm := .none },
  { cls := 8, slots := #[.int (112)], vm := .none },
  { cls := 8, slots := #[.int (113)], vm := .none },
  { cls := 8, slots := #[.int (114)], vm := .none },
  { cls := 8, slots := #[.int (115)], vm := .none },
  { cls := 8, slots := #[.int (116)], vm := .none },
  { cls := 8, slots := #[.int (117)], vm := .none },
  { cls := 8, slots := #[.int (118)], vm := .none },
  { cls := 8, slots := #[.int (119)], vm := .none },
  { cls := 8, slots := #[.int (120)], vm := .none },
  { cls := 8, slots := #[.int (121)], vm := .none },
  { cls := 8, slots := #[.int (122)], vm := .none },
  { cls := 8, slots := #[.int (123)], vm := .none },
  { cls := 8, slots := #[.int (124)], vm := .none },
  { cls := 8, slots := #[.int (125)], vm := .none },
  { cls := 8, slots := #[.int (126)], vm := .none },
  { cls := 8, slots := #[.int (127)], vm := .none }]
def classes : Array Class := #[k0, k1, k2, k3, k4, k5, k6, k7, k8, k9, k10, k11, k12, k13, k14, k15]
def interned : List (Array UInt16 × Addr) := []
def slotsUsed : Nat := 517
def theMethod : MethodId := ⟨1, 1⟩
def args0 : Array Value := #[.int 1, .int 2, .int 3, .int 4]
def aboutOver (below : List Frame) : State where
  vm := { classes := classes, interned := interned.toArray }
  heap := heap
  slotsUsed := slotsUsed
  threads := #[{ frames := .invoking theMethod args0 :: below }]
def below0 : List Frame := [.native { method := ⟨0, 0⟩, args := #[] }]
def about1 : State := aboutOver below0
def p0 : Program := .bare "" "" ""
def e0 : Env := launch0.env 0 0 0
theorem w_frames : about1.frames = Frame.invoking theMethod args0 :: below0 := rfl
set_option maxRecDepth 65536 in
theorem w_args : argsFit about1.vm theMethod args0 = true := by decide +kernel
set_option maxRecDepth 65536 in
theorem w_heap : heapFits about1 = true := by decide +kernel
set_option maxRecDepth 65536 in
theorem w_runnable : about1.curStatus? = some .runnable := by decide +kernel
set_option maxRecDepth 65536 in
theorem w_alone : about1.alone = true := by decide +kernel
set_option maxRecDepth 65536 in
theorem w_named : about1.methodNamed? x = some theMethod := by decide +kernel
set_option maxRecDepth 65536 in
theorem w_hears : about1.hears theMethod below0 = true := by decide +kernel
set_option maxRecDepth 65536 in
theorem w_ripe : about1.ripe theMethod args0 below0 = true := by decide +kernel
theorem w_running : about1.status = .running := rfl
set_option maxRecDepth 65536 in
theorem w_room : about1.hasRoom e0.platform room_1 = true :=
  launch0.hasRoom_least _ room_1 (by decide +kernel) (by decide +kernel) (by decide +kernel) (by decide +kernel) (by decide +kernel) (by decide +kernel)
theorem allAtoms_all (ts : List Jvm.Cond) (a : Array Jvm.Value) (st : Jvm.State) : (allAtoms ts).before a st = ts.all (fun c => c.before a st) := by
  induction ts with
  | nil => rfl
  | cons c t ih =>
    show (Jvm.Cond.and c (allAtoms t)).before a st = _
    rw [Jvm.Cond.before_and, ih, List.all_cons]
def words1 : List Jvm.Cond := Jvm.Cond.code x code maxLocals ret :: tables_1
/-- a 'code' word, met by the world's own term for the bytes: nothing is compared byte by byte -/
theorem code_word {y : MethodName} {bytes : ByteArray} {mx : Nat} {rt : Option FieldType} {a : Array Value} {s : State} {m : MethodId} {meth : Method} {c : Code} (h1 : s.methodNamed? y = some m) (h2 : s.vm.method? m = some meth) (h3 : meth.code = some c) (h4 : c.code = bytes)
    (h5 : (c.maxLocals == mx && c.exceptionTable.isEmpty && decide (c.maxStack ≤ mostOperands) && decide (meth.sig.returnType = rt) && !meth.locks && decide (parseMethodDescriptor y.desc = some meth.sig)) = true) : (Jvm.Cond.code y bytes mx rt).before a s = true := by
  simp only [Bool.and_eq_true, beq_iff_eq, Bool.not_eq_true', decide_eq_true_eq] at h5
  obtain ⟨⟨⟨⟨⟨g1, g2⟩, g3⟩, g4⟩, g5⟩, g6⟩ := h5
  simp [Cond.before, Cond.holds, Cond.value, h1, h2, h3, h4, g1, g2, g3, g4, g5, g6]
def isCode : Jvm.Cond → Bool
  | .code _ _ _ _ => true
  | _ => false
theorem all_split {L : List Jvm.Cond} {P : Jvm.Cond → Bool} (h1 : L.all (fun c => isCode c || P c) = true) (h2 : ∀ c ∈ L.filter isCode, P c = true) : L.all P = true := by
  refine List.all_eq_true.mpr fun c hc => ?_
  have h := List.all_eq_true.mp h1 c hc
  rcases Bool.eq_false_or_eq_true (isCode c) with hi | hi
  · exact h2 c (List.mem_filter.mpr ⟨hc, hi⟩)
  · simpa [hi] using h
set_option maxRecDepth 65536 in
theorem w_c0 : (Jvm.Cond.code x code maxLocals ret).before args0 about1 = true := code_word (m := ⟨1, 1⟩) (meth := k1m1) (c := k1c1) (by decide +kernel) rfl rfl rfl (by decide +kernel)
set_option maxRecDepth 65536 in
theorem w_c1 : (Jvm.Cond.code ({ cls := "com/example/feldspar/feldspar/algebra/SortKey", name := "<init>", desc := "(IZZ)V" } : Jvm.MethodName) prog_23_method_1_code (4 : Nat) (Option.none : Option Jvm.ClassFile.FieldType)).before args0 about1 = true := code_word (m := ⟨2, 0⟩) (meth := k2m0) (c := k2c0) (by decide +kernel) rfl rfl rfl (by decide +kernel)
set_option maxRecDepth 65536 in
theorem w_c2 : (Jvm.Cond.code ({ cls := "java/lang/Object", name := "<init>", desc := "()V" } : Jvm.MethodName) object_method_1_code (1 : Nat) (Option.none : Option Jvm.ClassFile.FieldType)).before args0 about1 = true := code_word (m := ⟨0, 0⟩) (meth := k0m0) (c := k0c0) (by decide +kernel) rfl rfl rfl (by decide +kernel)
set_option maxRecDepth 65536 in
theorem w_c3 : (Jvm.Cond.code ({ cls := "com/example/feldspar/feldspar/algebra/SortKey", name := "equals", desc := "(Ljava/lang/Object;)Z" } : Jvm.MethodName) prog_23_method_5_code (3 : Nat) (Option.some Jvm.ClassFile.FieldType.boolean)).before args0 about1 = true := code_word (m := ⟨2, 1⟩) (meth := k2m1) (c := k2c1) (by decide +kernel) rfl rfl rfl (by decide +kernel)
set_option maxRecDepth 65536 in
theorem w_c4 : (Jvm.Cond.code ({ cls := "java/lang/Integer", name := "valueOf", desc := "(I)Ljava/lang/Integer;" } : Jvm.MethodName) jdk_33_method_22_code (1 : Nat) (Option.some (Jvm.ClassFile.FieldType.object "java/lang/Integer"))).before args0 about1 = true := code_word (m := ⟨8, 0⟩) (meth := k8m0) (c := k8c0) (by decide +kernel) rfl rfl rfl (by decide +kernel)
set_option maxRecDepth 65536 in
theorem w_c5 : (Jvm.Cond.code ({ cls := "java/lang/Integer", name := "<init>", desc := "(I)V" } : Jvm.MethodName) jdk_33_method_23_code (2 : Nat) (Option.none : Option Jvm.ClassFile.FieldType)).before args0 about1 = true := code_word (m := ⟨8, 1⟩) (meth := k8m1) (c := k8c1) (by decide +kernel) rfl rfl rfl (by decide +kernel)
set_option maxRecDepth 65536 in
theorem w_c6 : (Jvm.Cond.code ({ cls := "java/lang/Number", name := "<init>", desc := "()V" } : Jvm.MethodName) jdk_18_method_1_code (1 : Nat) (Option.none : Option Jvm.ClassFile.FieldType)).before args0 about1 = true := code_word (m := ⟨4, 0⟩) (meth := k4m0) (c := k4c0) (by decide +kernel) rfl rfl rfl (by decide +kernel)
def codes1 : List Jvm.Cond := [Jvm.Cond.code x code maxLocals ret, Jvm.Cond.code ({ cls := "com/example/feldspar/feldspar/algebra/SortKey", name := "<init>", desc := "(IZZ)V" } : Jvm.MethodName) prog_23_method_1_code (4 : Nat) (Option.none : Option Jvm.ClassFile.FieldType), Jvm.Cond.code ({ cls := "java/lang/Object", name := "<init>", desc := "()V" } : Jvm.MethodName) object_method_1_code (1 : Nat) (Option.none : Option Jvm.ClassFile.FieldType), Jvm.Cond.code ({ cls := "com/example/feldspar/feldspar/algebra/SortKey", name := "equals", desc := "(Ljava/lang/Object;)Z" } : Jvm.MethodName) prog_23_method_5_code (3 : Nat) (Option.some Jvm.ClassFile.FieldType.boolean), Jvm.Cond.code ({ cls := "java/lang/Integer", name := "valueOf", desc := "(I)Ljava/lang/Integer;" } : Jvm.MethodName) jdk_33_method_22_code (1 : Nat) (Option.some (Jvm.ClassFile.FieldType.object "java/lang/Integer")), Jvm.Cond.code ({ cls := "java/lang/Integer", name := "<init>", desc := "(I)V" } : Jvm.MethodName) jdk_33_method_23_code (2 : Nat) (Option.none : Option Jvm.ClassFile.FieldType), Jvm.Cond.code ({ cls := "java/lang/Number", name := "<init>", desc := "()V" } : Jvm.MethodName) jdk_18_method_1_code (1 : Nat) (Option.none : Option Jvm.ClassFile.FieldType)]
set_option maxRecDepth 65536 in
theorem codes_eq : words1.filter isCode = codes1 := rfl
theorem w_codes : ∀ c ∈ words1.filter isCode, c.before args0 about1 = true := by
  rw [codes_eq]
  intro c hc
  simp only [codes1, List.mem_cons, List.not_mem_nil, or_false] at hc
  rcases hc with rfl | rfl | rfl | rfl | rfl | rfl | rfl
  · exact w_c0
  · exact w_c1
  · exact w_c2
  · exact w_c3
  · exact w_c4
  · exact w_c5
  · exact w_c6
set_option maxRecDepth 65536 in
theorem w_t1 : (words1.take 24).all (fun c => isCode c || c.before args0 about1) = true := by decide +kernel
set_option maxRecDepth 65536 in
theorem w_t2 : (words1.drop 24).all (fun c => isCode c || c.before args0 about1) = true := by decide +kernel
theorem w_tables : (allAtoms (Jvm.Cond.code x code maxLocals ret :: tables_1)).before args0 about1 = true := by
  rw [allAtoms_all]
  show words1.all (fun c => c.before args0 about1) = true
  refine all_split ?_ w_codes
  rw [← List.take_append_drop 24 words1, List.all_append, w_t1, w_t2]
  rfl
set_option maxRecDepth 65536 in
theorem w_rest : rest_1_c.before args0 about1 = true := by decide +kernel
set_option maxRecDepth 65536 in
theorem w_case : (Jvm.Cond.and given_1 narrow_1).before args0 about1 = true := by decide +kernel
theorem w_applies : (headSpec (Jvm.Cond.code x code maxLocals ret :: tables_1) room_1).applies x e0.platform about1 = true :=
  (Spec.applies_iff w_frames).mpr ⟨w_running, w_runnable, w_alone, w_named, w_hears, w_ripe, w_room, w_tables⟩
theorem atStart : AtStart classFile x code maxLocals ret World_1 tables_1 room_1 Calls_1 rest_1 Pre_1 launch0 p0 e0 about1 theMethod args0 below0 :=
  ⟨lists_1, trivial, launch0.admits_env _ _ _, launch0.least_env, fairChoices_fair.cas, fairChoices_fair.clock, w_frames, w_args, w_heap, w_applies, trivial, w_rest, w_case⟩
end start1
theorem witness_1 : WitnessClaimed_1 := ⟨start1.p0, start1.e0, start1.about1, start1.theMethod, start1.args0, start1.below0, start1.atStart⟩
end Jvm.Pilot.@@N@@
