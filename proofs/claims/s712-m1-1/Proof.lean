import JvmDerived
import JvmDerived.Pilot.@@N@@Statement
import JvmDerived.Pilot.@@N@@Code
set_option linter.unusedVariables false
set_option linter.unusedSimpArgs false
namespace Jvm.Pilot.@@N@@
open Jvm Jvm.ClassFile Sem Op Lib Jvm.Free Jvm.Stand Jvm.LawKit Jvm.RoadKit Bundle Jvm.Pilot.@@N@@.Jvm.D
/-- from the frame g over the state T the run comes to a return that Q allows, with at most kc new cells and ks new slots -/
def Go (p : Program) (e : Env) (below : List Frame) (s : State) (Q : Option Value → Heap → List Loc → Prop) (kc ks : Nat) (T : State) (g : JFrame) : Prop :=
  ∃ s₂ o, Steps p.tables e below (T.setTop g) s₂ ∧ s₂.status = .running ∧ Ended s₂ below o ∧ ∃ v L, o = .returned v ∧ Q v s₂.heap L ∧ FrameEnd s o s₂ L kc ks
/-- a body's contract in this family: called with these arguments over the heap h0 it returns what Q says -/
def Con (l : Launch) (Z : State) (y : MethodName) (bytes : ByteArray) (maxL : Nat) (ret : Option FieldType) (rm : Room) (ws : List Jvm.Cond) (as' : Array Value) (h0 : Heap) (Q : Option Value → Heap → List Loc → Prop) (kc ks : Nat) : Prop :=
  MetFree l y (head1 (Jvm.Cond.code y bytes maxL ret :: ws) rm) (fun a U => a = as' ∧ Z.Warmed39 U.vm ∧ U.heap = h0) (fun _ _ _ _ _ => True) (fun _ U o U' => ∃ v L, o = .returned v ∧ Q v U'.heap L ∧ FrameEnd U o U' L kc ks)
/-- it returns r and leaves the heap as it was -/
def Qret (r : Option Value) (h0 : Heap) (n0 : Nat) (v : Option Value) (h : Heap) (L : List Loc) : Prop := v = r ∧ Fr n0 L ∧ h = h0
/-- the law's own end: true; nothing old written -/
def Q0 (n0 : Nat) (v : Option Value) (h : Heap) (L : List Loc) : Prop := v = some (.int 1) ∧ Fr n0 L
theorem own_cI (x : Int32) : (Value.int x).category = 1 := rfl
theorem own_cJ (x : Int64) : (Value.long x).category = 2 := rfl
theorem own_cR (x : Addr) : (Value.ref x).category = 1 := rfl
theorem own_cN : (Value.null).category = 1 := rfl
section Own
variable {p : Program} {l : Launch} {e : Env} {R : Room} {s Z : State} {m : MethodId} {args : Array Value} {below : List Frame} {meth : Method} {c : Code} {T T' : State} {locs : List Loc} {cells slots kc ks : Nat} {Q : Option Value → Heap → List Loc → Prop} {g g' : JFrame} {h h' : Heap} {a : Addr} {C n d : String} {v : Value} {ws : List Addr}
theorem Con.of {y : MethodName} {bytes : ByteArray} {maxL : Nat} {ret : Option FieldType} {rm : Room} {cs : List Jvm.Cond} {as' : Array Value} {h0 : Heap} (hp : plainFor y = true)
    (body : ∀ p e s m below meth c s₁, Stand p l e rm s m as' below meth c s₁ [] 0 0 → p.tables.exec = Jvm.exec → Z.Warmed39 s.vm → c.code = bytes → c.maxLocals = maxL → s.vm.findClass y.cls = some m.cls → meth.name = y.name → meth.sig.returnType = ret → meth.locks = false → s₁.heap = h0 → s.heap = h0 → Go p e below s Q kc ks s₁ (entryFrame m as' maxL)) :
    Con l Z y bytes maxL ret rm cs as' h0 Q kc ks := by
  refine MetFree.of_bodySF hp hisR ?_
  intro p e s m args below meth c s₁ Bd hml0 hP hK
  obtain ⟨rfl, hZ, hh⟩ := hP
  exact body p e s m below meth c s₁ (Stand.of_body Bd) Bd.exec hZ Bd.bytes hml0 (findClass_of_methodNamed Bd.named) (name_of_methodNamed Bd.named Bd.method).1 Bd.returns Bd.notSynchronized (by rw [← hh, Bd.state]; rfl) hh
theorem Go.step (st : ∀ target, Steps p.tables e below (T'.setTop g') target → Steps p.tables e below (T.setTop g) target) (k : Go p e below s Q kc ks T' g') : Go p e below s Q kc ks T g := by
  obtain ⟨s₂, o, h1, h2⟩ := k
  exact ⟨s₂, o, st _ h1, h2⟩
theorem Go.cast (q : g = g') (k : Go p e below s Q kc ks T g') : Go p e below s Q kc ks T g := q ▸ k
theorem Go.ret (X : Stand p l e R s m args below meth c T locs cells slots) {v : Option Value} (hv : meth.sig.returnType = none → v = none) (hlk : meth.locks = false) (hq : Q v T.heap locs) (hc : cells ≤ kc) (hs : slots ≤ ks)
    (st : ∀ fs, (∀ (f : JFrame) (acts : List Action), f.method = m → f.locked = none → f.entered = [] → (doReturn e (T.setTop f) acts v).1 = T.setFrames fs) → Steps p.tables e below (T.setTop g) (T.setFrames fs)) : Go p e below s Q kc ks T g := by
  obtain ⟨fs, hr, hrun, hended, hW, hsame⟩ := X.leave (v := v) hv hlk
  exact ⟨_, _, st fs hr, hrun, hended, v, locs, rfl, hq, ⟨_, rfl⟩, hW, hsame.mono hc hs⟩
theorem Go.retN (X : Stand p l e R s m args below meth c T locs cells slots) (hx : p.tables.exec = Jvm.exec) {pc : Nat} {Ls : Array Slot} {z : Int32} {t : FieldType} {rest : List Value} (hret : meth.sig.returnType = some t) (hlk : meth.locks = false) (ht : t = .boolean ∨ t = .byte ∨ t = .char ∨ t = .short)
    (hd : decode c.code pc = .ok (.ireturn, 1)) (hq : Q (some (.int (nar t z))) T.heap locs) (hc : cells ≤ kc) (hs : slots ≤ ks) : Go p e below s Q kc ks T (mkF m pc Ls (.int z :: rest)) :=
  Go.ret X (fun q => by rw [hret] at q; cases q) hlk hq hc hs fun fs hr => Jvm.RoadKit.retN X hx hret ht hd hr
theorem Go.retI (X : Stand p l e R s m args below meth c T locs cells slots) (hx : p.tables.exec = Jvm.exec) {pc : Nat} {Ls : Array Slot} {z : Int32} {rest : List Value} (hret : meth.sig.returnType = some .int) (hlk : meth.locks = false)
    (hd : decode c.code pc = .ok (.ireturn, 1)) (hq : Q (some (.int z)) T.heap locs) (hc : cells ≤ kc) (hs : slots ≤ ks) : Go p e below s Q kc ks T (mkF m pc Ls (.int z :: rest)) :=
  Go.ret X (fun q => by rw [hret] at q; cases q) hlk hq hc hs fun fs hr => retOut X hx hret rfl (Or.inl ⟨rfl, Or.inl rfl, z, rfl⟩) hd hr
theorem Go.retJ (X : Stand p l e R s m args below meth c T locs cells slots) (hx : p.tables.exec = Jvm.exec) {pc : Nat} {Ls : Array Slot} {z : Int64} {rest : List Value} (hret : meth.sig.returnType = some .long) (hlk : meth.locks = false)
    (hd : decode c.code pc = .ok (.lreturn, 1)) (hq : Q (some (.long z)) T.heap locs) (hc : cells ≤ kc) (hs : slots ≤ ks) : Go p e below s Q kc ks T (mkF m pc Ls (.long z :: rest)) :=
  Go.ret X (fun q => by rw [hret] at q; cases q) hlk hq hc hs fun fs hr => retOut X hx hret rfl (Or.inr (Or.inl ⟨rfl, rfl, z, rfl⟩)) hd hr
theorem Go.retA (X : Stand p l e R s m args below meth c T locs cells slots) (hx : p.tables.exec = Jvm.exec) {pc : Nat} {Ls : Array Slot} {w : Value} {t : FieldType} {rest : List Value} (hret : meth.sig.returnType = some t) (ht : t.isReference = true) (hlk : meth.locks = false) (hw : w.isRef = true)
    (hd : decode c.code pc = .ok (.areturn, 1)) (hq : Q (some w) T.heap locs) (hc : cells ≤ kc) (hs : slots ≤ ks) : Go p e below s Q kc ks T (mkF m pc Ls (w :: rest)) :=
  Go.ret X (fun q => by rw [hret] at q; cases q) hlk hq hc hs fun fs hr => retOut X hx hret (by cases t <;> first | (cases ht; done) | (cases w <;> first | rfl | (cases hw; done))) (Or.inr (Or.inr (Or.inr (Or.inr ⟨rfl, ht, hw⟩)))) hd hr
theorem Go.retV (X : Stand p l e R s m args below meth c T locs cells slots) (hx : p.tables.exec = Jvm.exec) {pc : Nat} {Ls : Array Slot} (hret : meth.sig.returnType = none) (hlk : meth.locks = false)
    (hd : decode c.code pc = .ok (.return_, 1)) (hq : Q none T.heap locs) (hc : cells ≤ kc) (hs : slots ≤ ks) : Go p e below s Q kc ks T (mkF m pc Ls []) :=
  Go.ret X (fun _ => rfl) hlk hq hc hs fun fs hr => X.returnOut hx hret hd hr
theorem own_sta_keep (F : Sta Z h C n d v) (K : Keep h h' ws) (q : ∀ x ∈ ws, ∀ c : Cell, h[x]? = some c → c.vm.isStatics = false) : Sta Z h' C n d v := by
  obtain ⟨cf, i, k, f, st, cell, h1, h2, h3, h4, h5, h6, h7⟩ := F
  refine ⟨cf, i, k, f, st, cell, h1, h2, h3, h4, K.2.1 _ _ h5 (fun hm => ?_), h6, h7⟩
  have := q _ hm _ h5
  rw [h6] at this; cases this
theorem own_plain (E : Exa Z h a C) : ∀ c : Cell, h[a]? = some c → c.vm.isStatics = false := fun c hc => by
  obtain ⟨cell, k, h1, -, -, h4, -⟩ := E
  cases h1.symm.trans hc; exact h4
theorem own_eqI {args : Array Value} {s : State} {t : Term} {k : Int32} (q : (Jvm.Cond.eq t (Jvm.Term.int k)).value args s none s [] = some true) : t.eval args s none [] s = some (.int k) := by
  obtain ⟨x, y, hx, hy, kin, kin'⟩ := cmp_v (Or.inl q)
  have hy' : y = .int k := (Option.some.inj hy).symm
  subst hy'
  obtain ⟨z, rfl⟩ := kin'
  have e : (Jvm.Cond.eq t (Jvm.Term.int k)).value args s none s [] = some (decide (z = k)) := by simp [Cond.value, hx, hy]
  rw [hx, gotT e q]
theorem Con.ret {y : MethodName} {bytes : ByteArray} {maxL n0 : Nat} {ret : Option FieldType} {rm : Room} {cs : List Jvm.Cond} {as' : Array Value} {h0 h1 : Heap} {r r' : Int32} (q : r = r') (k : Con l Z y bytes maxL ret rm cs as' h0 (Qret (some (.int r)) h1 n0) kc ks) : Con l Z y bytes maxL ret rm cs as' h0 (Qret (some (.int r')) h1 n0) kc ks := q ▸ k
theorem own_arr_keep {cl : Cell} {ty : FieldType} (F : Arr Z h a cl ty) (K : Keep h h' ws) (q : a ∉ ws) : Arr Z h' a cl ty := ⟨K.2.1 a cl F.1 q, F.2⟩
/-- an object whose chain of classes lacks the class K is no K -/
theorem own_noins {a0 : Array Value} {K : String} {t : List String} {k : Nat} (E : Exa Z h a C) (hw : ∀ w ∈ Cond.chainWords (C :: t), w.before a0 Z = true) (wi : (Jvm.Cond.instantiable K k).before a0 Z = true) (hn : K ∉ C :: t) : Ins Z h a K false := by
  obtain ⟨cell, kc, h1, h2, -, h4, -⟩ := E
  obtain ⟨cy, ky, y1, y2, y3, y4, -⟩ := Cond.instantiable_spec wi
  have y5 : ky.isInterface = false := by simp only [Bool.or_eq_false_iff] at y4; exact y4.1
  exact ⟨cell, cy, h1, y1, by rw [Vm.notAssignable_of_chain h2 y1 y2 y3 y5 hw hn]; simp⟩
theorem own_len {args : Array Value} {t : Term} {cl : Cell} {ty : FieldType} {z : Int32} (ev : t.eval args Z none [] Z = some (.ref a)) (A : Arr Z Z.heap a cl ty) (el : (Jvm.Term.length t).eval args Z none [] Z = some (.int z)) : cl.slots.size < 2 ^ 31 ∧ cl.slots.size.toInt32 = z := by
  have ha := A.fin (Vm.Alike.refl _)
  by_cases q : cl.slots.size < 2 ^ 31
  · rw [len_f ev ha q] at el
    exact ⟨q, Value.int.inj (Option.some.inj el)⟩
  · simp [Term.eval, ev, ha, q] at el
theorem own_sub_at {args : Array Value} {t : Term} {idx : List Nat} {y k : Int32} (q : t.eval args Z none idx Z = some (.int y)) : (Jvm.Term.sub t (Jvm.Term.int k)).eval args Z none idx Z = some (.int (y - k)) := by simp [Term.eval, q]
theorem own_ifc {P P' : Prop} [Decidable P] [Decidable P'] (q : P ↔ P') : (if P then (1 : Int32) else 0) = if P' then 1 else 0 := by
  by_cases r : P
  · rw [if_pos r, if_pos (q.mp r)]
  · rw [if_neg r, if_neg (fun t => r (q.mpr t))]
theorem own_nf {a0 : Array Value} {y y' : MethodName} (w : (Cond.selects C y' y').before a0 Z = true) (q : y'.cls = y.cls) (hi : (Cond.instanceMethod y').before a0 Z = true) : NotFace Z y := fun r0 h0 => by
  obtain ⟨mk, meth', hn, -⟩ := Cond.instanceMethod_spec hi
  obtain ⟨k, hk, hki⟩ := notFace_of_selects w mk hn
  have t : mk.cls = r0.cls := Option.some.inj ((findClass_of_methodNamed hn).symm.trans (q ▸ findClass_of_methodNamed h0))
  rw [t] at hk; exact ⟨k, hk, hki⟩
theorem own_samem {a0 : Array Value} {y : MethodName} (d : (Cond.declares y).before a0 Z = true) (nf : NotFace Z y) (hy : y.cls ≠ "java/lang/invoke/MethodHandle" ∧ y.cls ≠ "java/lang/invoke/VarHandle") : (Cond.sameMethod y.cls y.cls y.name y.desc).before a0 Z = true := by
  obtain ⟨mm, meth', hn, -⟩ := Cond.declares_spec d
  obtain ⟨k, hk, hki⟩ := nf mm hn
  have hf := State.methodFound?_of_named hn hy
  have hc := findClass_of_methodNamed hn
  have hn' : Z.methodNamed? ⟨y.cls, y.name, y.desc⟩ = some mm := hn
  simp [Cond.before, Cond.holds, Cond.value, hc, hf, hn', hk, hki]
theorem own_selP {a0 : Array Value} {y : MethodName} (w : (Cond.selects C y y).before a0 Z = true) (hp : (Cond.privateMethod y).before a0 Z = true) (hi : (Cond.instanceMethod y).before a0 Z = true) (hy : y.cls ≠ "java/lang/invoke/MethodHandle" ∧ y.cls ≠ "java/lang/invoke/VarHandle") : (Cond.selects y.cls y y).before a0 Z = true := by
  obtain ⟨mk, meth', hn, -⟩ := Cond.instanceMethod_spec hi
  obtain ⟨k, hk, hki⟩ := notFace_of_selects w mk hn
  exact selects_self_of_private (findClass_of_methodNamed hn) hk hki (Cond.privateMethod_at hp) hi hy
theorem own_nfs {y : MethodName} (hZ : Z.Warmed39 s.vm) (nf : NotFace Z y) : NotFace s y := NotFace.move hZ.alike nf
theorem own_padr (n : Nat) {d : Value} : ∀ i, (List.replicate n d).getD i d = ([] : List Value).getD i d := fun i => by
  simp only [List.getD_eq_getElem?_getD, List.getElem?_replicate]
  split <;> rfl
end Own
theorem own_ef_jdk_37_method_2_code_R (m : MethodId) (x0 : Addr) : entryFrame m #[(.ref x0)] 1 = mkF m 0 #[.val (.ref x0)] [] := by first | (simp [entryFrame, mkF, argsToLocals, Value.category]; done) | rfl | (simp [entryFrame, mkF, argsToLocals, own_cI, own_cJ, own_cR, own_cN]; done)
theorem own_pn_Enum : plainName "java/lang/Enum" = true := by first | (simp [plainName, overriddenIn]; done) | decide +kernel
theorem d_jdk_37_method_2_0 : decode jdk_37_method_2_code 0 = .ok (.aload_n 0, 1) := by decide +kernel
theorem d_jdk_37_method_2_1 : decode jdk_37_method_2_code 1 = .ok (.getfield 7, 3) := by decide +kernel
theorem d_jdk_37_method_2_4 : decode jdk_37_method_2_code 4 = .ok (.ireturn, 1) := by decide +kernel
set_option maxRecDepth 65536 in
set_option maxHeartbeats 40000000 in
theorem own_ord (l : Launch) (Z : State) (a0 : Array Value) (hw : ∀ d ∈ tables_1, d.before a0 Z = true) (ws : List Jvm.Cond) (a1 : Addr) (q1 : Int32) (h0 : Heap) (n0 : Nat) (Z0 : n0 ≤ h0.size) (F1 : Fld Z h0 a1 "java/lang/Enum" "ordinal" "I" (.int q1)) :
    Con l Z (⟨"java/lang/Enum", "ordinal", "()I"⟩ : MethodName) jdk_37_method_2_code 1 (some .int) ({ frames := 0, cells := 0, slots := 0, locals := 0 } : Room) ws #[(.ref a1)] h0 (Qret (some (.int q1)) h0 n0) 0 0 := by
  refine Con.of (plainFor_of_name own_pn_Enum) ?_
  intro pgm e s m below meth c s₁ X0 hx hZ hby hml hown hnm hret hlk e0 hs0
  have N0 := Fr.nil n0
  have hown : s.vm.findClass "java/lang/Enum" = some m.cls := hown
  have hnm : meth.name = "ordinal" := hnm
  refine Go.cast (own_ef_jdk_37_method_2_code_R m a1) ?_
  refine Go.step (T' := s₁) (g' := (mkF m 1 #[.val (.ref a1)] [(.ref a1)])) (fun _ k => XS.aloadN X0.here hx rfl (hb hby d_jdk_37_method_2_0) rfl rfl k) ?_
  obtain ⟨T101, X101, e101, st101⟩ := getF X0 hx hZ hown (host := "") (Or.inl (hw _ (List.mem_of_getElem? (i := 58) rfl))) Via.refl e0 F1 (g := (mkF m 1 #[.val (.ref a1)] [(.ref a1)])) rfl rfl (hb hby d_jdk_37_method_2_1)
  refine Go.step (T' := T101) (g' := (mkF m 4 #[.val (.ref a1)] [(.int q1)])) st101 ?_
  exact Go.retI X101 hx hret hlk (hb hby d_jdk_37_method_2_4) (⟨rfl, N0, e101⟩) (by decide) (by decide)
theorem own_ef_prog_97_method_6_code_R (m : MethodId) (x0 : Addr) : entryFrame m #[(.ref x0)] 1 = mkF m 0 #[.val (.ref x0)] [] := by first | (simp [entryFrame, mkF, argsToLocals, Value.category]; done) | rfl | (simp [entryFrame, mkF, argsToLocals, own_cI, own_cJ, own_cR, own_cN]; done)
theorem own_pn_Setting : plainName "com/example/tuples_under_lock/tuplesunderlock/Setting" = true := by first | (simp [plainName, overriddenIn]; done) | decide +kernel
theorem d_prog_97_method_6_0 : decode prog_97_method_6_code 0 = .ok (.aload_n 0, 1) := by decide +kernel
theorem d_prog_97_method_6_1 : decode prog_97_method_6_code 1 = .ok (.getfield 33, 3) := by decide +kernel
theorem d_prog_97_method_6_4 : decode prog_97_method_6_code 4 = .ok (.ireturn, 1) := by decide +kernel
set_option maxRecDepth 65536 in
set_option maxHeartbeats 40000000 in
theorem own_dfv (l : Launch) (Z : State) (a0 : Array Value) (hw : ∀ d ∈ tables_1, d.before a0 Z = true) (ws : List Jvm.Cond) (a1 : Addr) (q1 : Int32) (h0 : Heap) (n0 : Nat) (Z0 : n0 ≤ h0.size) (F1 : Fld Z h0 a1 "com/example/tuples_under_lock/tuplesunderlock/Setting" "defaultValue" "I" (.int q1)) :
    Con l Z (⟨"com/example/tuples_under_lock/tuplesunderlock/Setting", "defaultValue", "()I"⟩ : MethodName) prog_97_method_6_code 1 (some .int) ({ frames := 0, cells := 0, slots := 0, locals := 0 } : Room) ws #[(.ref a1)] h0 (Qret (some (.int q1)) h0 n0) 0 0 := by
  refine Con.of (plainFor_of_name own_pn_Setting) ?_
  intro pgm e s m below meth c s₁ X0 hx hZ hby hml hown hnm hret hlk e0 hs0
  have N0 := Fr.nil n0
  have hown : s.vm.findClass "com/example/tuples_under_lock/tuplesunderlock/Setting" = some m.cls := hown
  have hnm : meth.name = "defaultValue" := hnm
  refine Go.cast (own_ef_prog_97_method_6_code_R m a1) ?_
  refine Go.step (T' := s₁) (g' := (mkF m 1 #[.val (.ref a1)] [(.ref a1)])) (fun _ k => XS.aloadN X0.here hx rfl (hb hby d_prog_97_method_6_0) rfl rfl k) ?_
  obtain ⟨T101, X101, e101, st101⟩ := getF X0 hx hZ hown (host := "") (Or.inl (hw _ (List.mem_of_getElem? (i := 44) rfl))) Via.refl e0 F1 (g := (mkF m 1 #[.val (.ref a1)] [(.ref a1)])) rfl rfl (hb hby d_prog_97_method_6_1)
  refine Go.step (T' := T101) (g' := (mkF m 4 #[.val (.ref a1)] [(.int q1)])) st101 ?_
  exact Go.retI X101 hx hret hlk (hb hby d_prog_97_method_6_4) (⟨rfl, N0, e101⟩) (by decide) (by decide)
def Qset (Z : State) (sa va : Addr) (ks kv : ClassId) (xs ys : List Value) (h0 : Heap) (n0 : Nat) (v : Option Value) (h : Heap) (L : List Loc) : Prop := v = none ∧ Fr n0 L ∧ Keep h0 h [sa, va] ∧ Arv Z h sa ks .int 2 xs (.int (0 : Int32)) ∧ Arv Z h va kv .int 2 ys (.int (0 : Int32))
def Qsetl (Z : State) (va : Addr) (kv : ClassId) (ys : List Value) (h0 : Heap) (n0 : Nat) (v : Option Value) (h : Heap) (L : List Loc) : Prop := v = none ∧ Fr n0 L ∧ Keep h0 h [va] ∧ Arv Z h va kv .int 2 ys (.int (0 : Int32))
theorem own_ef_prog_99_method_3_code_RRI (m : MethodId) (x0 : Addr) (x1 : Addr) (x2 : Int32) : entryFrame m #[(.ref x0), (.ref x1), (.int x2)] 3 = mkF m 0 #[.val (.ref x0), .val (.ref x1), .val (.int x2)] [] := by first | (simp [entryFrame, mkF, argsToLocals, Value.category]; done) | rfl | (simp [entryFrame, mkF, argsToLocals, own_cI, own_cJ, own_cR, own_cN]; done)
theorem own_pn_Settings : plainName "com/example/tuples_under_lock/tuplesunderlock/Settings" = true := by first | (simp [plainName, overriddenIn]; done) | decide +kernel
theorem d_prog_99_method_3_0 : decode prog_99_method_3_code 0 = .ok (.aload_n 0, 1) := by decide +kernel
theorem d_prog_99_method_3_1 : decode prog_99_method_3_code 1 = .ok (.getfield 13, 3) := by decide +kernel
theorem d_prog_99_method_3_4 : decode prog_99_method_3_code 4 = .ok (.aload_n 1, 1) := by decide +kernel
theorem d_prog_99_method_3_5 : decode prog_99_method_3_code 5 = .ok (.invokevirtual 23, 3) := by decide +kernel
theorem own_pd0 : parseMethodDescriptor "()I" = some ⟨[], some .int⟩ := by decide +kernel
theorem d_prog_99_method_3_8 : decode prog_99_method_3_code 8 = .ok (.iload_n 2, 1) := by decide +kernel
theorem d_prog_99_method_3_9 : decode prog_99_method_3_code 9 = .ok (.iastore, 1) := by decide +kernel
theorem d_prog_99_method_3_10 : decode prog_99_method_3_code 10 = .ok (.aload_n 0, 1) := by decide +kernel
theorem d_prog_99_method_3_11 : decode prog_99_method_3_code 11 = .ok (.getfield 17, 3) := by decide +kernel
theorem d_prog_99_method_3_14 : decode prog_99_method_3_code 14 = .ok (.aload_n 1, 1) := by decide +kernel
theorem d_prog_99_method_3_15 : decode prog_99_method_3_code 15 = .ok (.invokevirtual 23, 3) := by decide +kernel
theorem d_prog_99_method_3_18 : decode prog_99_method_3_code 18 = .ok (.iload_n 2, 1) := by decide +kernel
theorem d_prog_99_method_3_19 : decode prog_99_method_3_code 19 = .ok (.iastore, 1) := by decide +kernel
theorem d_prog_99_method_3_20 : decode prog_99_method_3_code 20 = .ok (.return_, 1) := by decide +kernel
set_option maxRecDepth 65536 in
set_option maxHeartbeats 40000000 in
theorem own_set0 (l : Launch) (Z : State) (a0 : Array Value) (hw : ∀ d ∈ tables_1, d.before a0 Z = true) (ws : List Jvm.Cond) (a1 a2 : Addr) (p : Int32) (sa va : Addr) (ks kv : ClassId) (x0 x1 y0 y1 : Value) (h0 : Heap) (n0 : Nat) (Z0 : n0 ≤ h0.size) (E1 : Exa Z h0 a1 "com/example/tuples_under_lock/tuplesunderlock/Settings") (E2 : Exa Z h0 a2 "com/example/tuples_under_lock/tuplesunderlock/Setting") (O2 : Fld Z h0 a2 "java/lang/Enum" "ordinal" "I" (.int (0 : Int32))) (G0 : Fld Z h0 a1 "com/example/tuples_under_lock/tuplesunderlock/Settings" "sessionValues" "[I" (.ref sa)) (G1 : Fld Z h0 a1 "com/example/tuples_under_lock/tuplesunderlock/Settings" "values" "[I" (.ref va)) (Es : Exa Z h0 sa "[I") (Ev : Exa Z h0 va "[I") (Vs : Arv Z h0 sa ks .int 2 [x0, x1] (.int (0 : Int32))) (Vv : Arv Z h0 va kv .int 2 [y0, y1] (.int (0 : Int32))) (nsv : sa ≠ va) (n1s : a1 ≠ sa) (n1v : a1 ≠ va) (n2s : a2 ≠ sa) (n2v : a2 ≠ va) (gs : n0 ≤ sa) (gv : n0 ≤ va) :
    Con l Z (⟨"com/example/tuples_under_lock/tuplesunderlock/Settings", "set", "(Lcom/example/tuples_under_lock/tuplesunderlock/Setting;I)V"⟩ : MethodName) prog_99_method_3_code 3 none ({ frames := 1, cells := 0, slots := 0, locals := 13 } : Room) ws #[(.ref a1), (.ref a2), (.int p)] h0 (Qset Z sa va ks kv [(.int p), x1] [(.int p), y1] h0 n0) 0 0 := by
  refine Con.of (plainFor_of_name own_pn_Settings) ?_
  intro pgm e s m below meth c s₁ X0 hx hZ hby hml hown hnm hret hlk e0 hs0
  have N0 := Fr.nil n0
  have hown : s.vm.findClass "com/example/tuples_under_lock/tuplesunderlock/Settings" = some m.cls := hown
  have hnm : meth.name = "set" := hnm
  refine Go.cast (own_ef_prog_99_method_3_code_RRI m a1 a2 p) ?_
  have K0 := Keep.refl h0 [sa, va]
  refine Go.step (T' := s₁) (g' := (mkF m 1 #[.val (.ref a1), .val (.ref a2), .val (.int p)] [(.ref a1)])) (fun _ k => XS.aloadN X0.here hx rfl (hb hby d_prog_99_method_3_0) rfl rfl k) ?_
  obtain ⟨T101, X101, e101, st101⟩ := getF X0 hx hZ hown (host := "") (Or.inl (hw _ (List.mem_of_getElem? (i := 12) rfl))) Via.refl e0 G0 (g := (mkF m 1 #[.val (.ref a1), .val (.ref a2), .val (.int p)] [(.ref a1)])) rfl rfl (hb hby d_prog_99_method_3_1)
  refine Go.step (T' := T101) (g' := (mkF m 4 #[.val (.ref a1), .val (.ref a2), .val (.int p)] [(.ref sa)])) st101 ?_
  refine Go.step (T' := T101) (g' := (mkF m 5 #[.val (.ref a1), .val (.ref a2), .val (.int p)] [(.ref a2), (.ref sa)])) (fun _ k => XS.aloadN X101.here hx rfl (hb hby d_prog_99_method_3_4) rfl rfl k) ?_
  obtain ⟨cq102, kq102, q102a, q102b, q102c⟩ := isOf hZ e101 E2
  obtain ⟨_, _, ⟨T102, L102, k102, n102⟩, -, X102, ⟨Lc102, hQ102, l102, y102, z102⟩, st102⟩ := X101.virtualBackUp hx (owner := "java/lang/Enum") (x := (⟨"com/example/tuples_under_lock/tuplesunderlock/Setting", "ordinal", "()I"⟩ : MethodName)) (y := (⟨"java/lang/Enum", "ordinal", "()I"⟩ : MethodName)) hown (mvT hZ (hw _ (List.mem_of_getElem? (i := 51) rfl))) (mvT hZ (hw _ (List.mem_of_getElem? (i := 52) rfl))) (mvT hZ (hw _ (List.mem_of_getElem? (i := 53) rfl))) (by decide) (mvT hZ (hw _ (List.mem_of_getElem? (i := 55) rfl))) (mvT hZ (hw _ (List.mem_of_getElem? (i := 54) rfl))) (backOf (W := 1) (Q := Qret (some (.int (0 : Int32))) h0 n0) (own_ord l Z a0 hw [] a2 (0 : Int32) h0 n0 Z0 O2) hZ (hw _ (List.mem_of_getElem? (i := 57) rfl)) (hw _ (List.mem_of_getElem? (i := 56) rfl)) (by decide) (by decide)) q102a q102c (g := (mkF m 5 #[.val (.ref a1), .val (.ref a2), .val (.int p)] [(.ref a2), (.ref sa)])) rfl (by rw [hml]; rfl) (Steps.refl _) (argsL := []) (rest := [(.ref sa)]) (lenOf own_pd0 rfl) rfl (by show 2 * 0 + _ ≤ _; exact Nat.le_of_eq rfl) (hb hby d_prog_99_method_3_5) (fun _ _ => ⟨rfl, e101, (by decide : 0 + 0 ≤ _), (by decide : 0 + 0 ≤ _)⟩)
  dsimp only [Pt.U, Pt.locs, Pt.cells, Pt.slots] at X102 l102 y102 z102 st102 hQ102
  subst l102 y102 z102
  obtain ⟨rfl, N102q, eh102⟩ := hQ102
  have N102 := Fr.app N0 N102q
  refine Go.step (T' := T102) (g' := (mkF m 8 #[.val (.ref a1), .val (.ref a2), .val (.int p)] [(.int (0 : Int32)), (.ref sa)])) (fun _ k => st102.trans k) ?_
  refine Go.step (T' := T102) (g' := (mkF m 9 #[.val (.ref a1), .val (.ref a2), .val (.int p)] [(.int p), (.int (0 : Int32)), (.ref sa)])) (fun _ k => XS.iloadN X102.here hx rfl (hb hby d_prog_99_method_3_8) rfl  k) ?_
  obtain ⟨cl103, Ar103, q103, S103, M103, H103, G103⟩ := id Vs
  obtain ⟨T103, h103, X103, e103, W103, st103⟩ := stI X102 hx hZ eh102 Ar103 (j := (0 : Int32)) (inb_of S103 (by decide)) (g := (mkF m 9 #[.val (.ref a1), .val (.ref a2), .val (.int p)] [(.int p), (.int (0 : Int32)), (.ref sa)])) rfl rfl (hb hby d_prog_99_method_3_9)
  have V103 : Arv Z h103 sa ks .int (2 : Int32) [(.int p), x1] (.int (0 : Int32)) := Arv.set Ar103 q103 S103 M103 H103 G103 rfl W103 0 rfl (by show 0 < 2; decide)
  have N103 := Fr.snoc X103 N102 gs
  have Z103 : n0 ≤ h103.size := Nat.le_trans Z0 (Keep.of_wr W103).1
  have K103 := K0.wr W103 (Or.inl (List.mem_of_getElem? (i := 0) rfl))
  have F104 := E1.wr W103
  have F105 := E2.wr W103
  have F106 := O2.other W103 (Or.inl n2s)
  have F107 := G0.other W103 (Or.inl n1s)
  have F108 := G1.other W103 (Or.inl n1s)
  have F109 := Es.wr W103
  have F110 := Ev.wr W103
  have F111 := Vv.other W103 (Ne.symm nsv)
  refine Go.step (T' := T103) (g' := (mkF m 10 #[.val (.ref a1), .val (.ref a2), .val (.int p)] [])) st103 ?_
  refine Go.step (T' := T103) (g' := (mkF m 11 #[.val (.ref a1), .val (.ref a2), .val (.int p)] [(.ref a1)])) (fun _ k => XS.aloadN X103.here hx rfl (hb hby d_prog_99_method_3_10) rfl rfl k) ?_
  obtain ⟨T112, X112, e112, st112⟩ := getF X103 hx hZ hown (host := "") (Or.inl (hw _ (List.mem_of_getElem? (i := 14) rfl))) Via.refl e103 F108 (g := (mkF m 11 #[.val (.ref a1), .val (.ref a2), .val (.int p)] [(.ref a1)])) rfl rfl (hb hby d_prog_99_method_3_11)
  refine Go.step (T' := T112) (g' := (mkF m 14 #[.val (.ref a1), .val (.ref a2), .val (.int p)] [(.ref va)])) st112 ?_
  refine Go.step (T' := T112) (g' := (mkF m 15 #[.val (.ref a1), .val (.ref a2), .val (.int p)] [(.ref a2), (.ref va)])) (fun _ k => XS.aloadN X112.here hx rfl (hb hby d_prog_99_method_3_14) rfl rfl k) ?_
  obtain ⟨cq113, kq113, q113a, q113b, q113c⟩ := isOf hZ e112 F105
  obtain ⟨_, _, ⟨T113, L113, k113, n113⟩, -, X113, ⟨Lc113, hQ113, l113, y113, z113⟩, st113⟩ := X112.virtualBackUp hx (owner := "java/lang/Enum") (x := (⟨"com/example/tuples_under_lock/tuplesunderlock/Setting", "ordinal", "()I"⟩ : MethodName)) (y := (⟨"java/lang/Enum", "ordinal", "()I"⟩ : MethodName)) hown (mvT hZ (hw _ (List.mem_of_getElem? (i := 51) rfl))) (mvT hZ (hw _ (List.mem_of_getElem? (i := 52) rfl))) (mvT hZ (hw _ (List.mem_of_getElem? (i := 53) rfl))) (by decide) (mvT hZ (hw _ (List.mem_of_getElem? (i := 55) rfl))) (mvT hZ (hw _ (List.mem_of_getElem? (i := 54) rfl))) (backOf (W := 1) (Q := Qret (some (.int (0 : Int32))) h103 n0) (own_ord l Z a0 hw [] a2 (0 : Int32) h103 n0 Z103 F106) hZ (hw _ (List.mem_of_getElem? (i := 57) rfl)) (hw _ (List.mem_of_getElem? (i := 56) rfl)) (by decide) (by decide)) q113a q113c (g := (mkF m 15 #[.val (.ref a1), .val (.ref a2), .val (.int p)] [(.ref a2), (.ref va)])) rfl (by rw [hml]; rfl) (Steps.refl _) (argsL := []) (rest := [(.ref va)]) (lenOf own_pd0 rfl) rfl (by show 2 * 0 + _ ≤ _; exact Nat.le_of_eq rfl) (hb hby d_prog_99_method_3_15) (fun _ _ => ⟨rfl, e112, (by decide : 0 + 0 ≤ _), (by decide : 0 + 0 ≤ _)⟩)
  dsimp only [Pt.U, Pt.locs, Pt.cells, Pt.slots] at X113 l113 y113 z113 st113 hQ113
  subst l113 y113 z113
  obtain ⟨rfl, N113q, eh113⟩ := hQ113
  have N113 := Fr.app N103 N113q
  refine Go.step (T' := T113) (g' := (mkF m 18 #[.val (.ref a1), .val (.ref a2), .val (.int p)] [(.int (0 : Int32)), (.ref va)])) (fun _ k => st113.trans k) ?_
  refine Go.step (T' := T113) (g' := (mkF m 19 #[.val (.ref a1), .val (.ref a2), .val (.int p)] [(.int p), (.int (0 : Int32)), (.ref va)])) (fun _ k => XS.iloadN X113.here hx rfl (hb hby d_prog_99_method_3_18) rfl  k) ?_
  obtain ⟨cl114, Ar114, q114, S114, M114, H114, G114⟩ := id F111
  obtain ⟨T114, h114, X114, e114, W114, st114⟩ := stI X113 hx hZ eh113 Ar114 (j := (0 : Int32)) (inb_of S114 (by decide)) (g := (mkF m 19 #[.val (.ref a1), .val (.ref a2), .val (.int p)] [(.int p), (.int (0 : Int32)), (.ref va)])) rfl rfl (hb hby d_prog_99_method_3_19)
  have V114 : Arv Z h114 va kv .int (2 : Int32) [(.int p), y1] (.int (0 : Int32)) := Arv.set Ar114 q114 S114 M114 H114 G114 rfl W114 0 rfl (by show 0 < 2; decide)
  have N114 := Fr.snoc X114 N113 gv
  have Z114 : n0 ≤ h114.size := Nat.le_trans Z103 (Keep.of_wr W114).1
  have K114 := K103.wr W114 (Or.inl (List.mem_of_getElem? (i := 1) rfl))
  have F115 := F104.wr W114
  have F116 := F105.wr W114
  have F117 := F106.other W114 (Or.inl n2v)
  have F118 := F107.other W114 (Or.inl n1v)
  have F119 := F108.other W114 (Or.inl n1v)
  have F120 := F109.wr W114
  have F121 := F110.wr W114
  have F122 := V103.other W114 nsv
  refine Go.step (T' := T114) (g' := (mkF m 20 #[.val (.ref a1), .val (.ref a2), .val (.int p)] [])) st114 ?_
  exact Go.retV X114 hx hret hlk (hb hby d_prog_99_method_3_20) (by rw [e114]; exact ⟨rfl, N114, K114, F122, V114⟩) (by decide) (by decide)
theorem own_ef_prog_99_method_4_code_RRI (m : MethodId) (x0 : Addr) (x1 : Addr) (x2 : Int32) : entryFrame m #[(.ref x0), (.ref x1), (.int x2)] 3 = mkF m 0 #[.val (.ref x0), .val (.ref x1), .val (.int x2)] [] := by first | (simp [entryFrame, mkF, argsToLocals, Value.category]; done) | rfl | (simp [entryFrame, mkF, argsToLocals, own_cI, own_cJ, own_cR, own_cN]; done)
theorem d_prog_99_method_4_0 : decode prog_99_method_4_code 0 = .ok (.aload_n 0, 1) := by decide +kernel
theorem d_prog_99_method_4_1 : decode prog_99_method_4_code 1 = .ok (.getfield 17, 3) := by decide +kernel
theorem d_prog_99_method_4_4 : decode prog_99_method_4_code 4 = .ok (.aload_n 1, 1) := by decide +kernel
theorem d_prog_99_method_4_5 : decode prog_99_method_4_code 5 = .ok (.invokevirtual 23, 3) := by decide +kernel
theorem d_prog_99_method_4_8 : decode prog_99_method_4_code 8 = .ok (.iload_n 2, 1) := by decide +kernel
theorem d_prog_99_method_4_9 : decode prog_99_method_4_code 9 = .ok (.iastore, 1) := by decide +kernel
theorem d_prog_99_method_4_10 : decode prog_99_method_4_code 10 = .ok (.return_, 1) := by decide +kernel
set_option maxRecDepth 65536 in
set_option maxHeartbeats 40000000 in
theorem own_setl0 (l : Launch) (Z : State) (a0 : Array Value) (hw : ∀ d ∈ tables_1, d.before a0 Z = true) (ws : List Jvm.Cond) (a1 a2 : Addr) (p : Int32) (sa va : Addr) (ks kv : ClassId) (x0 x1 y0 y1 : Value) (h0 : Heap) (n0 : Nat) (Z0 : n0 ≤ h0.size) (E1 : Exa Z h0 a1 "com/example/tuples_under_lock/tuplesunderlock/Settings") (E2 : Exa Z h0 a2 "com/example/tuples_under_lock/tuplesunderlock/Setting") (O2 : Fld Z h0 a2 "java/lang/Enum" "ordinal" "I" (.int (0 : Int32))) (G0 : Fld Z h0 a1 "com/example/tuples_under_lock/tuplesunderlock/Settings" "sessionValues" "[I" (.ref sa)) (G1 : Fld Z h0 a1 "com/example/tuples_under_lock/tuplesunderlock/Settings" "values" "[I" (.ref va)) (Es : Exa Z h0 sa "[I") (Ev : Exa Z h0 va "[I") (Vs : Arv Z h0 sa ks .int 2 [x0, x1] (.int (0 : Int32))) (Vv : Arv Z h0 va kv .int 2 [y0, y1] (.int (0 : Int32))) (nsv : sa ≠ va) (n1s : a1 ≠ sa) (n1v : a1 ≠ va) (n2s : a2 ≠ sa) (n2v : a2 ≠ va) (gs : n0 ≤ sa) (gv : n0 ≤ va) :
    Con l Z (⟨"com/example/tuples_under_lock/tuplesunderlock/Settings", "setLocal", "(Lcom/example/tuples_under_lock/tuplesunderlock/Setting;I)V"⟩ : MethodName) prog_99_method_4_code 3 none ({ frames := 1, cells := 0, slots := 0, locals := 13 } : Room) ws #[(.ref a1), (.ref a2), (.int p)] h0 (Qsetl Z va kv [(.int p), y1] h0 n0) 0 0 := by
  refine Con.of (plainFor_of_name own_pn_Settings) ?_
  intro pgm e s m below meth c s₁ X0 hx hZ hby hml hown hnm hret hlk e0 hs0
  have N0 := Fr.nil n0
  have hown : s.vm.findClass "com/example/tuples_under_lock/tuplesunderlock/Settings" = some m.cls := hown
  have hnm : meth.name = "setLocal" := hnm
  refine Go.cast (own_ef_prog_99_method_4_code_RRI m a1 a2 p) ?_
  have K0 := Keep.refl h0 [va]
  refine Go.step (T' := s₁) (g' := (mkF m 1 #[.val (.ref a1), .val (.ref a2), .val (.int p)] [(.ref a1)])) (fun _ k => XS.aloadN X0.here hx rfl (hb hby d_prog_99_method_4_0) rfl rfl k) ?_
  obtain ⟨T101, X101, e101, st101⟩ := getF X0 hx hZ hown (host := "") (Or.inl (hw _ (List.mem_of_getElem? (i := 14) rfl))) Via.refl e0 G1 (g := (mkF m 1 #[.val (.ref a1), .val (.ref a2), .val (.int p)] [(.ref a1)])) rfl rfl (hb hby d_prog_99_method_4_1)
  refine Go.step (T' := T101) (g' := (mkF m 4 #[.val (.ref a1), .val (.ref a2), .val (.int p)] [(.ref va)])) st101 ?_
  refine Go.step (T' := T101) (g' := (mkF m 5 #[.val (.ref a1), .val (.ref a2), .val (.int p)] [(.ref a2), (.ref va)])) (fun _ k => XS.aloadN X101.here hx rfl (hb hby d_prog_99_method_4_4) rfl rfl k) ?_
  obtain ⟨cq102, kq102, q102a, q102b, q102c⟩ := isOf hZ e101 E2
  obtain ⟨_, _, ⟨T102, L102, k102, n102⟩, -, X102, ⟨Lc102, hQ102, l102, y102, z102⟩, st102⟩ := X101.virtualBackUp hx (owner := "java/lang/Enum") (x := (⟨"com/example/tuples_under_lock/tuplesunderlock/Setting", "ordinal", "()I"⟩ : MethodName)) (y := (⟨"java/lang/Enum", "ordinal", "()I"⟩ : MethodName)) hown (mvT hZ (hw _ (List.mem_of_getElem? (i := 51) rfl))) (mvT hZ (hw _ (List.mem_of_getElem? (i := 52) rfl))) (mvT hZ (hw _ (List.mem_of_getElem? (i := 53) rfl))) (by decide) (mvT hZ (hw _ (List.mem_of_getElem? (i := 55) rfl))) (mvT hZ (hw _ (List.mem_of_getElem? (i := 54) rfl))) (backOf (W := 1) (Q := Qret (some (.int (0 : Int32))) h0 n0) (own_ord l Z a0 hw [] a2 (0 : Int32) h0 n0 Z0 O2) hZ (hw _ (List.mem_of_getElem? (i := 57) rfl)) (hw _ (List.mem_of_getElem? (i := 56) rfl)) (by decide) (by decide)) q102a q102c (g := (mkF m 5 #[.val (.ref a1), .val (.ref a2), .val (.int p)] [(.ref a2), (.ref va)])) rfl (by rw [hml]; rfl) (Steps.refl _) (argsL := []) (rest := [(.ref va)]) (lenOf own_pd0 rfl) rfl (by show 2 * 0 + _ ≤ _; exact Nat.le_of_eq rfl) (hb hby d_prog_99_method_4_5) (fun _ _ => ⟨rfl, e101, (by decide : 0 + 0 ≤ _), (by decide : 0 + 0 ≤ _)⟩)
  dsimp only [Pt.U, Pt.locs, Pt.cells, Pt.slots] at X102 l102 y102 z102 st102 hQ102
  subst l102 y102 z102
  obtain ⟨rfl, N102q, eh102⟩ := hQ102
  have N102 := Fr.app N0 N102q
  refine Go.step (T' := T102) (g' := (mkF m 8 #[.val (.ref a1), .val (.ref a2), .val (.int p)] [(.int (0 : Int32)), (.ref va)])) (fun _ k => st102.trans k) ?_
  refine Go.step (T' := T102) (g' := (mkF m 9 #[.val (.ref a1), .val (.ref a2), .val (.int p)] [(.int p), (.int (0 : Int32)), (.ref va)])) (fun _ k => XS.iloadN X102.here hx rfl (hb hby d_prog_99_method_4_8) rfl  k) ?_
  obtain ⟨cl103, Ar103, q103, S103, M103, H103, G103⟩ := id Vv
  obtain ⟨T103, h103, X103, e103, W103, st103⟩ := stI X102 hx hZ eh102 Ar103 (j := (0 : Int32)) (inb_of S103 (by decide)) (g := (mkF m 9 #[.val (.ref a1), .val (.ref a2), .val (.int p)] [(.int p), (.int (0 : Int32)), (.ref va)])) rfl rfl (hb hby d_prog_99_method_4_9)
  have V103 : Arv Z h103 va kv .int (2 : Int32) [(.int p), y1] (.int (0 : Int32)) := Arv.set Ar103 q103 S103 M103 H103 G103 rfl W103 0 rfl (by show 0 < 2; decide)
  have N103 := Fr.snoc X103 N102 gv
  have Z103 : n0 ≤ h103.size := Nat.le_trans Z0 (Keep.of_wr W103).1
  have K103 := K0.wr W103 (Or.inl (List.mem_of_getElem? (i := 0) rfl))
  have F104 := E1.wr W103
  have F105 := E2.wr W103
  have F106 := O2.other W103 (Or.inl n2v)
  have F107 := G0.other W103 (Or.inl n1v)
  have F108 := G1.other W103 (Or.inl n1v)
  have F109 := Es.wr W103
  have F110 := Ev.wr W103
  have F111 := Vs.other W103 nsv
  refine Go.step (T' := T103) (g' := (mkF m 10 #[.val (.ref a1), .val (.ref a2), .val (.int p)] [])) st103 ?_
  exact Go.retV X103 hx hret hlk (hb hby d_prog_99_method_4_10) (by rw [e103]; exact ⟨rfl, N103, K103, V103⟩) (by decide) (by decide)
theorem own_ef_prog_99_method_2_code_RR (m : MethodId) (x0 : Addr) (x1 : Addr) : entryFrame m #[(.ref x0), (.ref x1)] 2 = mkF m 0 #[.val (.ref x0), .val (.ref x1)] [] := by first | (simp [entryFrame, mkF, argsToLocals, Value.category]; done) | rfl | (simp [entryFrame, mkF, argsToLocals, own_cI, own_cJ, own_cR, own_cN]; done)
theorem d_prog_99_method_2_0 : decode prog_99_method_2_code 0 = .ok (.aload_n 0, 1) := by decide +kernel
theorem d_prog_99_method_2_1 : decode prog_99_method_2_code 1 = .ok (.getfield 17, 3) := by decide +kernel
theorem d_prog_99_method_2_4 : decode prog_99_method_2_code 4 = .ok (.aload_n 1, 1) := by decide +kernel
theorem d_prog_99_method_2_5 : decode prog_99_method_2_code 5 = .ok (.invokevirtual 23, 3) := by decide +kernel
theorem d_prog_99_method_2_8 : decode prog_99_method_2_code 8 = .ok (.iaload, 1) := by decide +kernel
theorem d_prog_99_method_2_9 : decode prog_99_method_2_code 9 = .ok (.ireturn, 1) := by decide +kernel
set_option maxRecDepth 65536 in
set_option maxHeartbeats 40000000 in
theorem own_get0 (l : Launch) (Z : State) (a0 : Array Value) (hw : ∀ d ∈ tables_1, d.before a0 Z = true) (ws : List Jvm.Cond) (a1 a2 va : Addr) (kv : ClassId) (y0 y1 : Int32) (h0 : Heap) (n0 : Nat) (Z0 : n0 ≤ h0.size) (E2 : Exa Z h0 a2 "com/example/tuples_under_lock/tuplesunderlock/Setting") (O2 : Fld Z h0 a2 "java/lang/Enum" "ordinal" "I" (.int (0 : Int32))) (G1 : Fld Z h0 a1 "com/example/tuples_under_lock/tuplesunderlock/Settings" "values" "[I" (.ref va)) (Vv : Arv Z h0 va kv .int 2 [(.int y0), (.int y1)] (.int (0 : Int32))) :
    Con l Z (⟨"com/example/tuples_under_lock/tuplesunderlock/Settings", "get", "(Lcom/example/tuples_under_lock/tuplesunderlock/Setting;)I"⟩ : MethodName) prog_99_method_2_code 2 (some .int) ({ frames := 1, cells := 0, slots := 0, locals := 13 } : Room) ws #[(.ref a1), (.ref a2)] h0 (Qret (some (.int y0)) h0 n0) 0 0 := by
  refine Con.of (plainFor_of_name own_pn_Settings) ?_
  intro pgm e s m below meth c s₁ X0 hx hZ hby hml hown hnm hret hlk e0 hs0
  have N0 := Fr.nil n0
  have hown : s.vm.findClass "com/example/tuples_under_lock/tuplesunderlock/Settings" = some m.cls := hown
  have hnm : meth.name = "get" := hnm
  refine Go.cast (own_ef_prog_99_method_2_code_RR m a1 a2) ?_
  refine Go.step (T' := s₁) (g' := (mkF m 1 #[.val (.ref a1), .val (.ref a2)] [(.ref a1)])) (fun _ k => XS.aloadN X0.here hx rfl (hb hby d_prog_99_method_2_0) rfl rfl k) ?_
  obtain ⟨T101, X101, e101, st101⟩ := getF X0 hx hZ hown (host := "") (Or.inl (hw _ (List.mem_of_getElem? (i := 14) rfl))) Via.refl e0 G1 (g := (mkF m 1 #[.val (.ref a1), .val (.ref a2)] [(.ref a1)])) rfl rfl (hb hby d_prog_99_method_2_1)
  refine Go.step (T' := T101) (g' := (mkF m 4 #[.val (.ref a1), .val (.ref a2)] [(.ref va)])) st101 ?_
  refine Go.step (T' := T101) (g' := (mkF m 5 #[.val (.ref a1), .val (.ref a2)] [(.ref a2), (.ref va)])) (fun _ k => XS.aloadN X101.here hx rfl (hb hby d_prog_99_method_2_4) rfl rfl k) ?_
  obtain ⟨cq102, kq102, q102a, q102b, q102c⟩ := isOf hZ e101 E2
  obtain ⟨_, _, ⟨T102, L102, k102, n102⟩, -, X102, ⟨Lc102, hQ102, l102, y102, z102⟩, st102⟩ := X101.virtualBackUp hx (owner := "java/lang/Enum") (x := (⟨"com/example/tuples_under_lock/tuplesunderlock/Setting", "ordinal", "()I"⟩ : MethodName)) (y := (⟨"java/lang/Enum", "ordinal", "()I"⟩ : MethodName)) hown (mvT hZ (hw _ (List.mem_of_getElem? (i := 51) rfl))) (mvT hZ (hw _ (List.mem_of_getElem? (i := 52) rfl))) (mvT hZ (hw _ (List.mem_of_getElem? (i := 53) rfl))) (by decide) (mvT hZ (hw _ (List.mem_of_getElem? (i := 55) rfl))) (mvT hZ (hw _ (List.mem_of_getElem? (i := 54) rfl))) (backOf (W := 1) (Q := Qret (some (.int (0 : Int32))) h0 n0) (own_ord l Z a0 hw [] a2 (0 : Int32) h0 n0 Z0 O2) hZ (hw _ (List.mem_of_getElem? (i := 57) rfl)) (hw _ (List.mem_of_getElem? (i := 56) rfl)) (by decide) (by decide)) q102a q102c (g := (mkF m 5 #[.val (.ref a1), .val (.ref a2)] [(.ref a2), (.ref va)])) rfl (by rw [hml]; rfl) (Steps.refl _) (argsL := []) (rest := [(.ref va)]) (lenOf own_pd0 rfl) rfl (by show 2 * 0 + _ ≤ _; exact Nat.le_of_eq rfl) (hb hby d_prog_99_method_2_5) (fun _ _ => ⟨rfl, e101, (by decide : 0 + 0 ≤ _), (by decide : 0 + 0 ≤ _)⟩)
  dsimp only [Pt.U, Pt.locs, Pt.cells, Pt.slots] at X102 l102 y102 z102 st102 hQ102
  subst l102 y102 z102
  obtain ⟨rfl, N102q, eh102⟩ := hQ102
  have N102 := Fr.app N0 N102q
  refine Go.step (T' := T102) (g' := (mkF m 8 #[.val (.ref a1), .val (.ref a2)] [(.int (0 : Int32)), (.ref va)])) (fun _ k => st102.trans k) ?_
  obtain ⟨cl103, Ar103, q103, S103, M103, H103, G103⟩ := id Vv
  have I103 := inb_of (j := (0 : Int32)) S103 (by decide)
  refine Go.step (T' := T102) (g' := (mkF m 9 #[.val (.ref a1), .val (.ref a2)] [(.int y0)])) (fun _ k => X102.iaload hx (j := (0 : Int32)) (v := (.int y0)) (by rw [eh102]; exact Ar103.1) (State.isArrayOf_alike hZ.alike Ar103.2.1) Ar103.2.2 I103 (Has.at H103 I103 rfl) (g := (mkF m 8 #[.val (.ref a1), .val (.ref a2)] [(.int (0 : Int32)), (.ref va)])) rfl rfl (hb hby d_prog_99_method_2_8) _ k) ?_
  exact Go.retI X102 hx hret hlk (hb hby d_prog_99_method_2_9) (⟨rfl, N102, eh102⟩) (by decide) (by decide)
set_option maxRecDepth 65536 in
set_option maxHeartbeats 40000000 in
theorem own_set1 (l : Launch) (Z : State) (a0 : Array Value) (hw : ∀ d ∈ tables_1, d.before a0 Z = true) (ws : List Jvm.Cond) (a1 a2 : Addr) (p : Int32) (sa va : Addr) (ks kv : ClassId) (x0 x1 y0 y1 : Value) (h0 : Heap) (n0 : Nat) (Z0 : n0 ≤ h0.size) (E1 : Exa Z h0 a1 "com/example/tuples_under_lock/tuplesunderlock/Settings") (E2 : Exa Z h0 a2 "com/example/tuples_under_lock/tuplesunderlock/Setting") (O2 : Fld Z h0 a2 "java/lang/Enum" "ordinal" "I" (.int (1 : Int32))) (G0 : Fld Z h0 a1 "com/example/tuples_under_lock/tuplesunderlock/Settings" "sessionValues" "[I" (.ref sa)) (G1 : Fld Z h0 a1 "com/example/tuples_under_lock/tuplesunderlock/Settings" "values" "[I" (.ref va)) (Es : Exa Z h0 sa "[I") (Ev : Exa Z h0 va "[I") (Vs : Arv Z h0 sa ks .int 2 [x0, x1] (.int (0 : Int32))) (Vv : Arv Z h0 va kv .int 2 [y0, y1] (.int (0 : Int32))) (nsv : sa ≠ va) (n1s : a1 ≠ sa) (n1v : a1 ≠ va) (n2s : a2 ≠ sa) (n2v : a2 ≠ va) (gs : n0 ≤ sa) (gv : n0 ≤ va) :
    Con l Z (⟨"com/example/tuples_under_lock/tuplesunderlock/Settings", "set", "(Lcom/example/tuples_under_lock/tuplesunderlock/Setting;I)V"⟩ : MethodName) prog_99_method_3_code 3 none ({ frames := 1, cells := 0, slots := 0, locals := 13 } : Room) ws #[(.ref a1), (.ref a2), (.int p)] h0 (Qset Z sa va ks kv [x0, (.int p)] [y0, (.int p)] h0 n0) 0 0 := by
  refine Con.of (plainFor_of_name own_pn_Settings) ?_
  intro pgm e s m below meth c s₁ X0 hx hZ hby hml hown hnm hret hlk e0 hs0
  have N0 := Fr.nil n0
  have hown : s.vm.findClass "com/example/tuples_under_lock/tuplesunderlock/Settings" = some m.cls := hown
  have hnm : meth.name = "set" := hnm
  refine Go.cast (own_ef_prog_99_method_3_code_RRI m a1 a2 p) ?_
  have K0 := Keep.refl h0 [sa, va]
  refine Go.step (T' := s₁) (g' := (mkF m 1 #[.val (.ref a1), .val (.ref a2), .val (.int p)] [(.ref a1)])) (fun _ k => XS.aloadN X0.here hx rfl (hb hby d_prog_99_method_3_0) rfl rfl k) ?_
  obtain ⟨T101, X101, e101, st101⟩ := getF X0 hx hZ hown (host := "") (Or.inl (hw _ (List.mem_of_getElem? (i := 12) rfl))) Via.refl e0 G0 (g := (mkF m 1 #[.val (.ref a1), .val (.ref a2), .val (.int p)] [(.ref a1)])) rfl rfl (hb hby d_prog_99_method_3_1)
  refine Go.step (T' := T101) (g' := (mkF m 4 #[.val (.ref a1), .val (.ref a2), .val (.int p)] [(.ref sa)])) st101 ?_
  refine Go.step (T' := T101) (g' := (mkF m 5 #[.val (.ref a1), .val (.ref a2), .val (.int p)] [(.ref a2), (.ref sa)])) (fun _ k => XS.aloadN X101.here hx rfl (hb hby d_prog_99_method_3_4) rfl rfl k) ?_
  obtain ⟨cq102, kq102, q102a, q102b, q102c⟩ := isOf hZ e101 E2
  obtain ⟨_, _, ⟨T102, L102, k102, n102⟩, -, X102, ⟨Lc102, hQ102, l102, y102, z102⟩, st102⟩ := X101.virtualBackUp hx (owner := "java/lang/Enum") (x := (⟨"com/example/tuples_under_lock/tuplesunderlock/Setting", "ordinal", "()I"⟩ : MethodName)) (y := (⟨"java/lang/Enum", "ordinal", "()I"⟩ : MethodName)) hown (mvT hZ (hw _ (List.mem_of_getElem? (i := 51) rfl))) (mvT hZ (hw _ (List.mem_of_getElem? (i := 52) rfl))) (mvT hZ (hw _ (List.mem_of_getElem? (i := 53) rfl))) (by decide) (mvT hZ (hw _ (List.mem_of_getElem? (i := 55) rfl))) (mvT hZ (hw _ (List.mem_of_getElem? (i := 54) rfl))) (backOf (W := 1) (Q := Qret (some (.int (1 : Int32))) h0 n0) (own_ord l Z a0 hw [] a2 (1 : Int32) h0 n0 Z0 O2) hZ (hw _ (List.mem_of_getElem? (i := 57) rfl)) (hw _ (List.mem_of_getElem? (i := 56) rfl)) (by decide) (by decide)) q102a q102c (g := (mkF m 5 #[.val (.ref a1), .val (.ref a2), .val (.int p)] [(.ref a2), (.ref sa)])) rfl (by rw [hml]; rfl) (Steps.refl _) (argsL := []) (rest := [(.ref sa)]) (lenOf own_pd0 rfl) rfl (by show 2 * 0 + _ ≤ _; exact Nat.le_of_eq rfl) (hb hby d_prog_99_method_3_5) (fun _ _ => ⟨rfl, e101, (by decide : 0 + 0 ≤ _), (by decide : 0 + 0 ≤ _)⟩)
  dsimp only [Pt.U, Pt.locs, Pt.cells, Pt.slots] at X102 l102 y102 z102 st102 hQ102
  subst l102 y102 z102
  obtain ⟨rfl, N102q, eh102⟩ := hQ102
  have N102 := Fr.app N0 N102q
  refine Go.step (T' := T102) (g' := (mkF m 8 #[.val (.ref a1), .val (.ref a2), .val (.int p)] [(.int (1 : Int32)), (.ref sa)])) (fun _ k => st102.trans k) ?_
  refine Go.step (T' := T102) (g' := (mkF m 9 #[.val (.ref a1), .val (.ref a2), .val (.int p)] [(.int p), (.int (1 : Int32)), (.ref sa)])) (fun _ k => XS.iloadN X102.here hx rfl (hb hby d_prog_99_method_3_8) rfl  k) ?_
  obtain ⟨cl103, Ar103, q103, S103, M103, H103, G103⟩ := id Vs
  obtain ⟨T103, h103, X103, e103, W103, st103⟩ := stI X102 hx hZ eh102 Ar103 (j := (1 : Int32)) (inb_of S103 (by decide)) (g := (mkF m 9 #[.val (.ref a1), .val (.ref a2), .val (.int p)] [(.int p), (.int (1 : Int32)), (.ref sa)])) rfl rfl (hb hby d_prog_99_method_3_9)
  have V103 : Arv Z h103 sa ks .int (2 : Int32) [x0, (.int p)] (.int (0 : Int32)) := Arv.set Ar103 q103 S103 M103 H103 G103 rfl W103 1 rfl (by show 1 < 2; decide)
  have N103 := Fr.snoc X103 N102 gs
  have Z103 : n0 ≤ h103.size := Nat.le_trans Z0 (Keep.of_wr W103).1
  have K103 := K0.wr W103 (Or.inl (List.mem_of_getElem? (i := 0) rfl))
  have F104 := E1.wr W103
  have F105 := E2.wr W103
  have F106 := O2.other W103 (Or.inl n2s)
  have F107 := G0.other W103 (Or.inl n1s)
  have F108 := G1.other W103 (Or.inl n1s)
  have F109 := Es.wr W103
  have F110 := Ev.wr W103
  have F111 := Vv.other W103 (Ne.symm nsv)
  refine Go.step (T' := T103) (g' := (mkF m 10 #[.val (.ref a1), .val (.ref a2), .val (.int p)] [])) st103 ?_
  refine Go.step (T' := T103) (g' := (mkF m 11 #[.val (.ref a1), .val (.ref a2), .val (.int p)] [(.ref a1)])) (fun _ k => XS.aloadN X103.here hx rfl (hb hby d_prog_99_method_3_10) rfl rfl k) ?_
  obtain ⟨T112, X112, e112, st112⟩ := getF X103 hx hZ hown (host := "") (Or.inl (hw _ (List.mem_of_getElem? (i := 14) rfl))) Via.refl e103 F108 (g := (mkF m 11 #[.val (.ref a1), .val (.ref a2), .val (.int p)] [(.ref a1)])) rfl rfl (hb hby d_prog_99_method_3_11)
  refine Go.step (T' := T112) (g' := (mkF m 14 #[.val (.ref a1), .val (.ref a2), .val (.int p)] [(.ref va)])) st112 ?_
  refine Go.step (T' := T112) (g' := (mkF m 15 #[.val (.ref a1), .val (.ref a2), .val (.int p)] [(.ref a2), (.ref va)])) (fun _ k => XS.aloadN X112.here hx rfl (hb hby d_prog_99_method_3_14) rfl rfl k) ?_
  obtain ⟨cq113, kq113, q113a, q113b, q113c⟩ := isOf hZ e112 F105
  obtain ⟨_, _, ⟨T113, L113, k113, n113⟩, -, X113, ⟨Lc113, hQ113, l113, y113, z113⟩, st113⟩ := X112.virtualBackUp hx (owner := "java/lang/Enum") (x := (⟨"com/example/tuples_under_lock/tuplesunderlock/Setting", "ordinal", "()I"⟩ : MethodName)) (y := (⟨"java/lang/Enum", "ordinal", "()I"⟩ : MethodName)) hown (mvT hZ (hw _ (List.mem_of_getElem? (i := 51) rfl))) (mvT hZ (hw _ (List.mem_of_getElem? (i := 52) rfl))) (mvT hZ (hw _ (List.mem_of_getElem? (i := 53) rfl))) (by decide) (mvT hZ (hw _ (List.mem_of_getElem? (i := 55) rfl))) (mvT hZ (hw _ (List.mem_of_getElem? (i := 54) rfl))) (backOf (W := 1) (Q := Qret (some (.int (1 : Int32))) h103 n0) (own_ord l Z a0 hw [] a2 (1 : Int32) h103 n0 Z103 F106) hZ (hw _ (List.mem_of_getElem? (i := 57) rfl)) (hw _ (List.mem_of_getElem? (i := 56) rfl)) (by decide) (by decide)) q113a q113c (g := (mkF m 15 #[.val (.ref a1), .val (.ref a2), .val (.int p)] [(.ref a2), (.ref va)])) rfl (by rw [hml]; rfl) (Steps.refl _) (argsL := []) (rest := [(.ref va)]) (lenOf own_pd0 rfl) rfl (by show 2 * 0 + _ ≤ _; exact Nat.le_of_eq rfl) (hb hby d_prog_99_method_3_15) (fun _ _ => ⟨rfl, e112, (by decide : 0 + 0 ≤ _), (by decide : 0 + 0 ≤ _)⟩)
  dsimp only [Pt.U, Pt.locs, Pt.cells, Pt.slots] at X113 l113 y113 z113 st113 hQ113
  subst l113 y113 z113
  obtain ⟨rfl, N113q, eh113⟩ := hQ113
  have N113 := Fr.app N103 N113q
  refine Go.step (T' := T113) (g' := (mkF m 18 #[.val (.ref a1), .val (.ref a2), .val (.int p)] [(.int (1 : Int32)), (.ref va)])) (fun _ k => st113.trans k) ?_
  refine Go.step (T' := T113) (g' := (mkF m 19 #[.val (.ref a1), .val (.ref a2), .val (.int p)] [(.int p), (.int (1 : Int32)), (.ref va)])) (fun _ k => XS.iloadN X113.here hx rfl (hb hby d_prog_99_method_3_18) rfl  k) ?_
  obtain ⟨cl114, Ar114, q114, S114, M114, H114, G114⟩ := id F111
  obtain ⟨T114, h114, X114, e114, W114, st114⟩ := stI X113 hx hZ eh113 Ar114 (j := (1 : Int32)) (inb_of S114 (by decide)) (g := (mkF m 19 #[.val (.ref a1), .val (.ref a2), .val (.int p)] [(.int p), (.int (1 : Int32)), (.ref va)])) rfl rfl (hb hby d_prog_99_method_3_19)
  have V114 : Arv Z h114 va kv .int (2 : Int32) [y0, (.int p)] (.int (0 : Int32)) := Arv.set Ar114 q114 S114 M114 H114 G114 rfl W114 1 rfl (by show 1 < 2; decide)
  have N114 := Fr.snoc X114 N113 gv
  have Z114 : n0 ≤ h114.size := Nat.le_trans Z103 (Keep.of_wr W114).1
  have K114 := K103.wr W114 (Or.inl (List.mem_of_getElem? (i := 1) rfl))
  have F115 := F104.wr W114
  have F116 := F105.wr W114
  have F117 := F106.other W114 (Or.inl n2v)
  have F118 := F107.other W114 (Or.inl n1v)
  have F119 := F108.other W114 (Or.inl n1v)
  have F120 := F109.wr W114
  have F121 := F110.wr W114
  have F122 := V103.other W114 nsv
  refine Go.step (T' := T114) (g' := (mkF m 20 #[.val (.ref a1), .val (.ref a2), .val (.int p)] [])) st114 ?_
  exact Go.retV X114 hx hret hlk (hb hby d_prog_99_method_3_20) (by rw [e114]; exact ⟨rfl, N114, K114, F122, V114⟩) (by decide) (by decide)
set_option maxRecDepth 65536 in
set_option maxHeartbeats 40000000 in
theorem own_setl1 (l : Launch) (Z : State) (a0 : Array Value) (hw : ∀ d ∈ tables_1, d.before a0 Z = true) (ws : List Jvm.Cond) (a1 a2 : Addr) (p : Int32) (sa va : Addr) (ks kv : ClassId) (x0 x1 y0 y1 : Value) (h0 : Heap) (n0 : Nat) (Z0 : n0 ≤ h0.size) (E1 : Exa Z h0 a1 "com/example/tuples_under_lock/tuplesunderlock/Settings") (E2 : Exa Z h0 a2 "com/example/tuples_under_lock/tuplesunderlock/Setting") (O2 : Fld Z h0 a2 "java/lang/Enum" "ordinal" "I" (.int (1 : Int32))) (G0 : Fld Z h0 a1 "com/example/tuples_under_lock/tuplesunderlock/Settings" "sessionValues" "[I" (.ref sa)) (G1 : Fld Z h0 a1 "com/example/tuples_under_lock/tuplesunderlock/Settings" "values" "[I" (.ref va)) (Es : Exa Z h0 sa "[I") (Ev : Exa Z h0 va "[I") (Vs : Arv Z h0 sa ks .int 2 [x0, x1] (.int (0 : Int32))) (Vv : Arv Z h0 va kv .int 2 [y0, y1] (.int (0 : Int32))) (nsv : sa ≠ va) (n1s : a1 ≠ sa) (n1v : a1 ≠ va) (n2s : a2 ≠ sa) (n2v : a2 ≠ va) (gs : n0 ≤ sa) (gv : n0 ≤ va) :
    Con l Z (⟨"com/example/tuples_under_lock/tuplesunderlock/Settings", "setLocal", "(Lcom/example/tuples_under_lock/tuplesunderlock/Setting;I)V"⟩ : MethodName) prog_99_method_4_code 3 none ({ frames := 1, cells := 0, slots := 0, locals := 13 } : Room) ws #[(.ref a1), (.ref a2), (.int p)] h0 (Qsetl Z va kv [y0, (.int p)] h0 n0) 0 0 := by
  refine Con.of (plainFor_of_name own_pn_Settings) ?_
  intro pgm e s m below meth c s₁ X0 hx hZ hby hml hown hnm hret hlk e0 hs0
  have N0 := Fr.nil n0
  have hown : s.vm.findClass "com/example/tuples_under_lock/tuplesunderlock/Settings" = some m.cls := hown
  have hnm : meth.name = "setLocal" := hnm
  refine Go.cast (own_ef_prog_99_method_4_code_RRI m a1 a2 p) ?_
  have K0 := Keep.refl h0 [va]
  refine Go.step (T' := s₁) (g' := (mkF m 1 #[.val (.ref a1), .val (.ref a2), .val (.int p)] [(.ref a1)])) (fun _ k => XS.aloadN X0.here hx rfl (hb hby d_prog_99_method_4_0) rfl rfl k) ?_
  obtain ⟨T101, X101, e101, st101⟩ := getF X0 hx hZ hown (host := "") (Or.inl (hw _ (List.mem_of_getElem? (i := 14) rfl))) Via.refl e0 G1 (g := (mkF m 1 #[.val (.ref a1), .val (.ref a2), .val (.int p)] [(.ref a1)])) rfl rfl (hb hby d_prog_99_method_4_1)
  refine Go.step (T' := T101) (g' := (mkF m 4 #[.val (.ref a1), .val (.ref a2), .val (.int p)] [(.ref va)])) st101 ?_
  refine Go.step (T' := T101) (g' := (mkF m 5 #[.val (.ref a1), .val (.ref a2), .val (.int p)] [(.ref a2), (.ref va)])) (fun _ k => XS.aloadN X101.here hx rfl (hb hby d_prog_99_method_4_4) rfl rfl k) ?_
  obtain ⟨cq102, kq102, q102a, q102b, q102c⟩ := isOf hZ e101 E2
  obtain ⟨_, _, ⟨T102, L102, k102, n102⟩, -, X102, ⟨Lc102, hQ102, l102, y102, z102⟩, st102⟩ := X101.virtualBackUp hx (owner := "java/lang/Enum") (x := (⟨"com/example/tuples_under_lock/tuplesunderlock/Setting", "ordinal", "()I"⟩ : MethodName)) (y := (⟨"java/lang/Enum", "ordinal", "()I"⟩ : MethodName)) hown (mvT hZ (hw _ (List.mem_of_getElem? (i := 51) rfl))) (mvT hZ (hw _ (List.mem_of_getElem? (i := 52) rfl))) (mvT hZ (hw _ (List.mem_of_getElem? (i := 53) rfl))) (by decide) (mvT hZ (hw _ (List.mem_of_getElem? (i := 55) rfl))) (mvT hZ (hw _ (List.mem_of_getElem? (i := 54) rfl))) (backOf (W := 1) (Q := Qret (some (.int (1 : Int32))) h0 n0) (own_ord l Z a0 hw [] a2 (1 : Int32) h0 n0 Z0 O2) hZ (hw _ (List.mem_of_getElem? (i := 57) rfl)) (hw _ (List.mem_of_getElem? (i := 56) rfl)) (by decide) (by decide)) q102a q102c (g := (mkF m 5 #[.val (.ref a1), .val (.ref a2), .val (.int p)] [(.ref a2), (.ref va)])) rfl (by rw [hml]; rfl) (Steps.refl _) (argsL := []) (rest := [(.ref va)]) (lenOf own_pd0 rfl) rfl (by show 2 * 0 + _ ≤ _; exact Nat.le_of_eq rfl) (hb hby d_prog_99_method_4_5) (fun _ _ => ⟨rfl, e101, (by decide : 0 + 0 ≤ _), (by decide : 0 + 0 ≤ _)⟩)
  dsimp only [Pt.U, Pt.locs, Pt.cells, Pt.slots] at X102 l102 y102 z102 st102 hQ102
  subst l102 y102 z102
  obtain ⟨rfl, N102q, eh102⟩ := hQ102
  have N102 := Fr.app N0 N102q
  refine Go.step (T' := T102) (g' := (mkF m 8 #[.val (.ref a1), .val (.ref a2), .val (.int p)] [(.int (1 : Int32)), (.ref va)])) (fun _ k => st102.trans k) ?_
  refine Go.step (T' := T102) (g' := (mkF m 9 #[.val (.ref a1), .val (.ref a2), .val (.int p)] [(.int p), (.int (1 : Int32)), (.ref va)])) (fun _ k => XS.iloadN X102.here hx rfl (hb hby d_prog_99_method_4_8) rfl  k) ?_
  obtain ⟨cl103, Ar103, q103, S103, M103, H103, G103⟩ := id Vv
  obtain ⟨T103, h103, X103, e103, W103, st103⟩ := stI X102 hx hZ eh102 Ar103 (j := (1 : Int32)) (inb_of S103 (by decide)) (g := (mkF m 9 #[.val (.ref a1), .val (.ref a2), .val (.int p)] [(.int p), (.int (1 : Int32)), (.ref va)])) rfl rfl (hb hby d_prog_99_method_4_9)
  have V103 : Arv Z h103 va kv .int (2 : Int32) [y0, (.int p)] (.int (0 : Int32)) := Arv.set Ar103 q103 S103 M103 H103 G103 rfl W103 1 rfl (by show 1 < 2; decide)
  have N103 := Fr.snoc X103 N102 gv
  have Z103 : n0 ≤ h103.size := Nat.le_trans Z0 (Keep.of_wr W103).1
  have K103 := K0.wr W103 (Or.inl (List.mem_of_getElem? (i := 0) rfl))
  have F104 := E1.wr W103
  have F105 := E2.wr W103
  have F106 := O2.other W103 (Or.inl n2v)
  have F107 := G0.other W103 (Or.inl n1v)
  have F108 := G1.other W103 (Or.inl n1v)
  have F109 := Es.wr W103
  have F110 := Ev.wr W103
  have F111 := Vs.other W103 nsv
  refine Go.step (T' := T103) (g' := (mkF m 10 #[.val (.ref a1), .val (.ref a2), .val (.int p)] [])) st103 ?_
  exact Go.retV X103 hx hret hlk (hb hby d_prog_99_method_4_10) (by rw [e103]; exact ⟨rfl, N103, K103, V103⟩) (by decide) (by decide)
set_option maxRecDepth 65536 in
set_option maxHeartbeats 40000000 in
theorem own_get1 (l : Launch) (Z : State) (a0 : Array Value) (hw : ∀ d ∈ tables_1, d.before a0 Z = true) (ws : List Jvm.Cond) (a1 a2 va : Addr) (kv : ClassId) (y0 y1 : Int32) (h0 : Heap) (n0 : Nat) (Z0 : n0 ≤ h0.size) (E2 : Exa Z h0 a2 "com/example/tuples_under_lock/tuplesunderlock/Setting") (O2 : Fld Z h0 a2 "java/lang/Enum" "ordinal" "I" (.int (1 : Int32))) (G1 : Fld Z h0 a1 "com/example/tuples_under_lock/tuplesunderlock/Settings" "values" "[I" (.ref va)) (Vv : Arv Z h0 va kv .int 2 [(.int y0), (.int y1)] (.int (0 : Int32))) :
    Con l Z (⟨"com/example/tuples_under_lock/tuplesunderlock/Settings", "get", "(Lcom/example/tuples_under_lock/tuplesunderlock/Setting;)I"⟩ : MethodName) prog_99_method_2_code 2 (some .int) ({ frames := 1, cells := 0, slots := 0, locals := 13 } : Room) ws #[(.ref a1), (.ref a2)] h0 (Qret (some (.int y1)) h0 n0) 0 0 := by
  refine Con.of (plainFor_of_name own_pn_Settings) ?_
  intro pgm e s m below meth c s₁ X0 hx hZ hby hml hown hnm hret hlk e0 hs0
  have N0 := Fr.nil n0
  have hown : s.vm.findClass "com/example/tuples_under_lock/tuplesunderlock/Settings" = some m.cls := hown
  have hnm : meth.name = "get" := hnm
  refine Go.cast (own_ef_prog_99_method_2_code_RR m a1 a2) ?_
  refine Go.step (T' := s₁) (g' := (mkF m 1 #[.val (.ref a1), .val (.ref a2)] [(.ref a1)])) (fun _ k => XS.aloadN X0.here hx rfl (hb hby d_prog_99_method_2_0) rfl rfl k) ?_
  obtain ⟨T101, X101, e101, st101⟩ := getF X0 hx hZ hown (host := "") (Or.inl (hw _ (List.mem_of_getElem? (i := 14) rfl))) Via.refl e0 G1 (g := (mkF m 1 #[.val (.ref a1), .val (.ref a2)] [(.ref a1)])) rfl rfl (hb hby d_prog_99_method_2_1)
  refine Go.step (T' := T101) (g' := (mkF m 4 #[.val (.ref a1), .val (.ref a2)] [(.ref va)])) st101 ?_
  refine Go.step (T' := T101) (g' := (mkF m 5 #[.val (.ref a1), .val (.ref a2)] [(.ref a2), (.ref va)])) (fun _ k => XS.aloadN X101.here hx rfl (hb hby d_prog_99_method_2_4) rfl rfl k) ?_
  obtain ⟨cq102, kq102, q102a, q102b, q102c⟩ := isOf hZ e101 E2
  obtain ⟨_, _, ⟨T102, L102, k102, n102⟩, -, X102, ⟨Lc102, hQ102, l102, y102, z102⟩, st102⟩ := X101.virtualBackUp hx (owner := "java/lang/Enum") (x := (⟨"com/example/tuples_under_lock/tuplesunderlock/Setting", "ordinal", "()I"⟩ : MethodName)) (y := (⟨"java/lang/Enum", "ordinal", "()I"⟩ : MethodName)) hown (mvT hZ (hw _ (List.mem_of_getElem? (i := 51) rfl))) (mvT hZ (hw _ (List.mem_of_getElem? (i := 52) rfl))) (mvT hZ (hw _ (List.mem_of_getElem? (i := 53) rfl))) (by decide) (mvT hZ (hw _ (List.mem_of_getElem? (i := 55) rfl))) (mvT hZ (hw _ (List.mem_of_getElem? (i := 54) rfl))) (backOf (W := 1) (Q := Qret (some (.int (1 : Int32))) h0 n0) (own_ord l Z a0 hw [] a2 (1 : Int32) h0 n0 Z0 O2) hZ (hw _ (List.mem_of_getElem? (i := 57) rfl)) (hw _ (List.mem_of_getElem? (i := 56) rfl)) (by decide) (by decide)) q102a q102c (g := (mkF m 5 #[.val (.ref a1), .val (.ref a2)] [(.ref a2), (.ref va)])) rfl (by rw [hml]; rfl) (Steps.refl _) (argsL := []) (rest := [(.ref va)]) (lenOf own_pd0 rfl) rfl (by show 2 * 0 + _ ≤ _; exact Nat.le_of_eq rfl) (hb hby d_prog_99_method_2_5) (fun _ _ => ⟨rfl, e101, (by decide : 0 + 0 ≤ _), (by decide : 0 + 0 ≤ _)⟩)
  dsimp only [Pt.U, Pt.locs, Pt.cells, Pt.slots] at X102 l102 y102 z102 st102 hQ102
  subst l102 y102 z102
  obtain ⟨rfl, N102q, eh102⟩ := hQ102
  have N102 := Fr.app N0 N102q
  refine Go.step (T' := T102) (g' := (mkF m 8 #[.val (.ref a1), .val (.ref a2)] [(.int (1 : Int32)), (.ref va)])) (fun _ k => st102.trans k) ?_
  obtain ⟨cl103, Ar103, q103, S103, M103, H103, G103⟩ := id Vv
  have I103 := inb_of (j := (1 : Int32)) S103 (by decide)
  refine Go.step (T' := T102) (g' := (mkF m 9 #[.val (.ref a1), .val (.ref a2)] [(.int y1)])) (fun _ k => X102.iaload hx (j := (1 : Int32)) (v := (.int y1)) (by rw [eh102]; exact Ar103.1) (State.isArrayOf_alike hZ.alike Ar103.2.1) Ar103.2.2 I103 (Has.at H103 I103 rfl) (g := (mkF m 8 #[.val (.ref a1), .val (.ref a2)] [(.int (1 : Int32)), (.ref va)])) rfl rfl (hb hby d_prog_99_method_2_8) _ k) ?_
  exact Go.retI X102 hx hret hlk (hb hby d_prog_99_method_2_9) (⟨rfl, N102, eh102⟩) (by decide) (by decide)
def Qvals (Z : State) (kz : ClassId) (w0 w1 : Addr) (h0 : Heap) (n0 : Nat) (v : Option Value) (h : Heap) (L : List Loc) : Prop := ∃ b : Addr, v = some (.ref b) ∧ Fr n0 L ∧ Keep h0 h [] ∧ h0.size ≤ b ∧ Exa Z h b "[Lcom/example/tuples_under_lock/tuplesunderlock/Setting;" ∧ Arv Z h b kz (.object "com/example/tuples_under_lock/tuplesunderlock/Setting") 2 [.ref w0, .ref w1] .null
theorem own_ef_prog_97_method_1_code_ (m : MethodId)  : entryFrame m #[] 0 = mkF m 0 #[] [] := by first | (simp [entryFrame, mkF, argsToLocals, Value.category]; done) | rfl | (simp [entryFrame, mkF, argsToLocals, own_cI, own_cJ, own_cR, own_cN]; done)
theorem d_prog_97_method_1_0 : decode prog_97_method_1_code 0 = .ok (.getstatic 10, 3) := by decide +kernel
theorem d_prog_97_method_1_3 : decode prog_97_method_1_code 3 = .ok (.invokevirtual 14, 3) := by decide +kernel
theorem d_prog_97_method_1_6 : decode prog_97_method_1_code 6 = .ok (.checkcast 15, 3) := by decide +kernel
theorem d_prog_97_method_1_9 : decode prog_97_method_1_code 9 = .ok (.areturn, 1) := by decide +kernel
set_option maxRecDepth 65536 in
set_option maxHeartbeats 40000000 in
theorem own_vals (l : Launch) (Z : State) (a0 : Array Value) (hw : ∀ d ∈ tables_1, d.before a0 Z = true) (ws : List Jvm.Cond) (vz w0 w1 : Addr) (kz : ClassId) (h0 : Heap) (n0 : Nat) (Z0 : n0 ≤ h0.size) (Sz : Sta Z h0 "com/example/tuples_under_lock/tuplesunderlock/Setting" "$VALUES" "[Lcom/example/tuples_under_lock/tuplesunderlock/Setting;" (.ref vz)) (Ez : Exa Z h0 vz "[Lcom/example/tuples_under_lock/tuplesunderlock/Setting;") (Vz : Arv Z h0 vz kz (.object "com/example/tuples_under_lock/tuplesunderlock/Setting") 2 [.ref w0, .ref w1] .null) :
    Con l Z (⟨"com/example/tuples_under_lock/tuplesunderlock/Setting", "values", "()[Lcom/example/tuples_under_lock/tuplesunderlock/Setting;"⟩ : MethodName) prog_97_method_1_code 0 (some (.array (.object "com/example/tuples_under_lock/tuplesunderlock/Setting"))) ({ frames := 1, cells := 1, slots := 2, locals := 14 } : Room) ws #[] h0 (Qvals Z kz w0 w1 h0 n0) 1 2 := by
  refine Con.of (plainFor_of_name own_pn_Setting) ?_
  intro pgm e s m below meth c s₁ X0 hx hZ hby hml hown hnm hret hlk e0 hs0
  have N0 := Fr.nil n0
  have hown : s.vm.findClass "com/example/tuples_under_lock/tuplesunderlock/Setting" = some m.cls := hown
  have hnm : meth.name = "values" := hnm
  refine Go.cast (own_ef_prog_97_method_1_code_ m ) ?_
  have K0 := Keep.refl h0 []
  obtain ⟨T101, X101, e101, st101⟩ := getS2 X0 hx hZ hown (host := "") (Or.inl (hw _ (List.mem_of_getElem? (i := 25) rfl))) Via.refl e0 Sz (g := (mkF m 0 #[] [])) rfl (hb hby d_prog_97_method_1_0)
  refine Go.step (T' := T101) (g' := (mkF m 3 #[] [(.ref vz)])) st101 ?_
  obtain ⟨T102, h102, X102, e102, E102, A102, EA102, st102⟩ := cloneH X101 hx hZ hown (hw _ (List.mem_of_getElem? (i := 27) rfl)) (hw _ (List.mem_of_getElem? (i := 28) rfl)) (hw _ (List.mem_of_getElem? (i := 32) rfl)) (hw _ (List.mem_of_getElem? (i := 30) rfl)) (hw _ (List.mem_of_getElem? (i := 31) rfl)) (hw _ (List.mem_of_getElem? (i := 33) rfl)) e101 (hs := []) Vz Ez (g := (mkF m 3 #[] [(.ref vz)])) rfl (by rw [hml]; rfl) rfl (hb hby d_prog_97_method_1_3) (by decide) (W := 0) (cap := 2) (by show 2 * 0 + _ ≤ _; exact Nat.le_of_eq rfl) (by decide) (by decide) (by decide) (by decide)
  obtain ⟨b102, g102⟩ : ∃ z, z = h0.size := ⟨_, rfl⟩
  rw [← g102] at A102 EA102 st102
  have ne103 : vz ≠ b102 := by have q := Ez.lt; intro r; rw [r, g102] at q; exact Nat.lt_irrefl _ q
  have ge102 : n0 ≤ b102 := Nat.le_trans Z0 (Nat.le_of_eq g102.symm)
  have Z102 : n0 ≤ h102.size := Nat.le_trans Z0 E102.1
  have sz102 : h0.size ≤ b102 := Nat.le_trans K0.1 (Nat.le_of_eq g102.symm)
  have K102 := K0.ext E102
  have F104 := Sz.ext E102
  have F105 := Ez.ext E102
  have F106 := Vz.ext E102
  have V102 : Arv Z h102 b102 kz (.object "com/example/tuples_under_lock/tuplesunderlock/Setting") (2 : Int32) [(.ref w0), (.ref w1)] .null := A102
  refine Go.step (T' := T102) (g' := (mkF m 6 #[] [(.ref b102)])) st102 ?_
  obtain ⟨T107, X107, e107, st107⟩ := castY X102 hx hZ hown (hw _ (List.mem_of_getElem? (i := 37) rfl)) e102 (Ins.self EA102) (g := (mkF m 6 #[] [(.ref b102)])) rfl rfl (hb hby d_prog_97_method_1_6)
  refine Go.step (T' := T107) (g' := (mkF m 9 #[] [(.ref b102)])) st107 ?_
  exact Go.retA X107 hx (t := (.array (.object "com/example/tuples_under_lock/tuplesunderlock/Setting"))) hret rfl hlk rfl (hb hby d_prog_97_method_1_9) (by rw [e107]; exact ⟨b102, rfl, N0, K102, sz102, EA102, V102⟩) (by decide) (by decide)
theorem own_ef_prog_99_method_5_code_R (m : MethodId) (x0 : Addr) : entryFrame m #[(.ref x0)] 5 = mkF m 0 #[.val (.ref x0), .unset, .unset, .unset, .unset] [] := by first | (simp [entryFrame, mkF, argsToLocals, Value.category]; done) | rfl | (simp [entryFrame, mkF, argsToLocals, own_cI, own_cJ, own_cR, own_cN]; done)
theorem d_prog_99_method_5_0 : decode prog_99_method_5_code 0 = .ok (.invokestatic 29, 3) := by decide +kernel
theorem own_pd1 : parseMethodDescriptor "()[Lcom/example/tuples_under_lock/tuplesunderlock/Setting;" = some ⟨[], some (.array (.object "com/example/tuples_under_lock/tuplesunderlock/Setting"))⟩ := by decide +kernel
theorem d_prog_99_method_5_3 : decode prog_99_method_5_code 3 = .ok (.astore_n 1, 1) := by decide +kernel
theorem d_prog_99_method_5_4 : decode prog_99_method_5_code 4 = .ok (.aload_n 1, 1) := by decide +kernel
theorem d_prog_99_method_5_5 : decode prog_99_method_5_code 5 = .ok (.arraylength, 1) := by decide +kernel
theorem d_prog_99_method_5_6 : decode prog_99_method_5_code 6 = .ok (.istore_n 2, 1) := by decide +kernel
theorem d_prog_99_method_5_7 : decode prog_99_method_5_code 7 = .ok (.iconst 0, 1) := by decide +kernel
theorem d_prog_99_method_5_8 : decode prog_99_method_5_code 8 = .ok (.istore_n 3, 1) := by decide +kernel
theorem d_prog_99_method_5_9 : decode prog_99_method_5_code 9 = .ok (.iload_n 3, 1) := by decide +kernel
theorem d_prog_99_method_5_10 : decode prog_99_method_5_code 10 = .ok (.iload_n 2, 1) := by decide +kernel
theorem d_prog_99_method_5_11 : decode prog_99_method_5_code 11 = .ok (.if_icmp .ge 25, 3) := by decide +kernel
theorem d_prog_99_method_5_14 : decode prog_99_method_5_code 14 = .ok (.aload_n 1, 1) := by decide +kernel
theorem d_prog_99_method_5_15 : decode prog_99_method_5_code 15 = .ok (.iload_n 3, 1) := by decide +kernel
theorem d_prog_99_method_5_16 : decode prog_99_method_5_code 16 = .ok (.aaload, 1) := by decide +kernel
theorem d_prog_99_method_5_17 : decode prog_99_method_5_code 17 = .ok (.astore 4, 2) := by decide +kernel
theorem d_prog_99_method_5_19 : decode prog_99_method_5_code 19 = .ok (.aload_n 0, 1) := by decide +kernel
theorem d_prog_99_method_5_20 : decode prog_99_method_5_code 20 = .ok (.aload 4, 2) := by decide +kernel
theorem d_prog_99_method_5_22 : decode prog_99_method_5_code 22 = .ok (.aload 4, 2) := by decide +kernel
theorem d_prog_99_method_5_24 : decode prog_99_method_5_code 24 = .ok (.invokevirtual 32, 3) := by decide +kernel
theorem d_prog_99_method_5_27 : decode prog_99_method_5_code 27 = .ok (.invokevirtual 35, 3) := by decide +kernel
theorem own_pd2 : parseMethodDescriptor "(Lcom/example/tuples_under_lock/tuplesunderlock/Setting;I)V" = some ⟨[(.object "com/example/tuples_under_lock/tuplesunderlock/Setting"), .int], none⟩ := by decide +kernel
theorem d_prog_99_method_5_30 : decode prog_99_method_5_code 30 = .ok (.iinc 3 1, 3) := by decide +kernel
theorem d_prog_99_method_5_33 : decode prog_99_method_5_code 33 = .ok (.goto (-24), 3) := by decide +kernel
theorem d_prog_99_method_5_36 : decode prog_99_method_5_code 36 = .ok (.return_, 1) := by decide +kernel
set_option maxRecDepth 65536 in
set_option maxHeartbeats 40000000 in
theorem own_rst (l : Launch) (Z : State) (a0 : Array Value) (hw : ∀ d ∈ tables_1, d.before a0 Z = true) (ws : List Jvm.Cond) (a1 : Addr) (sa va vz w0 w1 : Addr) (ks kv kz : ClassId) (x0 x1 y0 y1 : Value) (h0 : Heap) (n0 : Nat) (Z0 : n0 ≤ h0.size) (Sz : Sta Z h0 "com/example/tuples_under_lock/tuplesunderlock/Setting" "$VALUES" "[Lcom/example/tuples_under_lock/tuplesunderlock/Setting;" (.ref vz)) (Ez : Exa Z h0 vz "[Lcom/example/tuples_under_lock/tuplesunderlock/Setting;") (Vz : Arv Z h0 vz kz (.object "com/example/tuples_under_lock/tuplesunderlock/Setting") 2 [.ref w0, .ref w1] .null) (Ew0 : Exa Z h0 w0 "com/example/tuples_under_lock/tuplesunderlock/Setting") (Ew1 : Exa Z h0 w1 "com/example/tuples_under_lock/tuplesunderlock/Setting") (Ow0 : Fld Z h0 w0 "java/lang/Enum" "ordinal" "I" (.int (0 : Int32))) (Ow1 : Fld Z h0 w1 "java/lang/Enum" "ordinal" "I" (.int (1 : Int32))) (Dw0 : Fld Z h0 w0 "com/example/tuples_under_lock/tuplesunderlock/Setting" "defaultValue" "I" (.int (0 : Int32))) (Dw1 : Fld Z h0 w1 "com/example/tuples_under_lock/tuplesunderlock/Setting" "defaultValue" "I" (.int (1000 : Int32))) (E1 : Exa Z h0 a1 "com/example/tuples_under_lock/tuplesunderlock/Settings") (G0 : Fld Z h0 a1 "com/example/tuples_under_lock/tuplesunderlock/Settings" "sessionValues" "[I" (.ref sa)) (G1 : Fld Z h0 a1 "com/example/tuples_under_lock/tuplesunderlock/Settings" "values" "[I" (.ref va)) (Es : Exa Z h0 sa "[I") (Ev : Exa Z h0 va "[I") (Vs : Arv Z h0 sa ks .int 2 [x0, x1] (.int (0 : Int32))) (Vv : Arv Z h0 va kv .int 2 [y0, y1] (.int (0 : Int32))) (nsv : sa ≠ va) (n1s : a1 ≠ sa) (n1v : a1 ≠ va) (gs : n0 ≤ sa) (gv : n0 ≤ va) (nw0sa : w0 ≠ sa) (nw0va : w0 ≠ va) (nw1sa : w1 ≠ sa) (nw1va : w1 ≠ va) (nvzsa : vz ≠ sa) (nvzva : vz ≠ va) :
    Con l Z (⟨"com/example/tuples_under_lock/tuplesunderlock/Settings", "resetAll", "()V"⟩ : MethodName) prog_99_method_5_code 5 none ({ frames := 2, cells := 1, slots := 2, locals := 27 } : Room) ws #[(.ref a1)] h0 (Qset Z sa va ks kv [(.int (0 : Int32)), (.int (1000 : Int32))] [(.int (0 : Int32)), (.int (1000 : Int32))] h0 n0) 1 2 := by
  refine Con.of (plainFor_of_name own_pn_Settings) ?_
  intro pgm e s m below meth c s₁ X0 hx hZ hby hml hown hnm hret hlk e0 hs0
  have N0 := Fr.nil n0
  have hown : s.vm.findClass "com/example/tuples_under_lock/tuplesunderlock/Settings" = some m.cls := hown
  have hnm : meth.name = "resetAll" := hnm
  refine Go.cast (own_ef_prog_99_method_5_code_R m a1) ?_
  have K0 := Keep.refl h0 [sa, va]
  obtain ⟨_, _, ⟨T101, L101, k101, n101⟩, -, X101, ⟨Lc101, hQ101, l101, y101, z101⟩, st101⟩ := Jvm.LawKit.callS X0 hx (y := (⟨"com/example/tuples_under_lock/tuplesunderlock/Setting", "values", "()[Lcom/example/tuples_under_lock/tuplesunderlock/Setting;"⟩ : MethodName)) hown (mvT hZ (hw _ (List.mem_of_getElem? (i := 21) rfl))) (mvT hZ (hw _ (List.mem_of_getElem? (i := 22) rfl))) (mvT hZ (hw _ (List.mem_of_getElem? (i := 23) rfl))) (mvT hZ (hw _ (List.mem_of_getElem? (i := 24) rfl))) (by decide) (backOf (W := 0) (Q := Qvals Z kz w0 w1 h0 n0) (own_vals l Z a0 hw [] vz w0 w1 kz h0 n0 Z0 Sz Ez Vz) hZ (hw _ (List.mem_of_getElem? (i := 24) rfl)) (hw _ (List.mem_of_getElem? (i := 23) rfl)) (by decide) (by decide)) (g := (mkF m 0 #[.val (.ref a1), .unset, .unset, .unset, .unset] [])) rfl (by rw [hml]; rfl) (argsL := []) (rest := []) (lenOf own_pd1 rfl) rfl (by show 2 * 0 + _ ≤ _; exact Nat.le_of_eq rfl) (hb hby d_prog_99_method_5_0) (fun _ _ => ⟨rfl, e0, (by decide : 0 + 1 ≤ _), (by decide : 0 + 2 ≤ _)⟩)
  dsimp only [Pt.U, Pt.locs, Pt.cells, Pt.slots] at X101 l101 y101 z101 st101 hQ101
  subst l101 y101 z101
  obtain ⟨b101, rfl, N101q, K101, sz101, E101, V101⟩ := hQ101
  have N101 := Fr.app N0 N101q
  have ne102 : vz ≠ b101 := Nat.ne_of_lt (Nat.lt_of_lt_of_le Ez.lt sz101)
  have ne103 : w0 ≠ b101 := Nat.ne_of_lt (Nat.lt_of_lt_of_le Ew0.lt sz101)
  have ne104 : w1 ≠ b101 := Nat.ne_of_lt (Nat.lt_of_lt_of_le Ew1.lt sz101)
  have ne105 : a1 ≠ b101 := Nat.ne_of_lt (Nat.lt_of_lt_of_le E1.lt sz101)
  have ne106 : sa ≠ b101 := Nat.ne_of_lt (Nat.lt_of_lt_of_le Es.lt sz101)
  have ne107 : va ≠ b101 := Nat.ne_of_lt (Nat.lt_of_lt_of_le Ev.lt sz101)
  have ge108 : n0 ≤ b101 := Nat.le_trans Z0 sz101
  have sz109 : h0.size ≤ b101 := Nat.le_trans K0.1 sz101
  have KK101 := K0.trans K101 all0
  have Z101 : n0 ≤ T101.heap.size := Nat.le_trans Z0 K101.1
  have F110 := own_sta_keep Sz K101 all0
  have F111 := Ez.keep K101
  have F112 := Vz.keep K101 nin0
  have F113 := Ew0.keep K101
  have F114 := Ow0.keep K101 nin0
  have F115 := Dw0.keep K101 nin0
  have F116 := Ew1.keep K101
  have F117 := Ow1.keep K101 nin0
  have F118 := Dw1.keep K101 nin0
  have F119 := E1.keep K101
  have F120 := G0.keep K101 nin0
  have F121 := G1.keep K101 nin0
  have F122 := Es.keep K101
  have F123 := Ev.keep K101
  have F124 := Vs.keep K101 nin0
  have F125 := Vv.keep K101 nin0
  refine Go.step (T' := T101) (g' := (mkF m 3 #[.val (.ref a1), .unset, .unset, .unset, .unset] [(.ref b101)])) (st101) ?_
  refine Go.step (T' := T101) (g' := (mkF m 4 #[.val (.ref a1), .val (.ref b101), .unset, .unset, .unset] [])) (fun _ k => XS.astoreN X101.here hx rfl (hb hby d_prog_99_method_5_3) rfl rfl (l' := #[.val (.ref a1), .val (.ref b101), .unset, .unset, .unset]) rfl k) ?_
  refine Go.step (T' := T101) (g' := (mkF m 5 #[.val (.ref a1), .val (.ref b101), .unset, .unset, .unset] [(.ref b101)])) (fun _ k => XS.aloadN X101.here hx rfl (hb hby d_prog_99_method_5_4) rfl rfl k) ?_
  obtain ⟨cl126, Ar126, -, S126, M126, -, -⟩ := id V101
  refine Go.step (T' := T101) (g' := (mkF m 6 #[.val (.ref a1), .val (.ref b101), .unset, .unset, .unset] [(.int (2 : Int32))])) (fun _ k => X101.arraylength hx (cell := cl126) (Ar126.1) (State.isArrayOf_alike hZ.alike Ar126.2.1) (g := (mkF m 5 #[.val (.ref a1), .val (.ref b101), .unset, .unset, .unset] [(.ref b101)])) rfl (rest := []) rfl (hb hby d_prog_99_method_5_5) _ (by rw [len_of S126 M126]; exact k)) ?_
  refine Go.step (T' := T101) (g' := (mkF m 7 #[.val (.ref a1), .val (.ref b101), .val (.int (2 : Int32)), .unset, .unset] [])) (fun _ k => XS.istoreN X101.here hx rfl (hb hby d_prog_99_method_5_6) rfl (l' := #[.val (.ref a1), .val (.ref b101), .val (.int (2 : Int32)), .unset, .unset]) rfl k) ?_
  refine Go.step (T' := T101) (g' := (mkF m 8 #[.val (.ref a1), .val (.ref b101), .val (.int (2 : Int32)), .unset, .unset] [(.int (0 : Int32))])) (fun _ k => XS.iconst X101.here hx rfl (hb hby d_prog_99_method_5_7) k) ?_
  refine Go.step (T' := T101) (g' := (mkF m 9 #[.val (.ref a1), .val (.ref b101), .val (.int (2 : Int32)), .val (.int (0 : Int32)), .unset] [])) (fun _ k => XS.istoreN X101.here hx rfl (hb hby d_prog_99_method_5_8) rfl (l' := #[.val (.ref a1), .val (.ref b101), .val (.int (2 : Int32)), .val (.int (0 : Int32)), .unset]) rfl k) ?_
  refine Go.step (T' := T101) (g' := (mkF m 10 #[.val (.ref a1), .val (.ref b101), .val (.int (2 : Int32)), .val (.int (0 : Int32)), .unset] [(.int (0 : Int32))])) (fun _ k => XS.iloadN X101.here hx rfl (hb hby d_prog_99_method_5_9) rfl  k) ?_
  refine Go.step (T' := T101) (g' := (mkF m 11 #[.val (.ref a1), .val (.ref b101), .val (.int (2 : Int32)), .val (.int (0 : Int32)), .unset] [(.int (2 : Int32)), (.int (0 : Int32))])) (fun _ k => XS.iloadN X101.here hx rfl (hb hby d_prog_99_method_5_10) rfl  k) ?_
  refine Go.step (T' := T101) (g' := (mkF m 14 #[.val (.ref a1), .val (.ref b101), .val (.int (2 : Int32)), .val (.int (0 : Int32)), .unset] [])) (fun _ k => XS.icmpNo X101.here hx rfl (hb hby d_prog_99_method_5_11) rfl (tlt (by decide : (0 : Int32) < (2 : Int32))).2.1 k) ?_
  refine Go.step (T' := T101) (g' := (mkF m 15 #[.val (.ref a1), .val (.ref b101), .val (.int (2 : Int32)), .val (.int (0 : Int32)), .unset] [(.ref b101)])) (fun _ k => XS.aloadN X101.here hx rfl (hb hby d_prog_99_method_5_14) rfl rfl k) ?_
  refine Go.step (T' := T101) (g' := (mkF m 16 #[.val (.ref a1), .val (.ref b101), .val (.int (2 : Int32)), .val (.int (0 : Int32)), .unset] [(.int (0 : Int32)), (.ref b101)])) (fun _ k => XS.iloadN X101.here hx rfl (hb hby d_prog_99_method_5_15) rfl  k) ?_
  obtain ⟨cl127, Ar127, q127, S127, M127, H127, G127⟩ := id V101
  have I127 := inb_of (j := (0 : Int32)) S127 (by decide)
  refine Go.step (T' := T101) (g' := (mkF m 17 #[.val (.ref a1), .val (.ref b101), .val (.int (2 : Int32)), .val (.int (0 : Int32)), .unset] [(.ref w0)])) (fun _ k => X101.aaload hx (j := (0 : Int32)) (v := (.ref w0)) (Ar127.1) (State.isArrayOf_alike hZ.alike Ar127.2.1) rfl Ar127.2.2 I127 (Has.at H127 I127 rfl) (g := (mkF m 16 #[.val (.ref a1), .val (.ref b101), .val (.int (2 : Int32)), .val (.int (0 : Int32)), .unset] [(.int (0 : Int32)), (.ref b101)])) rfl rfl (hb hby d_prog_99_method_5_16) _ k) ?_
  refine Go.step (T' := T101) (g' := (mkF m 19 #[.val (.ref a1), .val (.ref b101), .val (.int (2 : Int32)), .val (.int (0 : Int32)), .val (.ref w0)] [])) (fun _ k => XS.astore X101.here hx rfl (hb hby d_prog_99_method_5_17) rfl rfl (l' := #[.val (.ref a1), .val (.ref b101), .val (.int (2 : Int32)), .val (.int (0 : Int32)), .val (.ref w0)]) rfl k) ?_
  refine Go.step (T' := T101) (g' := (mkF m 20 #[.val (.ref a1), .val (.ref b101), .val (.int (2 : Int32)), .val (.int (0 : Int32)), .val (.ref w0)] [(.ref a1)])) (fun _ k => XS.aloadN X101.here hx rfl (hb hby d_prog_99_method_5_19) rfl rfl k) ?_
  refine Go.step (T' := T101) (g' := (mkF m 22 #[.val (.ref a1), .val (.ref b101), .val (.int (2 : Int32)), .val (.int (0 : Int32)), .val (.ref w0)] [(.ref w0), (.ref a1)])) (fun _ k => XS.aload X101.here hx rfl (hb hby d_prog_99_method_5_20) rfl rfl k) ?_
  refine Go.step (T' := T101) (g' := (mkF m 24 #[.val (.ref a1), .val (.ref b101), .val (.int (2 : Int32)), .val (.int (0 : Int32)), .val (.ref w0)] [(.ref w0), (.ref w0), (.ref a1)])) (fun _ k => XS.aload X101.here hx rfl (hb hby d_prog_99_method_5_22) rfl rfl k) ?_
  obtain ⟨cq128, kq128, q128a, q128b, q128c⟩ := isOf hZ rfl F113
  obtain ⟨_, _, ⟨T128, L128, k128, n128⟩, -, X128, ⟨Lc128, hQ128, l128, y128, z128⟩, st128⟩ := X101.virtualBack hx (y := (⟨"com/example/tuples_under_lock/tuplesunderlock/Setting", "defaultValue", "()I"⟩ : MethodName)) (z := (⟨"com/example/tuples_under_lock/tuplesunderlock/Setting", "defaultValue", "()I"⟩ : MethodName)) hown (mvT hZ (hw _ (List.mem_of_getElem? (i := 39) rfl))) (mvT hZ (hw _ (List.mem_of_getElem? (i := 40) rfl))) (notFace_of_selects (args := #[]) (mvT hZ (hw _ (List.mem_of_getElem? (i := 42) rfl)))) (mvT hZ (hw _ (List.mem_of_getElem? (i := 42) rfl))) (mvT hZ (hw _ (List.mem_of_getElem? (i := 41) rfl))) (by decide) (backOf (W := 2) (Q := Qret (some (.int (0 : Int32))) T101.heap n0) (own_dfv l Z a0 hw [] w0 (0 : Int32) T101.heap n0 Z101 F115) hZ (hw _ (List.mem_of_getElem? (i := 43) rfl)) (hw _ (List.mem_of_getElem? (i := 23) rfl)) (by decide) (by decide)) q128a q128c (g := (mkF m 24 #[.val (.ref a1), .val (.ref b101), .val (.int (2 : Int32)), .val (.int (0 : Int32)), .val (.ref w0)] [(.ref w0), (.ref w0), (.ref a1)])) rfl (by rw [hml]; rfl) (Steps.refl _) (argsL := []) (rest := [(.ref w0), (.ref a1)]) (lenOf own_pd0 rfl) rfl (by show 2 * 0 + _ ≤ _; exact Nat.le_of_eq rfl) (hb hby d_prog_99_method_5_24) (fun _ _ => ⟨rfl, rfl, (by decide : 1 + 0 ≤ _), (by decide : 2 + 0 ≤ _)⟩)
  dsimp only [Pt.U, Pt.locs, Pt.cells, Pt.slots] at X128 l128 y128 z128 st128 hQ128
  subst l128 y128 z128
  obtain ⟨rfl, N128q, eh128⟩ := hQ128
  have N128 := Fr.app N101 N128q
  refine Go.step (T' := T128) (g' := (mkF m 27 #[.val (.ref a1), .val (.ref b101), .val (.int (2 : Int32)), .val (.int (0 : Int32)), .val (.ref w0)] [(.int (0 : Int32)), (.ref w0), (.ref a1)])) (fun _ k => st128.trans k) ?_
  obtain ⟨cq129, kq129, q129a, q129b, q129c⟩ := isOf hZ eh128 F119
  obtain ⟨_, _, ⟨T129, L129, k129, n129⟩, -, X129, ⟨Lc129, hQ129, l129, y129, z129⟩, st129⟩ := X128.virtualBack hx (y := (⟨"com/example/tuples_under_lock/tuplesunderlock/Settings", "set", "(Lcom/example/tuples_under_lock/tuplesunderlock/Setting;I)V"⟩ : MethodName)) (z := (⟨"com/example/tuples_under_lock/tuplesunderlock/Settings", "set", "(Lcom/example/tuples_under_lock/tuplesunderlock/Setting;I)V"⟩ : MethodName)) hown (mvT hZ (hw _ (List.mem_of_getElem? (i := 46) rfl))) (mvT hZ (hw _ (List.mem_of_getElem? (i := 47) rfl))) (notFace_of_selects (args := #[]) (mvT hZ (hw _ (List.mem_of_getElem? (i := 49) rfl)))) (mvT hZ (hw _ (List.mem_of_getElem? (i := 49) rfl))) (mvT hZ (hw _ (List.mem_of_getElem? (i := 48) rfl))) (by decide) (backOf (W := 0) (Q := Qset Z sa va ks kv [(.int (0 : Int32)), x1] [(.int (0 : Int32)), y1] T101.heap n0) (own_set0 l Z a0 hw [] a1 w0 (0 : Int32) sa va ks kv x0 x1 y0 y1 T101.heap n0 Z101 F119 F113 F114 F120 F121 F122 F123 F124 F125 nsv n1s n1v nw0sa nw0va gs gv) hZ (hw _ (List.mem_of_getElem? (i := 50) rfl)) (hw _ (List.mem_of_getElem? (i := 2) rfl)) (by decide) (by decide)) q129a q129c (g := (mkF m 27 #[.val (.ref a1), .val (.ref b101), .val (.int (2 : Int32)), .val (.int (0 : Int32)), .val (.ref w0)] [(.int (0 : Int32)), (.ref w0), (.ref a1)])) rfl (by rw [hml]; rfl) (Steps.refl _) (argsL := [(.ref w0), (.int (0 : Int32))]) (rest := []) (lenOf own_pd2 rfl) rfl (by show 2 * 0 + _ ≤ _; exact Nat.le_of_eq rfl) (hb hby d_prog_99_method_5_27) (fun _ _ => ⟨rfl, eh128, (by decide : 1 + 0 ≤ _), (by decide : 2 + 0 ≤ _)⟩)
  dsimp only [Pt.U, Pt.locs, Pt.cells, Pt.slots] at X129 l129 y129 z129 st129 hQ129
  subst l129 y129 z129
  obtain ⟨rfl, N129q, K129, U129a, U129b⟩ := hQ129
  have N129 := Fr.app N128 N129q
  have KK129 := KK101.trans K129 (allS (Or.inl (List.mem_of_getElem? (i := 0) rfl)) (allS (Or.inl (List.mem_of_getElem? (i := 1) rfl)) all0))
  have Z129 : n0 ≤ T129.heap.size := Nat.le_trans Z101 K129.1
  have F130 := own_sta_keep F110 K129 (allS (own_plain F122) (allS (own_plain F123) all0))
  have F131 := F111.keep K129
  have F132 := F112.keep K129 (ninS nvzsa (ninS nvzva nin0))
  have F133 := F113.keep K129
  have F134 := F114.keep K129 (ninS nw0sa (ninS nw0va nin0))
  have F135 := F115.keep K129 (ninS nw0sa (ninS nw0va nin0))
  have F136 := F116.keep K129
  have F137 := F117.keep K129 (ninS nw1sa (ninS nw1va nin0))
  have F138 := F118.keep K129 (ninS nw1sa (ninS nw1va nin0))
  have F139 := F119.keep K129
  have F140 := F120.keep K129 (ninS n1s (ninS n1v nin0))
  have F141 := F121.keep K129 (ninS n1s (ninS n1v nin0))
  have F142 := F122.keep K129
  have F143 := F123.keep K129
  have F144 := E101.keep K129
  have F145 := V101.keep K129 (ninS (Ne.symm ne106) (ninS (Ne.symm ne107) nin0))
  refine Go.step (T' := T129) (g' := (mkF m 30 #[.val (.ref a1), .val (.ref b101), .val (.int (2 : Int32)), .val (.int (0 : Int32)), .val (.ref w0)] [])) (fun _ k => st129.trans k) ?_
  refine Go.step (T' := T129) (g' := (mkF m 33 #[.val (.ref a1), .val (.ref b101), .val (.int (2 : Int32)), .val (.int (1 : Int32)), .val (.ref w0)] [])) (fun _ k => XS.iinc X129.here hx rfl (hb hby d_prog_99_method_5_30) rfl (l' := #[.val (.ref a1), .val (.ref b101), .val (.int (2 : Int32)), .val (.int (1 : Int32)), .val (.ref w0)]) rfl k) ?_
  refine Go.step (T' := T129) (g' := (mkF m 9 #[.val (.ref a1), .val (.ref b101), .val (.int (2 : Int32)), .val (.int (1 : Int32)), .val (.ref w0)] [])) (fun _ k => XS.goto X129.here hx rfl (pc0 := 33) (pc' := 9) rfl (hb hby d_prog_99_method_5_33) (by decide) (by decide) k) ?_
  refine Go.step (T' := T129) (g' := (mkF m 10 #[.val (.ref a1), .val (.ref b101), .val (.int (2 : Int32)), .val (.int (1 : Int32)), .val (.ref w0)] [(.int (1 : Int32))])) (fun _ k => XS.iloadN X129.here hx rfl (hb hby d_prog_99_method_5_9) rfl  k) ?_
  refine Go.step (T' := T129) (g' := (mkF m 11 #[.val (.ref a1), .val (.ref b101), .val (.int (2 : Int32)), .val (.int (1 : Int32)), .val (.ref w0)] [(.int (2 : Int32)), (.int (1 : Int32))])) (fun _ k => XS.iloadN X129.here hx rfl (hb hby d_prog_99_method_5_10) rfl  k) ?_
  refine Go.step (T' := T129) (g' := (mkF m 14 #[.val (.ref a1), .val (.ref b101), .val (.int (2 : Int32)), .val (.int (1 : Int32)), .val (.ref w0)] [])) (fun _ k => XS.icmpNo X129.here hx rfl (hb hby d_prog_99_method_5_11) rfl (tlt (by decide : (1 : Int32) < (2 : Int32))).2.1 k) ?_
  refine Go.step (T' := T129) (g' := (mkF m 15 #[.val (.ref a1), .val (.ref b101), .val (.int (2 : Int32)), .val (.int (1 : Int32)), .val (.ref w0)] [(.ref b101)])) (fun _ k => XS.aloadN X129.here hx rfl (hb hby d_prog_99_method_5_14) rfl rfl k) ?_
  refine Go.step (T' := T129) (g' := (mkF m 16 #[.val (.ref a1), .val (.ref b101), .val (.int (2 : Int32)), .val (.int (1 : Int32)), .val (.ref w0)] [(.int (1 : Int32)), (.ref b101)])) (fun _ k => XS.iloadN X129.here hx rfl (hb hby d_prog_99_method_5_15) rfl  k) ?_
  obtain ⟨cl146, Ar146, q146, S146, M146, H146, G146⟩ := id F145
  have I146 := inb_of (j := (1 : Int32)) S146 (by decide)
  refine Go.step (T' := T129) (g' := (mkF m 17 #[.val (.ref a1), .val (.ref b101), .val (.int (2 : Int32)), .val (.int (1 : Int32)), .val (.ref w0)] [(.ref w1)])) (fun _ k => X129.aaload hx (j := (1 : Int32)) (v := (.ref w1)) (Ar146.1) (State.isArrayOf_alike hZ.alike Ar146.2.1) rfl Ar146.2.2 I146 (Has.at H146 I146 rfl) (g := (mkF m 16 #[.val (.ref a1), .val (.ref b101), .val (.int (2 : Int32)), .val (.int (1 : Int32)), .val (.ref w0)] [(.int (1 : Int32)), (.ref b101)])) rfl rfl (hb hby d_prog_99_method_5_16) _ k) ?_
  refine Go.step (T' := T129) (g' := (mkF m 19 #[.val (.ref a1), .val (.ref b101), .val (.int (2 : Int32)), .val (.int (1 : Int32)), .val (.ref w1)] [])) (fun _ k => XS.astore X129.here hx rfl (hb hby d_prog_99_method_5_17) rfl rfl (l' := #[.val (.ref a1), .val (.ref b101), .val (.int (2 : Int32)), .val (.int (1 : Int32)), .val (.ref w1)]) rfl k) ?_
  refine Go.step (T' := T129) (g' := (mkF m 20 #[.val (.ref a1), .val (.ref b101), .val (.int (2 : Int32)), .val (.int (1 : Int32)), .val (.ref w1)] [(.ref a1)])) (fun _ k => XS.aloadN X129.here hx rfl (hb hby d_prog_99_method_5_19) rfl rfl k) ?_
  refine Go.step (T' := T129) (g' := (mkF m 22 #[.val (.ref a1), .val (.ref b101), .val (.int (2 : Int32)), .val (.int (1 : Int32)), .val (.ref w1)] [(.ref w1), (.ref a1)])) (fun _ k => XS.aload X129.here hx rfl (hb hby d_prog_99_method_5_20) rfl rfl k) ?_
  refine Go.step (T' := T129) (g' := (mkF m 24 #[.val (.ref a1), .val (.ref b101), .val (.int (2 : Int32)), .val (.int (1 : Int32)), .val (.ref w1)] [(.ref w1), (.ref w1), (.ref a1)])) (fun _ k => XS.aload X129.here hx rfl (hb hby d_prog_99_method_5_22) rfl rfl k) ?_
  obtain ⟨cq147, kq147, q147a, q147b, q147c⟩ := isOf hZ rfl F136
  obtain ⟨_, _, ⟨T147, L147, k147, n147⟩, -, X147, ⟨Lc147, hQ147, l147, y147, z147⟩, st147⟩ := X129.virtualBack hx (y := (⟨"com/example/tuples_under_lock/tuplesunderlock/Setting", "defaultValue", "()I"⟩ : MethodName)) (z := (⟨"com/example/tuples_under_lock/tuplesunderlock/Setting", "defaultValue", "()I"⟩ : MethodName)) hown (mvT hZ (hw _ (List.mem_of_getElem? (i := 39) rfl))) (mvT hZ (hw _ (List.mem_of_getElem? (i := 40) rfl))) (notFace_of_selects (args := #[]) (mvT hZ (hw _ (List.mem_of_getElem? (i := 42) rfl)))) (mvT hZ (hw _ (List.mem_of_getElem? (i := 42) rfl))) (mvT hZ (hw _ (List.mem_of_getElem? (i := 41) rfl))) (by decide) (backOf (W := 2) (Q := Qret (some (.int (1000 : Int32))) T129.heap n0) (own_dfv l Z a0 hw [] w1 (1000 : Int32) T129.heap n0 Z129 F138) hZ (hw _ (List.mem_of_getElem? (i := 43) rfl)) (hw _ (List.mem_of_getElem? (i := 23) rfl)) (by decide) (by decide)) q147a q147c (g := (mkF m 24 #[.val (.ref a1), .val (.ref b101), .val (.int (2 : Int32)), .val (.int (1 : Int32)), .val (.ref w1)] [(.ref w1), (.ref w1), (.ref a1)])) rfl (by rw [hml]; rfl) (Steps.refl _) (argsL := []) (rest := [(.ref w1), (.ref a1)]) (lenOf own_pd0 rfl) rfl (by show 2 * 0 + _ ≤ _; exact Nat.le_of_eq rfl) (hb hby d_prog_99_method_5_24) (fun _ _ => ⟨rfl, rfl, (by decide : 1 + 0 ≤ _), (by decide : 2 + 0 ≤ _)⟩)
  dsimp only [Pt.U, Pt.locs, Pt.cells, Pt.slots] at X147 l147 y147 z147 st147 hQ147
  subst l147 y147 z147
  obtain ⟨rfl, N147q, eh147⟩ := hQ147
  have N147 := Fr.app N129 N147q
  refine Go.step (T' := T147) (g' := (mkF m 27 #[.val (.ref a1), .val (.ref b101), .val (.int (2 : Int32)), .val (.int (1 : Int32)), .val (.ref w1)] [(.int (1000 : Int32)), (.ref w1), (.ref a1)])) (fun _ k => st147.trans k) ?_
  obtain ⟨cq148, kq148, q148a, q148b, q148c⟩ := isOf hZ eh147 F139
  obtain ⟨_, _, ⟨T148, L148, k148, n148⟩, -, X148, ⟨Lc148, hQ148, l148, y148, z148⟩, st148⟩ := X147.virtualBack hx (y := (⟨"com/example/tuples_under_lock/tuplesunderlock/Settings", "set", "(Lcom/example/tuples_under_lock/tuplesunderlock/Setting;I)V"⟩ : MethodName)) (z := (⟨"com/example/tuples_under_lock/tuplesunderlock/Settings", "set", "(Lcom/example/tuples_under_lock/tuplesunderlock/Setting;I)V"⟩ : MethodName)) hown (mvT hZ (hw _ (List.mem_of_getElem? (i := 46) rfl))) (mvT hZ (hw _ (List.mem_of_getElem? (i := 47) rfl))) (notFace_of_selects (args := #[]) (mvT hZ (hw _ (List.mem_of_getElem? (i := 49) rfl)))) (mvT hZ (hw _ (List.mem_of_getElem? (i := 49) rfl))) (mvT hZ (hw _ (List.mem_of_getElem? (i := 48) rfl))) (by decide) (backOf (W := 0) (Q := Qset Z sa va ks kv [(.int (0 : Int32)), (.int (1000 : Int32))] [(.int (0 : Int32)), (.int (1000 : Int32))] T129.heap n0) (own_set1 l Z a0 hw [] a1 w1 (1000 : Int32) sa va ks kv (.int (0 : Int32)) x1 (.int (0 : Int32)) y1 T129.heap n0 Z129 F139 F136 F137 F140 F141 F142 F143 U129a U129b nsv n1s n1v nw1sa nw1va gs gv) hZ (hw _ (List.mem_of_getElem? (i := 50) rfl)) (hw _ (List.mem_of_getElem? (i := 2) rfl)) (by decide) (by decide)) q148a q148c (g := (mkF m 27 #[.val (.ref a1), .val (.ref b101), .val (.int (2 : Int32)), .val (.int (1 : Int32)), .val (.ref w1)] [(.int (1000 : Int32)), (.ref w1), (.ref a1)])) rfl (by rw [hml]; rfl) (Steps.refl _) (argsL := [(.ref w1), (.int (1000 : Int32))]) (rest := []) (lenOf own_pd2 rfl) rfl (by show 2 * 0 + _ ≤ _; exact Nat.le_of_eq rfl) (hb hby d_prog_99_method_5_27) (fun _ _ => ⟨rfl, eh147, (by decide : 1 + 0 ≤ _), (by decide : 2 + 0 ≤ _)⟩)
  dsimp only [Pt.U, Pt.locs, Pt.cells, Pt.slots] at X148 l148 y148 z148 st148 hQ148
  subst l148 y148 z148
  obtain ⟨rfl, N148q, K148, U148a, U148b⟩ := hQ148
  have N148 := Fr.app N147 N148q
  have KK148 := KK129.trans K148 (allS (Or.inl (List.mem_of_getElem? (i := 0) rfl)) (allS (Or.inl (List.mem_of_getElem? (i := 1) rfl)) all0))
  have Z148 : n0 ≤ T148.heap.size := Nat.le_trans Z129 K148.1
  have F149 := own_sta_keep F130 K148 (allS (own_plain F142) (allS (own_plain F143) all0))
  have F150 := F131.keep K148
  have F151 := F132.keep K148 (ninS nvzsa (ninS nvzva nin0))
  have F152 := F133.keep K148
  have F153 := F134.keep K148 (ninS nw0sa (ninS nw0va nin0))
  have F154 := F135.keep K148 (ninS nw0sa (ninS nw0va nin0))
  have F155 := F136.keep K148
  have F156 := F137.keep K148 (ninS nw1sa (ninS nw1va nin0))
  have F157 := F138.keep K148 (ninS nw1sa (ninS nw1va nin0))
  have F158 := F139.keep K148
  have F159 := F140.keep K148 (ninS n1s (ninS n1v nin0))
  have F160 := F141.keep K148 (ninS n1s (ninS n1v nin0))
  have F161 := F142.keep K148
  have F162 := F143.keep K148
  have F163 := F144.keep K148
  have F164 := F145.keep K148 (ninS (Ne.symm ne106) (ninS (Ne.symm ne107) nin0))
  refine Go.step (T' := T148) (g' := (mkF m 30 #[.val (.ref a1), .val (.ref b101), .val (.int (2 : Int32)), .val (.int (1 : Int32)), .val (.ref w1)] [])) (fun _ k => st148.trans k) ?_
  refine Go.step (T' := T148) (g' := (mkF m 33 #[.val (.ref a1), .val (.ref b101), .val (.int (2 : Int32)), .val (.int (2 : Int32)), .val (.ref w1)] [])) (fun _ k => XS.iinc X148.here hx rfl (hb hby d_prog_99_method_5_30) rfl (l' := #[.val (.ref a1), .val (.ref b101), .val (.int (2 : Int32)), .val (.int (2 : Int32)), .val (.ref w1)]) rfl k) ?_
  refine Go.step (T' := T148) (g' := (mkF m 9 #[.val (.ref a1), .val (.ref b101), .val (.int (2 : Int32)), .val (.int (2 : Int32)), .val (.ref w1)] [])) (fun _ k => XS.goto X148.here hx rfl (pc0 := 33) (pc' := 9) rfl (hb hby d_prog_99_method_5_33) (by decide) (by decide) k) ?_
  refine Go.step (T' := T148) (g' := (mkF m 10 #[.val (.ref a1), .val (.ref b101), .val (.int (2 : Int32)), .val (.int (2 : Int32)), .val (.ref w1)] [(.int (2 : Int32))])) (fun _ k => XS.iloadN X148.here hx rfl (hb hby d_prog_99_method_5_9) rfl  k) ?_
  refine Go.step (T' := T148) (g' := (mkF m 11 #[.val (.ref a1), .val (.ref b101), .val (.int (2 : Int32)), .val (.int (2 : Int32)), .val (.ref w1)] [(.int (2 : Int32)), (.int (2 : Int32))])) (fun _ k => XS.iloadN X148.here hx rfl (hb hby d_prog_99_method_5_10) rfl  k) ?_
  refine Go.step (T' := T148) (g' := (mkF m 36 #[.val (.ref a1), .val (.ref b101), .val (.int (2 : Int32)), .val (.int (2 : Int32)), .val (.ref w1)] [])) (fun _ k => XS.icmpYes X148.here hx rfl (pc0 := 11) (pc' := 36) rfl (hb hby d_prog_99_method_5_11) rfl (flt (by decide : ¬ ((2 : Int32) < (2 : Int32)))).2.1 (by decide) (by decide) k) ?_
  exact Go.retV X148 hx hret hlk (hb hby d_prog_99_method_5_36) (⟨rfl, N148, KK148, U148a, U148b⟩) (by decide) (by decide)
def Qini (Z : State) (a : Addr) (u : Value) (h0 : Heap) (n0 : Nat) (v : Option Value) (h : Heap) (L : List Loc) : Prop := ∃ (sa va : Addr) (ks kv : ClassId), v = none ∧ Fr n0 L ∧ Keep h0 h [a] ∧ h0.size ≤ sa ∧ h0.size ≤ va ∧ sa ≠ va ∧ Fld Z h a "com/example/tuples_under_lock/tuplesunderlock/Settings" "sessionValues" "[I" (.ref sa) ∧ Fld Z h a "com/example/tuples_under_lock/tuplesunderlock/Settings" "values" "[I" (.ref va) ∧ Fld Z h a "com/example/tuples_under_lock/tuplesunderlock/Settings" "sessionValuesAtBegin" "[I" u ∧ Exa Z h sa "[I" ∧ Exa Z h va "[I" ∧ Arv Z h sa ks .int 2 [(.int (0 : Int32)), (.int (1000 : Int32))] (.int (0 : Int32)) ∧ Arv Z h va kv .int 2 [(.int (0 : Int32)), (.int (1000 : Int32))] (.int (0 : Int32))
theorem own_ef_prog_99_method_1_code_R (m : MethodId) (x0 : Addr) : entryFrame m #[(.ref x0)] 1 = mkF m 0 #[.val (.ref x0)] [] := by first | (simp [entryFrame, mkF, argsToLocals, Value.category]; done) | rfl | (simp [entryFrame, mkF, argsToLocals, own_cI, own_cJ, own_cR, own_cN]; done)
theorem d_prog_99_method_1_0 : decode prog_99_method_1_code 0 = .ok (.aload_n 0, 1) := by decide +kernel
theorem d_prog_99_method_1_1 : decode prog_99_method_1_code 1 = .ok (.invokespecial 1, 3) := by decide +kernel
theorem d_prog_99_method_1_4 : decode prog_99_method_1_code 4 = .ok (.aload_n 0, 1) := by decide +kernel
theorem d_prog_99_method_1_5 : decode prog_99_method_1_code 5 = .ok (.getstatic 7, 3) := by decide +kernel
theorem d_prog_99_method_1_8 : decode prog_99_method_1_code 8 = .ok (.newarray .int, 2) := by decide +kernel
theorem d_prog_99_method_1_10 : decode prog_99_method_1_code 10 = .ok (.putfield 13, 3) := by decide +kernel
theorem d_prog_99_method_1_13 : decode prog_99_method_1_code 13 = .ok (.aload_n 0, 1) := by decide +kernel
theorem d_prog_99_method_1_14 : decode prog_99_method_1_code 14 = .ok (.getstatic 7, 3) := by decide +kernel
theorem d_prog_99_method_1_17 : decode prog_99_method_1_code 17 = .ok (.newarray .int, 2) := by decide +kernel
theorem d_prog_99_method_1_19 : decode prog_99_method_1_code 19 = .ok (.putfield 17, 3) := by decide +kernel
theorem d_prog_99_method_1_22 : decode prog_99_method_1_code 22 = .ok (.aload_n 0, 1) := by decide +kernel
theorem d_prog_99_method_1_23 : decode prog_99_method_1_code 23 = .ok (.invokevirtual 20, 3) := by decide +kernel
theorem own_pd3 : parseMethodDescriptor "()V" = some ⟨[], none⟩ := by decide +kernel
theorem d_prog_99_method_1_26 : decode prog_99_method_1_code 26 = .ok (.return_, 1) := by decide +kernel
set_option maxRecDepth 65536 in
set_option maxHeartbeats 40000000 in
theorem own_ini (l : Launch) (Z : State) (a0 : Array Value) (hw : ∀ d ∈ tables_1, d.before a0 Z = true) (ws : List Jvm.Cond) (a1 : Addr) (vz w0 w1 : Addr) (kz : ClassId) (u0 u1 u2 : Value) (h0 : Heap) (n0 : Nat) (Z0 : n0 ≤ h0.size) (Sz : Sta Z h0 "com/example/tuples_under_lock/tuplesunderlock/Setting" "$VALUES" "[Lcom/example/tuples_under_lock/tuplesunderlock/Setting;" (.ref vz)) (Ez : Exa Z h0 vz "[Lcom/example/tuples_under_lock/tuplesunderlock/Setting;") (Vz : Arv Z h0 vz kz (.object "com/example/tuples_under_lock/tuplesunderlock/Setting") 2 [.ref w0, .ref w1] .null) (Ew0 : Exa Z h0 w0 "com/example/tuples_under_lock/tuplesunderlock/Setting") (Ew1 : Exa Z h0 w1 "com/example/tuples_under_lock/tuplesunderlock/Setting") (Ow0 : Fld Z h0 w0 "java/lang/Enum" "ordinal" "I" (.int (0 : Int32))) (Ow1 : Fld Z h0 w1 "java/lang/Enum" "ordinal" "I" (.int (1 : Int32))) (Dw0 : Fld Z h0 w0 "com/example/tuples_under_lock/tuplesunderlock/Setting" "defaultValue" "I" (.int (0 : Int32))) (Dw1 : Fld Z h0 w1 "com/example/tuples_under_lock/tuplesunderlock/Setting" "defaultValue" "I" (.int (1000 : Int32))) (Sn : Sta Z h0 "com/example/tuples_under_lock/tuplesunderlock/Settings" "COUNT" "I" (.int (2 : Int32))) (E1 : Exa Z h0 a1 "com/example/tuples_under_lock/tuplesunderlock/Settings") (g1 : n0 ≤ a1) (U0 : Fld Z h0 a1 "com/example/tuples_under_lock/tuplesunderlock/Settings" "sessionValues" "[I" u0) (U1 : Fld Z h0 a1 "com/example/tuples_under_lock/tuplesunderlock/Settings" "values" "[I" u1) (U2 : Fld Z h0 a1 "com/example/tuples_under_lock/tuplesunderlock/Settings" "sessionValuesAtBegin" "[I" u2) (nw01 : w0 ≠ a1) (nw11 : w1 ≠ a1) (nvz1 : vz ≠ a1) :
    Con l Z (⟨"com/example/tuples_under_lock/tuplesunderlock/Settings", "<init>", "()V"⟩ : MethodName) prog_99_method_1_code 1 none ({ frames := 3, cells := 3, slots := 6, locals := 43 } : Room) ws #[(.ref a1)] h0 (Qini Z a1 u2 h0 n0) 3 6 := by
  refine Con.of (plainFor_of_name own_pn_Settings) ?_
  intro pgm e s m below meth c s₁ X0 hx hZ hby hml hown hnm hret hlk e0 hs0
  have N0 := Fr.nil n0
  have hown : s.vm.findClass "com/example/tuples_under_lock/tuplesunderlock/Settings" = some m.cls := hown
  have hnm : meth.name = "<init>" := hnm
  refine Go.cast (own_ef_prog_99_method_1_code_R m a1) ?_
  have K0 := Keep.refl h0 [a1]
  refine Go.step (T' := s₁) (g' := (mkF m 1 #[.val (.ref a1)] [(.ref a1)])) (fun _ k => XS.aloadN X0.here hx rfl (hb hby d_prog_99_method_1_0) rfl rfl k) ?_
  obtain ⟨T101, X101, e101, st101⟩ := initO X0 hx hZ hown (hw _ (List.mem_of_getElem? (i := 6) rfl)) (hw _ (List.mem_of_getElem? (i := 7) rfl)) (hw _ (List.mem_of_getElem? (i := 8) rfl)) e0 (g := (mkF m 1 #[.val (.ref a1)] [(.ref a1)])) rfl (by rw [hml]; rfl) rfl (hb hby d_prog_99_method_1_1) (by decide) (W := 0) (by show 2 * 0 + _ ≤ _; exact Nat.le_of_eq rfl) (by decide)
  refine Go.step (T' := T101) (g' := (mkF m 4 #[.val (.ref a1)] [])) st101 ?_
  refine Go.step (T' := T101) (g' := (mkF m 5 #[.val (.ref a1)] [(.ref a1)])) (fun _ k => XS.aloadN X101.here hx rfl (hb hby d_prog_99_method_1_4) rfl rfl k) ?_
  obtain ⟨T102, X102, e102, st102⟩ := getS2 X101 hx hZ hown (host := "") (Or.inl (hw _ (List.mem_of_getElem? (i := 9) rfl))) Via.refl e101 Sn (g := (mkF m 5 #[.val (.ref a1)] [(.ref a1)])) rfl (hb hby d_prog_99_method_1_5)
  refine Go.step (T' := T102) (g' := (mkF m 8 #[.val (.ref a1)] [(.int (2 : Int32)), (.ref a1)])) st102 ?_
  obtain ⟨T103, h103, k103, X103, e103, E103, A103, EA103, st103⟩ := newPE X102 hx hZ (hw _ (List.mem_of_getElem? (i := 11) rfl)) e102 (g := (mkF m 8 #[.val (.ref a1)] [(.int (2 : Int32)), (.ref a1)])) rfl (hb hby d_prog_99_method_1_8) rfl (by decide) (cap := 2) (by decide) (by decide) (by decide) (by decide) (ad := "[I") (by decide)
  obtain ⟨b103, g103⟩ : ∃ z, z = h0.size := ⟨_, rfl⟩
  rw [← g103] at A103 EA103 st103
  have ne104 : vz ≠ b103 := by have q := Ez.lt; intro r; rw [r, g103] at q; exact Nat.lt_irrefl _ q
  have ne105 : w0 ≠ b103 := by have q := Ew0.lt; intro r; rw [r, g103] at q; exact Nat.lt_irrefl _ q
  have ne106 : w1 ≠ b103 := by have q := Ew1.lt; intro r; rw [r, g103] at q; exact Nat.lt_irrefl _ q
  have ne107 : a1 ≠ b103 := by have q := E1.lt; intro r; rw [r, g103] at q; exact Nat.lt_irrefl _ q
  have ge103 : n0 ≤ b103 := Nat.le_trans Z0 (Nat.le_of_eq g103.symm)
  have Z103 : n0 ≤ h103.size := Nat.le_trans Z0 E103.1
  have sz103 : h0.size ≤ b103 := Nat.le_trans K0.1 (Nat.le_of_eq g103.symm)
  have K103 := K0.ext E103
  have F108 := Sz.ext E103
  have F109 := Ez.ext E103
  have F110 := Vz.ext E103
  have F111 := Ew0.ext E103
  have F112 := Ow0.ext E103
  have F113 := Dw0.ext E103
  have F114 := Ew1.ext E103
  have F115 := Ow1.ext E103
  have F116 := Dw1.ext E103
  have F117 := Sn.ext E103
  have F118 := E1.ext E103
  have F119 := U0.ext E103
  have F120 := U1.ext E103
  have F121 := U2.ext E103
  have V103 : Arv Z h103 b103 k103 .int (2 : Int32) [(.int (0 : Int32)), (.int (0 : Int32))] (.int (0 : Int32)) := (Arv.new A103 (by decide)).pad (pad_rep [] (.int (0 : Int32)) 2)
  refine Go.step (T' := T103) (g' := (mkF m 10 #[.val (.ref a1)] [(.ref b103), (.ref a1)])) st103 ?_
  obtain ⟨T122, h122, X122, e122, W122, st122⟩ := putF X103 hx hZ hown (host := "") (Or.inl (hw _ (List.mem_of_getElem? (i := 12) rfl))) Via.refl e103 F119 F118 (Or.inr ⟨(hw _ (List.mem_of_getElem? (i := 13) rfl)), rfl, hnm⟩) (hw _ (List.mem_of_getElem? (i := 1) rfl)) (ty := (.array .int)) (by decide) rfl rfl (g := (mkF m 10 #[.val (.ref a1)] [(.ref b103), (.ref a1)])) rfl rfl (hb hby d_prog_99_method_1_10)
  have N122 := Fr.snoc X122 N0 g1
  have Z122 : n0 ≤ h122.size := Nat.le_trans Z103 (Keep.of_wr W122).1
  have K122 := K103.wr W122 (Or.inl (List.mem_of_getElem? (i := 0) rfl))
  have F123 := F108.wr W122
  have F124 := F109.wr W122
  have F125 := F110.other W122 nvz1
  have F126 := F111.wr W122
  have F127 := F112.other W122 (Or.inl nw01)
  have F128 := F113.other W122 (Or.inl nw01)
  have F129 := F114.wr W122
  have F130 := F115.other W122 (Or.inl nw11)
  have F131 := F116.other W122 (Or.inl nw11)
  have F132 := F117.wr W122
  have F133 := F118.wr W122
  have F134 := F120.other W122 (Or.inr (slot_ne (Or.inr (hw _ (List.mem_of_getElem? (i := 15) rfl))) (Or.inr (hw _ (List.mem_of_getElem? (i := 13) rfl))) (by decide) (t := (.array .int)) (t' := (.array .int)) (by decide) (by decide)))
  have F135 := F121.other W122 (Or.inr (slot_ne (Or.inl (hw _ (List.mem_of_getElem? (i := 75) rfl))) (Or.inr (hw _ (List.mem_of_getElem? (i := 13) rfl))) (by decide) (t := (.array .int)) (t' := (.array .int)) (by decide) (by decide)))
  have F136 := V103.other W122 (Ne.symm ne107)
  have F137 := EA103.wr W122
  have F138 := F119.same W122
  refine Go.step (T' := T122) (g' := (mkF m 13 #[.val (.ref a1)] [])) st122 ?_
  refine Go.step (T' := T122) (g' := (mkF m 14 #[.val (.ref a1)] [(.ref a1)])) (fun _ k => XS.aloadN X122.here hx rfl (hb hby d_prog_99_method_1_13) rfl rfl k) ?_
  obtain ⟨T139, X139, e139, st139⟩ := getS2 X122 hx hZ hown (host := "") (Or.inl (hw _ (List.mem_of_getElem? (i := 9) rfl))) Via.refl e122 F132 (g := (mkF m 14 #[.val (.ref a1)] [(.ref a1)])) rfl (hb hby d_prog_99_method_1_14)
  refine Go.step (T' := T139) (g' := (mkF m 17 #[.val (.ref a1)] [(.int (2 : Int32)), (.ref a1)])) st139 ?_
  obtain ⟨T140, h140, k140, X140, e140, E140, A140, EA140, st140⟩ := newPE X139 hx hZ (hw _ (List.mem_of_getElem? (i := 11) rfl)) e139 (g := (mkF m 17 #[.val (.ref a1)] [(.int (2 : Int32)), (.ref a1)])) rfl (hb hby d_prog_99_method_1_17) rfl (by decide) (cap := 2) (by decide) (by decide) (by decide) (by decide) (ad := "[I") (by decide)
  obtain ⟨b140, g140⟩ : ∃ z, z = h122.size := ⟨_, rfl⟩
  rw [← g140] at A140 EA140 st140
  have ne141 : vz ≠ b140 := by have q := F124.lt; intro r; rw [r, g140] at q; exact Nat.lt_irrefl _ q
  have ne142 : w0 ≠ b140 := by have q := F126.lt; intro r; rw [r, g140] at q; exact Nat.lt_irrefl _ q
  have ne143 : w1 ≠ b140 := by have q := F129.lt; intro r; rw [r, g140] at q; exact Nat.lt_irrefl _ q
  have ne144 : a1 ≠ b140 := by have q := F133.lt; intro r; rw [r, g140] at q; exact Nat.lt_irrefl _ q
  have ne145 : b103 ≠ b140 := by have q := F136.lt; intro r; rw [r, g140] at q; exact Nat.lt_irrefl _ q
  have ge140 : n0 ≤ b140 := Nat.le_trans Z122 (Nat.le_of_eq g140.symm)
  have Z140 : n0 ≤ h140.size := Nat.le_trans Z122 E140.1
  have sz140 : h0.size ≤ b140 := Nat.le_trans K122.1 (Nat.le_of_eq g140.symm)
  have K140 := K122.ext E140
  have F146 := F123.ext E140
  have F147 := F124.ext E140
  have F148 := F125.ext E140
  have F149 := F126.ext E140
  have F150 := F127.ext E140
  have F151 := F128.ext E140
  have F152 := F129.ext E140
  have F153 := F130.ext E140
  have F154 := F131.ext E140
  have F155 := F132.ext E140
  have F156 := F133.ext E140
  have F157 := F134.ext E140
  have F158 := F135.ext E140
  have F159 := F136.ext E140
  have F160 := F137.ext E140
  have F161 := F138.ext E140
  have V140 : Arv Z h140 b140 k140 .int (2 : Int32) [(.int (0 : Int32)), (.int (0 : Int32))] (.int (0 : Int32)) := (Arv.new A140 (by decide)).pad (pad_rep [] (.int (0 : Int32)) 2)
  refine Go.step (T' := T140) (g' := (mkF m 19 #[.val (.ref a1)] [(.ref b140), (.ref a1)])) st140 ?_
  obtain ⟨T162, h162, X162, e162, W162, st162⟩ := putF X140 hx hZ hown (host := "") (Or.inl (hw _ (List.mem_of_getElem? (i := 14) rfl))) Via.refl e140 F157 F156 (Or.inr ⟨(hw _ (List.mem_of_getElem? (i := 15) rfl)), rfl, hnm⟩) (hw _ (List.mem_of_getElem? (i := 1) rfl)) (ty := (.array .int)) (by decide) rfl rfl (g := (mkF m 19 #[.val (.ref a1)] [(.ref b140), (.ref a1)])) rfl rfl (hb hby d_prog_99_method_1_19)
  have N162 := Fr.snoc X162 N122 g1
  have Z162 : n0 ≤ h162.size := Nat.le_trans Z140 (Keep.of_wr W162).1
  have K162 := K140.wr W162 (Or.inl (List.mem_of_getElem? (i := 0) rfl))
  have F163 := F146.wr W162
  have F164 := F147.wr W162
  have F165 := F148.other W162 nvz1
  have F166 := F149.wr W162
  have F167 := F150.other W162 (Or.inl nw01)
  have F168 := F151.other W162 (Or.inl nw01)
  have F169 := F152.wr W162
  have F170 := F153.other W162 (Or.inl nw11)
  have F171 := F154.other W162 (Or.inl nw11)
  have F172 := F155.wr W162
  have F173 := F156.wr W162
  have F174 := F158.other W162 (Or.inr (slot_ne (Or.inl (hw _ (List.mem_of_getElem? (i := 75) rfl))) (Or.inr (hw _ (List.mem_of_getElem? (i := 15) rfl))) (by decide) (t := (.array .int)) (t' := (.array .int)) (by decide) (by decide)))
  have F175 := F159.other W162 (Ne.symm ne107)
  have F176 := F160.wr W162
  have F177 := F161.other W162 (Or.inr (slot_ne (Or.inr (hw _ (List.mem_of_getElem? (i := 13) rfl))) (Or.inr (hw _ (List.mem_of_getElem? (i := 15) rfl))) (by decide) (t := (.array .int)) (t' := (.array .int)) (by decide) (by decide)))
  have F178 := V140.other W162 (Ne.symm ne144)
  have F179 := EA140.wr W162
  have F180 := F157.same W162
  refine Go.step (T' := T162) (g' := (mkF m 22 #[.val (.ref a1)] [])) st162 ?_
  refine Go.step (T' := T162) (g' := (mkF m 23 #[.val (.ref a1)] [(.ref a1)])) (fun _ k => XS.aloadN X162.here hx rfl (hb hby d_prog_99_method_1_22) rfl rfl k) ?_
  obtain ⟨cq181, kq181, q181a, q181b, q181c⟩ := isOf hZ e162 F173
  obtain ⟨_, _, ⟨T181, L181, k181, n181⟩, -, X181, ⟨Lc181, hQ181, l181, y181, z181⟩, st181⟩ := X162.virtualBack hx (y := (⟨"com/example/tuples_under_lock/tuplesunderlock/Settings", "resetAll", "()V"⟩ : MethodName)) (z := (⟨"com/example/tuples_under_lock/tuplesunderlock/Settings", "resetAll", "()V"⟩ : MethodName)) hown (mvT hZ (hw _ (List.mem_of_getElem? (i := 16) rfl))) (mvT hZ (hw _ (List.mem_of_getElem? (i := 17) rfl))) (notFace_of_selects (args := #[]) (mvT hZ (hw _ (List.mem_of_getElem? (i := 19) rfl)))) (mvT hZ (hw _ (List.mem_of_getElem? (i := 19) rfl))) (mvT hZ (hw _ (List.mem_of_getElem? (i := 18) rfl))) (by decide) (backOf (W := 0) (Q := Qset Z b103 b140 k103 k140 [(.int (0 : Int32)), (.int (1000 : Int32))] [(.int (0 : Int32)), (.int (1000 : Int32))] h162 n0) (own_rst l Z a0 hw [] a1 b103 b140 vz w0 w1 k103 k140 kz (.int (0 : Int32)) (.int (0 : Int32)) (.int (0 : Int32)) (.int (0 : Int32)) h162 n0 Z162 F163 F164 F165 F166 F169 F167 F170 F168 F171 F173 F177 F180 F176 F179 F175 F178 ne145 ne107 ne144 ge103 ge140 ne105 ne142 ne106 ne143 ne104 ne141) hZ (hw _ (List.mem_of_getElem? (i := 20) rfl)) (hw _ (List.mem_of_getElem? (i := 2) rfl)) (by decide) (by decide)) q181a q181c (g := (mkF m 23 #[.val (.ref a1)] [(.ref a1)])) rfl (by rw [hml]; rfl) (Steps.refl _) (argsL := []) (rest := []) (lenOf own_pd3 rfl) rfl (by show 2 * 0 + _ ≤ _; exact Nat.le_of_eq rfl) (hb hby d_prog_99_method_1_23) (fun _ _ => ⟨rfl, e162, (by decide : 2 + 1 ≤ _), (by decide : 4 + 2 ≤ _)⟩)
  dsimp only [Pt.U, Pt.locs, Pt.cells, Pt.slots] at X181 l181 y181 z181 st181 hQ181
  subst l181 y181 z181
  obtain ⟨rfl, N181q, K181, U181a, U181b⟩ := hQ181
  have N181 := Fr.app N162 N181q
  have KK181 := K162.trans K181 (allS (Or.inr sz103) (allS (Or.inr sz140) all0))
  have Z181 : n0 ≤ T181.heap.size := Nat.le_trans Z162 K181.1
  have F182 := own_sta_keep F163 K181 (allS (own_plain F176) (allS (own_plain F179) all0))
  have F183 := F164.keep K181
  have F184 := F165.keep K181 (ninS ne104 (ninS ne141 nin0))
  have F185 := F166.keep K181
  have F186 := F167.keep K181 (ninS ne105 (ninS ne142 nin0))
  have F187 := F168.keep K181 (ninS ne105 (ninS ne142 nin0))
  have F188 := F169.keep K181
  have F189 := F170.keep K181 (ninS ne106 (ninS ne143 nin0))
  have F190 := F171.keep K181 (ninS ne106 (ninS ne143 nin0))
  have F191 := own_sta_keep F172 K181 (allS (own_plain F176) (allS (own_plain F179) all0))
  have F192 := F173.keep K181
  have F193 := F174.keep K181 (ninS ne107 (ninS ne144 nin0))
  have F194 := F176.keep K181
  have F195 := F177.keep K181 (ninS ne107 (ninS ne144 nin0))
  have F196 := F179.keep K181
  have F197 := F180.keep K181 (ninS ne107 (ninS ne144 nin0))
  refine Go.step (T' := T181) (g' := (mkF m 26 #[.val (.ref a1)] [])) (fun _ k => st181.trans k) ?_
  exact Go.retV X181 hx hret hlk (hb hby d_prog_99_method_1_26) (⟨b103, b140, _, _, rfl, N181, KK181, sz103, sz140, ne145, F195, F197, F193, F194, F196, U181a, U181b⟩) (by decide) (by decide)
def Qbeg (Z : State) (a sa va : Addr) (ks : ClassId) (x0 x1 : Value) (h0 : Heap) (n0 : Nat) (v : Option Value) (h : Heap) (L : List Loc) : Prop := ∃ b : Addr, v = none ∧ Fr n0 L ∧ Keep h0 h [a] ∧ h0.size ≤ b ∧ Fld Z h a "com/example/tuples_under_lock/tuplesunderlock/Settings" "sessionValues" "[I" (.ref sa) ∧ Fld Z h a "com/example/tuples_under_lock/tuplesunderlock/Settings" "values" "[I" (.ref va) ∧ Fld Z h a "com/example/tuples_under_lock/tuplesunderlock/Settings" "sessionValuesAtBegin" "[I" (.ref b) ∧ Exa Z h b "[I" ∧ Arv Z h b ks .int 2 [x0, x1] (.int (0 : Int32))
theorem own_ef_prog_99_method_6_code_R (m : MethodId) (x0 : Addr) : entryFrame m #[(.ref x0)] 1 = mkF m 0 #[.val (.ref x0)] [] := by first | (simp [entryFrame, mkF, argsToLocals, Value.category]; done) | rfl | (simp [entryFrame, mkF, argsToLocals, own_cI, own_cJ, own_cR, own_cN]; done)
theorem d_prog_99_method_6_0 : decode prog_99_method_6_code 0 = .ok (.aload_n 0, 1) := by decide +kernel
theorem d_prog_99_method_6_1 : decode prog_99_method_6_code 1 = .ok (.aload_n 0, 1) := by decide +kernel
theorem d_prog_99_method_6_2 : decode prog_99_method_6_code 2 = .ok (.getfield 13, 3) := by decide +kernel
theorem d_prog_99_method_6_5 : decode prog_99_method_6_code 5 = .ok (.invokevirtual 39, 3) := by decide +kernel
theorem d_prog_99_method_6_8 : decode prog_99_method_6_code 8 = .ok (.checkcast 40, 3) := by decide +kernel
theorem d_prog_99_method_6_11 : decode prog_99_method_6_code 11 = .ok (.putfield 44, 3) := by decide +kernel
theorem d_prog_99_method_6_14 : decode prog_99_method_6_code 14 = .ok (.return_, 1) := by decide +kernel
set_option maxRecDepth 65536 in
set_option maxHeartbeats 40000000 in
theorem own_beg (l : Launch) (Z : State) (a0 : Array Value) (hw : ∀ d ∈ tables_1, d.before a0 Z = true) (ws : List Jvm.Cond) (a1 sa va : Addr) (ks : ClassId) (x0 x1 u : Value) (h0 : Heap) (n0 : Nat) (Z0 : n0 ≤ h0.size) (E1 : Exa Z h0 a1 "com/example/tuples_under_lock/tuplesunderlock/Settings") (g1 : n0 ≤ a1) (G0 : Fld Z h0 a1 "com/example/tuples_under_lock/tuplesunderlock/Settings" "sessionValues" "[I" (.ref sa)) (G1 : Fld Z h0 a1 "com/example/tuples_under_lock/tuplesunderlock/Settings" "values" "[I" (.ref va)) (G2 : Fld Z h0 a1 "com/example/tuples_under_lock/tuplesunderlock/Settings" "sessionValuesAtBegin" "[I" u) (Es : Exa Z h0 sa "[I") (Vs : Arv Z h0 sa ks .int 2 [x0, x1] (.int (0 : Int32))) (n1s : a1 ≠ sa) :
    Con l Z (⟨"com/example/tuples_under_lock/tuplesunderlock/Settings", "beginBlock", "()V"⟩ : MethodName) prog_99_method_6_code 1 none ({ frames := 1, cells := 1, slots := 2, locals := 15 } : Room) ws #[(.ref a1)] h0 (Qbeg Z a1 sa va ks x0 x1 h0 n0) 1 2 := by
  refine Con.of (plainFor_of_name own_pn_Settings) ?_
  intro pgm e s m below meth c s₁ X0 hx hZ hby hml hown hnm hret hlk e0 hs0
  have N0 := Fr.nil n0
  have hown : s.vm.findClass "com/example/tuples_under_lock/tuplesunderlock/Settings" = some m.cls := hown
  have hnm : meth.name = "beginBlock" := hnm
  refine Go.cast (own_ef_prog_99_method_6_code_R m a1) ?_
  have K0 := Keep.refl h0 [a1]
  refine Go.step (T' := s₁) (g' := (mkF m 1 #[.val (.ref a1)] [(.ref a1)])) (fun _ k => XS.aloadN X0.here hx rfl (hb hby d_prog_99_method_6_0) rfl rfl k) ?_
  refine Go.step (T' := s₁) (g' := (mkF m 2 #[.val (.ref a1)] [(.ref a1), (.ref a1)])) (fun _ k => XS.aloadN X0.here hx rfl (hb hby d_prog_99_method_6_1) rfl rfl k) ?_
  obtain ⟨T101, X101, e101, st101⟩ := getF X0 hx hZ hown (host := "") (Or.inl (hw _ (List.mem_of_getElem? (i := 12) rfl))) Via.refl e0 G0 (g := (mkF m 2 #[.val (.ref a1)] [(.ref a1), (.ref a1)])) rfl rfl (hb hby d_prog_99_method_6_2)
  refine Go.step (T' := T101) (g' := (mkF m 5 #[.val (.ref a1)] [(.ref sa), (.ref a1)])) st101 ?_
  obtain ⟨T102, h102, X102, e102, E102, A102, EA102, st102⟩ := cloneH X101 hx hZ hown (hw _ (List.mem_of_getElem? (i := 68) rfl)) (hw _ (List.mem_of_getElem? (i := 69) rfl)) (hw _ (List.mem_of_getElem? (i := 32) rfl)) (hw _ (List.mem_of_getElem? (i := 30) rfl)) (hw _ (List.mem_of_getElem? (i := 70) rfl)) (hw _ (List.mem_of_getElem? (i := 71) rfl)) e101 (hs := []) Vs Es (g := (mkF m 5 #[.val (.ref a1)] [(.ref sa), (.ref a1)])) rfl (by rw [hml]; rfl) rfl (hb hby d_prog_99_method_6_5) (by decide) (W := 1) (cap := 2) (by show 2 * 0 + _ ≤ _; exact Nat.le_of_eq rfl) (by decide) (by decide) (by decide) (by decide)
  obtain ⟨b102, g102⟩ : ∃ z, z = h0.size := ⟨_, rfl⟩
  rw [← g102] at A102 EA102 st102
  have ne103 : a1 ≠ b102 := by have q := E1.lt; intro r; rw [r, g102] at q; exact Nat.lt_irrefl _ q
  have ne104 : sa ≠ b102 := by have q := Es.lt; intro r; rw [r, g102] at q; exact Nat.lt_irrefl _ q
  have ge102 : n0 ≤ b102 := Nat.le_trans Z0 (Nat.le_of_eq g102.symm)
  have Z102 : n0 ≤ h102.size := Nat.le_trans Z0 E102.1
  have sz102 : h0.size ≤ b102 := Nat.le_trans K0.1 (Nat.le_of_eq g102.symm)
  have K102 := K0.ext E102
  have F105 := E1.ext E102
  have F106 := G0.ext E102
  have F107 := G1.ext E102
  have F108 := G2.ext E102
  have F109 := Es.ext E102
  have F110 := Vs.ext E102
  have V102 : Arv Z h102 b102 ks .int (2 : Int32) [x0, x1] (.int (0 : Int32)) := A102
  refine Go.step (T' := T102) (g' := (mkF m 8 #[.val (.ref a1)] [(.ref b102), (.ref a1)])) st102 ?_
  obtain ⟨T111, X111, e111, st111⟩ := castY X102 hx hZ hown (hw _ (List.mem_of_getElem? (i := 72) rfl)) e102 (Ins.self EA102) (g := (mkF m 8 #[.val (.ref a1)] [(.ref b102), (.ref a1)])) rfl rfl (hb hby d_prog_99_method_6_8)
  refine Go.step (T' := T111) (g' := (mkF m 11 #[.val (.ref a1)] [(.ref b102), (.ref a1)])) st111 ?_
  obtain ⟨T112, h112, X112, e112, W112, st112⟩ := putF X111 hx hZ hown (host := "") (Or.inl (hw _ (List.mem_of_getElem? (i := 74) rfl))) Via.refl e111 F108 F105 (Or.inl (hw _ (List.mem_of_getElem? (i := 75) rfl))) (hw _ (List.mem_of_getElem? (i := 1) rfl)) (ty := (.array .int)) (by decide) rfl rfl (g := (mkF m 11 #[.val (.ref a1)] [(.ref b102), (.ref a1)])) rfl rfl (hb hby d_prog_99_method_6_11)
  have N112 := Fr.snoc X112 N0 g1
  have Z112 : n0 ≤ h112.size := Nat.le_trans Z102 (Keep.of_wr W112).1
  have K112 := K102.wr W112 (Or.inl (List.mem_of_getElem? (i := 0) rfl))
  have F113 := F105.wr W112
  have F114 := F106.other W112 (Or.inr (slot_ne (Or.inr (hw _ (List.mem_of_getElem? (i := 13) rfl))) (Or.inl (hw _ (List.mem_of_getElem? (i := 75) rfl))) (by decide) (t := (.array .int)) (t' := (.array .int)) (by decide) (by decide)))
  have F115 := F107.other W112 (Or.inr (slot_ne (Or.inr (hw _ (List.mem_of_getElem? (i := 15) rfl))) (Or.inl (hw _ (List.mem_of_getElem? (i := 75) rfl))) (by decide) (t := (.array .int)) (t' := (.array .int)) (by decide) (by decide)))
  have F116 := F109.wr W112
  have F117 := F110.other W112 (Ne.symm n1s)
  have F118 := V102.other W112 (Ne.symm ne103)
  have F119 := EA102.wr W112
  have F120 := F108.same W112
  refine Go.step (T' := T112) (g' := (mkF m 14 #[.val (.ref a1)] [])) st112 ?_
  exact Go.retV X112 hx hret hlk (hb hby d_prog_99_method_6_14) (by rw [e112]; exact ⟨b102, rfl, N112, K112, sz102, F114, F115, F120, F119, F118⟩) (by decide) (by decide)
def Qend (Z : State) (a sa va : Addr) (kv : ClassId) (y0 y1 : Value) (h0 : Heap) (n0 : Nat) (v : Option Value) (h : Heap) (L : List Loc) : Prop := v = none ∧ Fr n0 L ∧ Keep h0 h [a, sa, va] ∧ Fld Z h a "com/example/tuples_under_lock/tuplesunderlock/Settings" "values" "[I" (.ref va) ∧ Arv Z h va kv .int 2 [y0, y1] (.int (0 : Int32))
theorem own_ef_prog_99_method_7_code_RI (m : MethodId) (x0 : Addr) (x1 : Int32) : entryFrame m #[(.ref x0), (.int x1)] 2 = mkF m 0 #[.val (.ref x0), .val (.int x1)] [] := by first | (simp [entryFrame, mkF, argsToLocals, Value.category]; done) | rfl | (simp [entryFrame, mkF, argsToLocals, own_cI, own_cJ, own_cR, own_cN]; done)
theorem d_prog_99_method_7_0 : decode prog_99_method_7_code 0 = .ok (.iload_n 1, 1) := by decide +kernel
theorem d_prog_99_method_7_1 : decode prog_99_method_7_code 1 = .ok (.ifCond .ne 19, 3) := by decide +kernel
theorem d_prog_99_method_7_4 : decode prog_99_method_7_code 4 = .ok (.aload_n 0, 1) := by decide +kernel
theorem d_prog_99_method_7_5 : decode prog_99_method_7_code 5 = .ok (.getfield 44, 3) := by decide +kernel
theorem d_prog_99_method_7_8 : decode prog_99_method_7_code 8 = .ok (.iconst 0, 1) := by decide +kernel
theorem d_prog_99_method_7_9 : decode prog_99_method_7_code 9 = .ok (.aload_n 0, 1) := by decide +kernel
theorem d_prog_99_method_7_10 : decode prog_99_method_7_code 10 = .ok (.getfield 13, 3) := by decide +kernel
theorem d_prog_99_method_7_13 : decode prog_99_method_7_code 13 = .ok (.iconst 0, 1) := by decide +kernel
theorem d_prog_99_method_7_14 : decode prog_99_method_7_code 14 = .ok (.getstatic 7, 3) := by decide +kernel
theorem d_prog_99_method_7_17 : decode prog_99_method_7_code 17 = .ok (.invokestatic 47, 3) := by decide +kernel
theorem d_prog_99_method_7_20 : decode prog_99_method_7_code 20 = .ok (.aload_n 0, 1) := by decide +kernel
theorem d_prog_99_method_7_21 : decode prog_99_method_7_code 21 = .ok (.getfield 13, 3) := by decide +kernel
theorem d_prog_99_method_7_24 : decode prog_99_method_7_code 24 = .ok (.iconst 0, 1) := by decide +kernel
theorem d_prog_99_method_7_25 : decode prog_99_method_7_code 25 = .ok (.aload_n 0, 1) := by decide +kernel
theorem d_prog_99_method_7_26 : decode prog_99_method_7_code 26 = .ok (.getfield 17, 3) := by decide +kernel
theorem d_prog_99_method_7_29 : decode prog_99_method_7_code 29 = .ok (.iconst 0, 1) := by decide +kernel
theorem d_prog_99_method_7_30 : decode prog_99_method_7_code 30 = .ok (.getstatic 7, 3) := by decide +kernel
theorem d_prog_99_method_7_33 : decode prog_99_method_7_code 33 = .ok (.invokestatic 47, 3) := by decide +kernel
theorem d_prog_99_method_7_36 : decode prog_99_method_7_code 36 = .ok (.aload_n 0, 1) := by decide +kernel
theorem d_prog_99_method_7_37 : decode prog_99_method_7_code 37 = .ok (.aconst_null, 1) := by decide +kernel
theorem d_prog_99_method_7_38 : decode prog_99_method_7_code 38 = .ok (.putfield 44, 3) := by decide +kernel
theorem d_prog_99_method_7_41 : decode prog_99_method_7_code 41 = .ok (.return_, 1) := by decide +kernel
set_option maxRecDepth 65536 in
set_option maxHeartbeats 40000000 in
theorem own_end0 (l : Launch) (Z : State) (a0 : Array Value) (hw : ∀ d ∈ tables_1, d.before a0 Z = true) (ws : List Jvm.Cond) (a1 : Addr) (p : Int32) (sa va ba : Addr) (ks kv kb : ClassId) (x0 x1 y0 y1 c0 c1 : Value) (h0 : Heap) (n0 : Nat) (Z0 : n0 ≤ h0.size) (Sn : Sta Z h0 "com/example/tuples_under_lock/tuplesunderlock/Settings" "COUNT" "I" (.int (2 : Int32))) (E1 : Exa Z h0 a1 "com/example/tuples_under_lock/tuplesunderlock/Settings") (g1 : n0 ≤ a1) (G0 : Fld Z h0 a1 "com/example/tuples_under_lock/tuplesunderlock/Settings" "sessionValues" "[I" (.ref sa)) (G1 : Fld Z h0 a1 "com/example/tuples_under_lock/tuplesunderlock/Settings" "values" "[I" (.ref va)) (G2 : Fld Z h0 a1 "com/example/tuples_under_lock/tuplesunderlock/Settings" "sessionValuesAtBegin" "[I" (.ref ba)) (Es : Exa Z h0 sa "[I") (Ev : Exa Z h0 va "[I") (Vs : Arv Z h0 sa ks .int 2 [x0, x1] (.int (0 : Int32))) (Vv : Arv Z h0 va kv .int 2 [y0, y1] (.int (0 : Int32))) (Vb : Arv Z h0 ba kb .int 2 [c0, c1] (.int (0 : Int32))) (nsv : sa ≠ va) (n1s : a1 ≠ sa) (n1v : a1 ≠ va) (nbs : ba ≠ sa) (nbv : ba ≠ va) (n1b : a1 ≠ ba) (gs : n0 ≤ sa) (gv : n0 ≤ va) (hp : p = (0 : Int32)) :
    Con l Z (⟨"com/example/tuples_under_lock/tuplesunderlock/Settings", "endBlock", "(Z)V"⟩ : MethodName) prog_99_method_7_code 2 none ({ frames := 1, cells := 0, slots := 0, locals := 18 } : Room) ws #[(.ref a1), (.int p)] h0 (Qend Z a1 sa va kv c0 c1 h0 n0) 0 0 := by
  refine Con.of (plainFor_of_name own_pn_Settings) ?_
  intro pgm e s m below meth c s₁ X0 hx hZ hby hml hown hnm hret hlk e0 hs0
  have N0 := Fr.nil n0
  have hown : s.vm.findClass "com/example/tuples_under_lock/tuplesunderlock/Settings" = some m.cls := hown
  have hnm : meth.name = "endBlock" := hnm
  refine Go.cast (own_ef_prog_99_method_7_code_RI m a1 p) ?_
  have K0 := Keep.refl h0 [a1, sa, va]
  refine Go.step (T' := s₁) (g' := (mkF m 1 #[.val (.ref a1), .val (.int p)] [(.int p)])) (fun _ k => XS.iloadN X0.here hx rfl (hb hby d_prog_99_method_7_0) rfl  k) ?_
  refine Go.step (T' := s₁) (g' := (mkF m 4 #[.val (.ref a1), .val (.int p)] [])) (fun _ k => XS.ifNo X0.here hx rfl (hb hby d_prog_99_method_7_1) rfl ((if0 _ _).trans (teq hp).2) k) ?_
  refine Go.step (T' := s₁) (g' := (mkF m 5 #[.val (.ref a1), .val (.int p)] [(.ref a1)])) (fun _ k => XS.aloadN X0.here hx rfl (hb hby d_prog_99_method_7_4) rfl rfl k) ?_
  obtain ⟨T101, X101, e101, st101⟩ := getF X0 hx hZ hown (host := "") (Or.inl (hw _ (List.mem_of_getElem? (i := 74) rfl))) Via.refl e0 G2 (g := (mkF m 5 #[.val (.ref a1), .val (.int p)] [(.ref a1)])) rfl rfl (hb hby d_prog_99_method_7_5)
  refine Go.step (T' := T101) (g' := (mkF m 8 #[.val (.ref a1), .val (.int p)] [(.ref ba)])) st101 ?_
  refine Go.step (T' := T101) (g' := (mkF m 9 #[.val (.ref a1), .val (.int p)] [(.int (0 : Int32)), (.ref ba)])) (fun _ k => XS.iconst X101.here hx rfl (hb hby d_prog_99_method_7_8) k) ?_
  refine Go.step (T' := T101) (g' := (mkF m 10 #[.val (.ref a1), .val (.int p)] [(.ref a1), (.int (0 : Int32)), (.ref ba)])) (fun _ k => XS.aloadN X101.here hx rfl (hb hby d_prog_99_method_7_9) rfl rfl k) ?_
  obtain ⟨T102, X102, e102, st102⟩ := getF X101 hx hZ hown (host := "") (Or.inl (hw _ (List.mem_of_getElem? (i := 12) rfl))) Via.refl e101 G0 (g := (mkF m 10 #[.val (.ref a1), .val (.int p)] [(.ref a1), (.int (0 : Int32)), (.ref ba)])) rfl rfl (hb hby d_prog_99_method_7_10)
  refine Go.step (T' := T102) (g' := (mkF m 13 #[.val (.ref a1), .val (.int p)] [(.ref sa), (.int (0 : Int32)), (.ref ba)])) st102 ?_
  refine Go.step (T' := T102) (g' := (mkF m 14 #[.val (.ref a1), .val (.int p)] [(.int (0 : Int32)), (.ref sa), (.int (0 : Int32)), (.ref ba)])) (fun _ k => XS.iconst X102.here hx rfl (hb hby d_prog_99_method_7_13) k) ?_
  obtain ⟨T103, X103, e103, st103⟩ := getS2 X102 hx hZ hown (host := "") (Or.inl (hw _ (List.mem_of_getElem? (i := 9) rfl))) Via.refl e102 Sn (g := (mkF m 14 #[.val (.ref a1), .val (.int p)] [(.int (0 : Int32)), (.ref sa), (.int (0 : Int32)), (.ref ba)])) rfl (hb hby d_prog_99_method_7_14)
  refine Go.step (T' := T103) (g' := (mkF m 17 #[.val (.ref a1), .val (.int p)] [(.int (2 : Int32)), (.int (0 : Int32)), (.ref sa), (.int (0 : Int32)), (.ref ba)])) st103 ?_
  obtain ⟨T104, h104, L104, X104, e104, N104, KC104, A104, st104⟩ := cpA X103 hx hZ hown (hw _ (List.mem_of_getElem? (i := 86) rfl)) (hw _ (List.mem_of_getElem? (i := 89) rfl)) (hw _ (List.mem_of_getElem? (i := 87) rfl)) (hw _ (List.mem_of_getElem? (i := 88) rfl)) e103 (us := [c0, c1]) (sp := (0 : Int32)) (dp := (0 : Int32)) (nn := (2 : Int32)) Vb Vs (Or.inl ⟨rfl, rfl⟩) (by decide) (by decide) (by decide) (by decide) (by decide) rfl (by show 2 ≤ 2; decide) N0 gs (g := (mkF m 17 #[.val (.ref a1), .val (.int p)] [(.int (2 : Int32)), (.int (0 : Int32)), (.ref sa), (.int (0 : Int32)), (.ref ba)])) rfl (by rw [hml]; rfl) rfl (hb hby d_prog_99_method_7_17) (by decide) (W := 0) (by show 2 * 0 + _ ≤ _; exact Nat.le_of_eq rfl) (by decide)
  have V104 : Arv Z h104 sa ks .int (2 : Int32) [c0, c1] (.int (0 : Int32)) := A104
  have KK104 := K0.trans KC104 (allS (Or.inl (List.mem_of_getElem? (i := 1) rfl)) all0)
  have Z104 : n0 ≤ h104.size := Nat.le_trans Z0 KC104.1
  have F105 := E1.keep KC104
  have F106 := G0.keep KC104 (ninS n1s nin0)
  have F107 := G1.keep KC104 (ninS n1s nin0)
  have F108 := Es.keep KC104
  have F109 := Ev.keep KC104
  have F110 := Vv.keep KC104 (ninS (Ne.symm nsv) nin0)
  have F111 := own_sta_keep Sn KC104 (allS (own_plain Es) all0)
  have F112 := G2.keep KC104 (ninS n1s nin0)
  have F113 := Vb.keep KC104 (ninS nbs nin0)
  refine Go.step (T' := T104) (g' := (mkF m 20 #[.val (.ref a1), .val (.int p)] [])) st104 ?_
  refine Go.step (T' := T104) (g' := (mkF m 21 #[.val (.ref a1), .val (.int p)] [(.ref a1)])) (fun _ k => XS.aloadN X104.here hx rfl (hb hby d_prog_99_method_7_20) rfl rfl k) ?_
  obtain ⟨T114, X114, e114, st114⟩ := getF X104 hx hZ hown (host := "") (Or.inl (hw _ (List.mem_of_getElem? (i := 12) rfl))) Via.refl e104 F106 (g := (mkF m 21 #[.val (.ref a1), .val (.int p)] [(.ref a1)])) rfl rfl (hb hby d_prog_99_method_7_21)
  refine Go.step (T' := T114) (g' := (mkF m 24 #[.val (.ref a1), .val (.int p)] [(.ref sa)])) st114 ?_
  refine Go.step (T' := T114) (g' := (mkF m 25 #[.val (.ref a1), .val (.int p)] [(.int (0 : Int32)), (.ref sa)])) (fun _ k => XS.iconst X114.here hx rfl (hb hby d_prog_99_method_7_24) k) ?_
  refine Go.step (T' := T114) (g' := (mkF m 26 #[.val (.ref a1), .val (.int p)] [(.ref a1), (.int (0 : Int32)), (.ref sa)])) (fun _ k => XS.aloadN X114.here hx rfl (hb hby d_prog_99_method_7_25) rfl rfl k) ?_
  obtain ⟨T115, X115, e115, st115⟩ := getF X114 hx hZ hown (host := "") (Or.inl (hw _ (List.mem_of_getElem? (i := 14) rfl))) Via.refl e114 F107 (g := (mkF m 26 #[.val (.ref a1), .val (.int p)] [(.ref a1), (.int (0 : Int32)), (.ref sa)])) rfl rfl (hb hby d_prog_99_method_7_26)
  refine Go.step (T' := T115) (g' := (mkF m 29 #[.val (.ref a1), .val (.int p)] [(.ref va), (.int (0 : Int32)), (.ref sa)])) st115 ?_
  refine Go.step (T' := T115) (g' := (mkF m 30 #[.val (.ref a1), .val (.int p)] [(.int (0 : Int32)), (.ref va), (.int (0 : Int32)), (.ref sa)])) (fun _ k => XS.iconst X115.here hx rfl (hb hby d_prog_99_method_7_29) k) ?_
  obtain ⟨T116, X116, e116, st116⟩ := getS2 X115 hx hZ hown (host := "") (Or.inl (hw _ (List.mem_of_getElem? (i := 9) rfl))) Via.refl e115 F111 (g := (mkF m 30 #[.val (.ref a1), .val (.int p)] [(.int (0 : Int32)), (.ref va), (.int (0 : Int32)), (.ref sa)])) rfl (hb hby d_prog_99_method_7_30)
  refine Go.step (T' := T116) (g' := (mkF m 33 #[.val (.ref a1), .val (.int p)] [(.int (2 : Int32)), (.int (0 : Int32)), (.ref va), (.int (0 : Int32)), (.ref sa)])) st116 ?_
  obtain ⟨T117, h117, L117, X117, e117, N117, KC117, A117, st117⟩ := cpA X116 hx hZ hown (hw _ (List.mem_of_getElem? (i := 86) rfl)) (hw _ (List.mem_of_getElem? (i := 89) rfl)) (hw _ (List.mem_of_getElem? (i := 87) rfl)) (hw _ (List.mem_of_getElem? (i := 88) rfl)) e116 (us := [c0, c1]) (sp := (0 : Int32)) (dp := (0 : Int32)) (nn := (2 : Int32)) V104 F110 (Or.inl ⟨rfl, rfl⟩) (by decide) (by decide) (by decide) (by decide) (by decide) rfl (by show 2 ≤ 2; decide) N104 gv (g := (mkF m 33 #[.val (.ref a1), .val (.int p)] [(.int (2 : Int32)), (.int (0 : Int32)), (.ref va), (.int (0 : Int32)), (.ref sa)])) rfl (by rw [hml]; rfl) rfl (hb hby d_prog_99_method_7_33) (by decide) (W := 0) (by show 2 * 0 + _ ≤ _; exact Nat.le_of_eq rfl) (by decide)
  have V117 : Arv Z h117 va kv .int (2 : Int32) [c0, c1] (.int (0 : Int32)) := A117
  have KK117 := KK104.trans KC117 (allS (Or.inl (List.mem_of_getElem? (i := 2) rfl)) all0)
  have Z117 : n0 ≤ h117.size := Nat.le_trans Z104 KC117.1
  have F118 := F105.keep KC117
  have F119 := F106.keep KC117 (ninS n1v nin0)
  have F120 := F107.keep KC117 (ninS n1v nin0)
  have F121 := F108.keep KC117
  have F122 := F109.keep KC117
  have F123 := own_sta_keep F111 KC117 (allS (own_plain F109) all0)
  have F124 := F112.keep KC117 (ninS n1v nin0)
  have F125 := F113.keep KC117 (ninS nbv nin0)
  have F126 := V104.keep KC117 (ninS nsv nin0)
  refine Go.step (T' := T117) (g' := (mkF m 36 #[.val (.ref a1), .val (.int p)] [])) st117 ?_
  refine Go.step (T' := T117) (g' := (mkF m 37 #[.val (.ref a1), .val (.int p)] [(.ref a1)])) (fun _ k => XS.aloadN X117.here hx rfl (hb hby d_prog_99_method_7_36) rfl rfl k) ?_
  refine Go.step (T' := T117) (g' := (mkF m 38 #[.val (.ref a1), .val (.int p)] [.null, (.ref a1)])) (fun _ k => XS.aconstNull X117.here hx rfl (hb hby d_prog_99_method_7_37) k) ?_
  obtain ⟨T127, h127, X127, e127, W127, st127⟩ := putF X117 hx hZ hown (host := "") (Or.inl (hw _ (List.mem_of_getElem? (i := 74) rfl))) Via.refl e117 F124 F118 (Or.inl (hw _ (List.mem_of_getElem? (i := 75) rfl))) (hw _ (List.mem_of_getElem? (i := 1) rfl)) (ty := (.array .int)) (by decide) rfl rfl (g := (mkF m 38 #[.val (.ref a1), .val (.int p)] [.null, (.ref a1)])) rfl rfl (hb hby d_prog_99_method_7_38)
  have N127 := Fr.snoc X127 N117 g1
  have Z127 : n0 ≤ h127.size := Nat.le_trans Z117 (Keep.of_wr W127).1
  have K127 := KK117.wr W127 (Or.inl (List.mem_of_getElem? (i := 0) rfl))
  have F128 := F118.wr W127
  have F129 := F119.other W127 (Or.inr (slot_ne (Or.inr (hw _ (List.mem_of_getElem? (i := 13) rfl))) (Or.inl (hw _ (List.mem_of_getElem? (i := 75) rfl))) (by decide) (t := (.array .int)) (t' := (.array .int)) (by decide) (by decide)))
  have F130 := F120.other W127 (Or.inr (slot_ne (Or.inr (hw _ (List.mem_of_getElem? (i := 15) rfl))) (Or.inl (hw _ (List.mem_of_getElem? (i := 75) rfl))) (by decide) (t := (.array .int)) (t' := (.array .int)) (by decide) (by decide)))
  have F131 := F121.wr W127
  have F132 := F122.wr W127
  have F133 := F123.wr W127
  have F134 := F125.other W127 (Ne.symm n1b)
  have F135 := F126.other W127 (Ne.symm n1s)
  have F136 := V117.other W127 (Ne.symm n1v)
  have F137 := F124.same W127
  refine Go.step (T' := T127) (g' := (mkF m 41 #[.val (.ref a1), .val (.int p)] [])) st127 ?_
  exact Go.retV X127 hx hret hlk (hb hby d_prog_99_method_7_41) (by rw [e127]; exact ⟨rfl, N127, K127, F130, F136⟩) (by decide) (by decide)
set_option maxRecDepth 65536 in
set_option maxHeartbeats 40000000 in
theorem own_end1 (l : Launch) (Z : State) (a0 : Array Value) (hw : ∀ d ∈ tables_1, d.before a0 Z = true) (ws : List Jvm.Cond) (a1 : Addr) (p : Int32) (sa va ba : Addr) (ks kv kb : ClassId) (x0 x1 y0 y1 c0 c1 : Value) (h0 : Heap) (n0 : Nat) (Z0 : n0 ≤ h0.size) (Sn : Sta Z h0 "com/example/tuples_under_lock/tuplesunderlock/Settings" "COUNT" "I" (.int (2 : Int32))) (E1 : Exa Z h0 a1 "com/example/tuples_under_lock/tuplesunderlock/Settings") (g1 : n0 ≤ a1) (G0 : Fld Z h0 a1 "com/example/tuples_under_lock/tuplesunderlock/Settings" "sessionValues" "[I" (.ref sa)) (G1 : Fld Z h0 a1 "com/example/tuples_under_lock/tuplesunderlock/Settings" "values" "[I" (.ref va)) (G2 : Fld Z h0 a1 "com/example/tuples_under_lock/tuplesunderlock/Settings" "sessionValuesAtBegin" "[I" (.ref ba)) (Es : Exa Z h0 sa "[I") (Ev : Exa Z h0 va "[I") (Vs : Arv Z h0 sa ks .int 2 [x0, x1] (.int (0 : Int32))) (Vv : Arv Z h0 va kv .int 2 [y0, y1] (.int (0 : Int32))) (Vb : Arv Z h0 ba kb .int 2 [c0, c1] (.int (0 : Int32))) (nsv : sa ≠ va) (n1s : a1 ≠ sa) (n1v : a1 ≠ va) (nbs : ba ≠ sa) (nbv : ba ≠ va) (n1b : a1 ≠ ba) (gs : n0 ≤ sa) (gv : n0 ≤ va) (hp : ¬ p = (0 : Int32)) :
    Con l Z (⟨"com/example/tuples_under_lock/tuplesunderlock/Settings", "endBlock", "(Z)V"⟩ : MethodName) prog_99_method_7_code 2 none ({ frames := 1, cells := 0, slots := 0, locals := 18 } : Room) ws #[(.ref a1), (.int p)] h0 (Qend Z a1 sa va kv x0 x1 h0 n0) 0 0 := by
  refine Con.of (plainFor_of_name own_pn_Settings) ?_
  intro pgm e s m below meth c s₁ X0 hx hZ hby hml hown hnm hret hlk e0 hs0
  have N0 := Fr.nil n0
  have hown : s.vm.findClass "com/example/tuples_under_lock/tuplesunderlock/Settings" = some m.cls := hown
  have hnm : meth.name = "endBlock" := hnm
  refine Go.cast (own_ef_prog_99_method_7_code_RI m a1 p) ?_
  have K0 := Keep.refl h0 [a1, sa, va]
  refine Go.step (T' := s₁) (g' := (mkF m 1 #[.val (.ref a1), .val (.int p)] [(.int p)])) (fun _ k => XS.iloadN X0.here hx rfl (hb hby d_prog_99_method_7_0) rfl  k) ?_
  refine Go.step (T' := s₁) (g' := (mkF m 20 #[.val (.ref a1), .val (.int p)] [])) (fun _ k => XS.ifYes X0.here hx rfl (pc0 := 1) (pc' := 20) rfl (hb hby d_prog_99_method_7_1) rfl ((if0 _ _).trans (feq hp).2) (by decide) (by decide) k) ?_
  refine Go.step (T' := s₁) (g' := (mkF m 21 #[.val (.ref a1), .val (.int p)] [(.ref a1)])) (fun _ k => XS.aloadN X0.here hx rfl (hb hby d_prog_99_method_7_20) rfl rfl k) ?_
  obtain ⟨T101, X101, e101, st101⟩ := getF X0 hx hZ hown (host := "") (Or.inl (hw _ (List.mem_of_getElem? (i := 12) rfl))) Via.refl e0 G0 (g := (mkF m 21 #[.val (.ref a1), .val (.int p)] [(.ref a1)])) rfl rfl (hb hby d_prog_99_method_7_21)
  refine Go.step (T' := T101) (g' := (mkF m 24 #[.val (.ref a1), .val (.int p)] [(.ref sa)])) st101 ?_
  refine Go.step (T' := T101) (g' := (mkF m 25 #[.val (.ref a1), .val (.int p)] [(.int (0 : Int32)), (.ref sa)])) (fun _ k => XS.iconst X101.here hx rfl (hb hby d_prog_99_method_7_24) k) ?_
  refine Go.step (T' := T101) (g' := (mkF m 26 #[.val (.ref a1), .val (.int p)] [(.ref a1), (.int (0 : Int32)), (.ref sa)])) (fun _ k => XS.aloadN X101.here hx rfl (hb hby d_prog_99_method_7_25) rfl rfl k) ?_
  obtain ⟨T102, X102, e102, st102⟩ := getF X101 hx hZ hown (host := "") (Or.inl (hw _ (List.mem_of_getElem? (i := 14) rfl))) Via.refl e101 G1 (g := (mkF m 26 #[.val (.ref a1), .val (.int p)] [(.ref a1), (.int (0 : Int32)), (.ref sa)])) rfl rfl (hb hby d_prog_99_method_7_26)
  refine Go.step (T' := T102) (g' := (mkF m 29 #[.val (.ref a1), .val (.int p)] [(.ref va), (.int (0 : Int32)), (.ref sa)])) st102 ?_
  refine Go.step (T' := T102) (g' := (mkF m 30 #[.val (.ref a1), .val (.int p)] [(.int (0 : Int32)), (.ref va), (.int (0 : Int32)), (.ref sa)])) (fun _ k => XS.iconst X102.here hx rfl (hb hby d_prog_99_method_7_29) k) ?_
  obtain ⟨T103, X103, e103, st103⟩ := getS2 X102 hx hZ hown (host := "") (Or.inl (hw _ (List.mem_of_getElem? (i := 9) rfl))) Via.refl e102 Sn (g := (mkF m 30 #[.val (.ref a1), .val (.int p)] [(.int (0 : Int32)), (.ref va), (.int (0 : Int32)), (.ref sa)])) rfl (hb hby d_prog_99_method_7_30)
  refine Go.step (T' := T103) (g' := (mkF m 33 #[.val (.ref a1), .val (.int p)] [(.int (2 : Int32)), (.int (0 : Int32)), (.ref va), (.int (0 : Int32)), (.ref sa)])) st103 ?_
  obtain ⟨T104, h104, L104, X104, e104, N104, KC104, A104, st104⟩ := cpA X103 hx hZ hown (hw _ (List.mem_of_getElem? (i := 86) rfl)) (hw _ (List.mem_of_getElem? (i := 89) rfl)) (hw _ (List.mem_of_getElem? (i := 87) rfl)) (hw _ (List.mem_of_getElem? (i := 88) rfl)) e103 (us := [x0, x1]) (sp := (0 : Int32)) (dp := (0 : Int32)) (nn := (2 : Int32)) Vs Vv (Or.inl ⟨rfl, rfl⟩) (by decide) (by decide) (by decide) (by decide) (by decide) rfl (by show 2 ≤ 2; decide) N0 gv (g := (mkF m 33 #[.val (.ref a1), .val (.int p)] [(.int (2 : Int32)), (.int (0 : Int32)), (.ref va), (.int (0 : Int32)), (.ref sa)])) rfl (by rw [hml]; rfl) rfl (hb hby d_prog_99_method_7_33) (by decide) (W := 0) (by show 2 * 0 + _ ≤ _; exact Nat.le_of_eq rfl) (by decide)
  have V104 : Arv Z h104 va kv .int (2 : Int32) [x0, x1] (.int (0 : Int32)) := A104
  have KK104 := K0.trans KC104 (allS (Or.inl (List.mem_of_getElem? (i := 2) rfl)) all0)
  have Z104 : n0 ≤ h104.size := Nat.le_trans Z0 KC104.1
  have F105 := E1.keep KC104
  have F106 := G0.keep KC104 (ninS n1v nin0)
  have F107 := G1.keep KC104 (ninS n1v nin0)
  have F108 := Es.keep KC104
  have F109 := Ev.keep KC104
  have F110 := Vs.keep KC104 (ninS nsv nin0)
  have F111 := own_sta_keep Sn KC104 (allS (own_plain Ev) all0)
  have F112 := G2.keep KC104 (ninS n1v nin0)
  have F113 := Vb.keep KC104 (ninS nbv nin0)
  refine Go.step (T' := T104) (g' := (mkF m 36 #[.val (.ref a1), .val (.int p)] [])) st104 ?_
  refine Go.step (T' := T104) (g' := (mkF m 37 #[.val (.ref a1), .val (.int p)] [(.ref a1)])) (fun _ k => XS.aloadN X104.here hx rfl (hb hby d_prog_99_method_7_36) rfl rfl k) ?_
  refine Go.step (T' := T104) (g' := (mkF m 38 #[.val (.ref a1), .val (.int p)] [.null, (.ref a1)])) (fun _ k => XS.aconstNull X104.here hx rfl (hb hby d_prog_99_method_7_37) k) ?_
  obtain ⟨T114, h114, X114, e114, W114, st114⟩ := putF X104 hx hZ hown (host := "") (Or.inl (hw _ (List.mem_of_getElem? (i := 74) rfl))) Via.refl e104 F112 F105 (Or.inl (hw _ (List.mem_of_getElem? (i := 75) rfl))) (hw _ (List.mem_of_getElem? (i := 1) rfl)) (ty := (.array .int)) (by decide) rfl rfl (g := (mkF m 38 #[.val (.ref a1), .val (.int p)] [.null, (.ref a1)])) rfl rfl (hb hby d_prog_99_method_7_38)
  have N114 := Fr.snoc X114 N104 g1
  have Z114 : n0 ≤ h114.size := Nat.le_trans Z104 (Keep.of_wr W114).1
  have K114 := KK104.wr W114 (Or.inl (List.mem_of_getElem? (i := 0) rfl))
  have F115 := F105.wr W114
  have F116 := F106.other W114 (Or.inr (slot_ne (Or.inr (hw _ (List.mem_of_getElem? (i := 13) rfl))) (Or.inl (hw _ (List.mem_of_getElem? (i := 75) rfl))) (by decide) (t := (.array .int)) (t' := (.array .int)) (by decide) (by decide)))
  have F117 := F107.other W114 (Or.inr (slot_ne (Or.inr (hw _ (List.mem_of_getElem? (i := 15) rfl))) (Or.inl (hw _ (List.mem_of_getElem? (i := 75) rfl))) (by decide) (t := (.array .int)) (t' := (.array .int)) (by decide) (by decide)))
  have F118 := F108.wr W114
  have F119 := F109.wr W114
  have F120 := F110.other W114 (Ne.symm n1s)
  have F121 := F111.wr W114
  have F122 := F113.other W114 (Ne.symm n1b)
  have F123 := V104.other W114 (Ne.symm n1v)
  have F124 := F112.same W114
  refine Go.step (T' := T114) (g' := (mkF m 41 #[.val (.ref a1), .val (.int p)] [])) st114 ?_
  exact Go.retV X114 hx hret hlk (hb hby d_prog_99_method_7_41) (by rw [e114]; exact ⟨rfl, N114, K114, F117, F123⟩) (by decide) (by decide)
theorem own_pd4 : parseMethodDescriptor "(Z)V" = some ⟨[.boolean], none⟩ := by decide +kernel
theorem own_pd5 : parseMethodDescriptor "(Lcom/example/tuples_under_lock/tuplesunderlock/Setting;)I" = some ⟨[(.object "com/example/tuples_under_lock/tuplesunderlock/Setting")], some .int⟩ := by decide +kernel
set_option maxRecDepth 65536 in
set_option maxHeartbeats 40000000 in
theorem own_s74 {pgm : Program} {l : Launch} {e : Env} {s : State} {m : MethodId} {args : Array Value} {below : List Frame} {meth : Method} {c : Code} {T0 : State} {locs : List Loc} {cells slots : Nat} {Z : State} {a0 : Array Value} {h0 : Heap} {n0 : Nat} (i0 : Int32) (i1 : Int32) (i2 : Int32) (i3 : Int32) (i4 : Int32) (i5 : Int32) (i6 : Int32) (i7 : Int32) (o : Addr) (sa : Addr) (va : Addr) (ba : Addr) (ks : ClassId) (kv : ClassId) (kb : ClassId) (vz : Addr) (w0 : Addr) (w1 : Addr) (kz : ClassId)
    (X0 : Stand pgm l e room_1 s m args below meth c T0 locs cells slots) (hx : pgm.tables.exec = Jvm.exec) (hZ : Z.Warmed39 s.vm) (hw : ∀ d ∈ tables_1, d.before a0 Z = true) (hby : c.code = code) (hml : c.maxLocals = maxLocals) (hown : s.vm.findClass "com/example/tuples_under_lock/tuplesunderlock/SettingsBeginBlockPinLaw" = some m.cls) (hret : meth.sig.returnType = ret) (hlk : meth.locks = false) (e0 : T0.heap = h0) (N0 : Fr n0 locs) (Z0 : n0 ≤ h0.size) (hcells : cells ≤ 5) (hslots : slots ≤ 16) (f0 : Sta Z h0 "com/example/tuples_under_lock/tuplesunderlock/Setting" "$VALUES" "[Lcom/example/tuples_under_lock/tuplesunderlock/Setting;" (.ref vz)) (f1 : Sta Z h0 "com/example/tuples_under_lock/tuplesunderlock/Setting" "LOCK_TIMEOUT" "Lcom/example/tuples_under_lock/tuplesunderlock/Setting;" (.ref w0)) (f2 : Sta Z h0 "com/example/tuples_under_lock/tuplesunderlock/Setting" "DEADLOCK_TIMEOUT" "Lcom/example/tuples_under_lock/tuplesunderlock/Setting;" (.ref w1)) (f3 : Sta Z h0 "com/example/tuples_under_lock/tuplesunderlock/Settings" "COUNT" "I" (.int (2 : Int32))) (f4 : Exa Z h0 vz "[Lcom/example/tuples_under_lock/tuplesunderlock/Setting;") (f5 : Arv Z h0 vz kz (.object "com/example/tuples_under_lock/tuplesunderlock/Setting") (2 : Int32) [(.ref w0), (.ref w1)] .null) (f6 : Exa Z h0 w0 "com/example/tuples_under_lock/tuplesunderlock/Setting") (f7 : Exa Z h0 w1 "com/example/tuples_under_lock/tuplesunderlock/Setting") (f8 : Fld Z h0 w0 "java/lang/Enum" "ordinal" "I" (.int (0 : Int32))) (f9 : Fld Z h0 w1 "java/lang/Enum" "ordinal" "I" (.int (1 : Int32))) (f10 : Fld Z h0 w0 "com/example/tuples_under_lock/tuplesunderlock/Setting" "defaultValue" "I" (.int (0 : Int32))) (f11 : Fld Z h0 w1 "com/example/tuples_under_lock/tuplesunderlock/Setting" "defaultValue" "I" (.int (1000 : Int32))) (f12 : Exa Z h0 o "com/example/tuples_under_lock/tuplesunderlock/Settings") (f13 : Fld Z h0 o "com/example/tuples_under_lock/tuplesunderlock/Settings" "sessionValues" "[I" (.ref sa)) (f14 : Fld Z h0 o "com/example/tuples_under_lock/tuplesunderlock/Settings" "values" "[I" (.ref va)) (f15 : Fld Z h0 o "com/example/tuples_under_lock/tuplesunderlock/Settings" "sessionValuesAtBegin" "[I" (.ref ba)) (f16 : Exa Z h0 sa "[I") (f17 : Exa Z h0 va "[I") (f18 : Exa Z h0 ba "[I") (f19 : Arv Z h0 sa ks .int (2 : Int32) [(.int i0), (.int i1)] (.int (0 : Int32))) (f20 : Arv Z h0 va kv .int (2 : Int32) [(.int i0), (.int i1)] (.int (0 : Int32))) (f21 : Arv Z h0 ba kb .int (2 : Int32) [(.int i0), (.int i1)] (.int (0 : Int32))) (f22 : n0 ≤ o) (f23 : n0 ≤ sa) (f24 : n0 ≤ va) (f25 : sa ≠ va) (f26 : o ≠ sa) (f27 : o ≠ va) (f28 : o ≠ ba) (f29 : ba ≠ sa) (f30 : ba ≠ va) (f31 : w0 ≠ sa) (f32 : w0 ≠ va) (f33 : w0 ≠ o) (f34 : w1 ≠ sa) (f35 : w1 ≠ va) (f36 : w1 ≠ o) (f37 : vz ≠ sa) (f38 : vz ≠ va) (f39 : vz ≠ o) :
    Go pgm e below s (Q0 n0) 8 24 T0 (mkF m 74 #[.val (.int i0), .val (.int i1), .val (.int i2), .val (.int i3), .val (.int i4), .val (.int i5), .val (.int i6), .val (.int i7), .val (.ref o), .unset, .unset] []) := by
  refine Go.step (T' := T0) (g' := (mkF m 76 #[.val (.int i0), .val (.int i1), .val (.int i2), .val (.int i3), .val (.int i4), .val (.int i5), .val (.int i6), .val (.int i7), .val (.ref o), .unset, .unset] [(.int i5)])) (fun _ k => XS.iload X0.here hx rfl (hb hby at_74) rfl  k) ?_
  by_cases hc101 : i5 = (0 : Int32)
  · skip
    refine Go.step (T' := T0) (g' := (mkF m 91 #[.val (.int i0), .val (.int i1), .val (.int i2), .val (.int i3), .val (.int i4), .val (.int i5), .val (.int i6), .val (.int i7), .val (.ref o), .unset, .unset] [])) (fun _ k => XS.ifYes X0.here hx rfl (pc0 := 76) (pc' := 91) rfl (hb hby at_76) rfl ((if0 _ _).trans (teq hc101).1) (by decide) (by decide) k) ?_
    refine Go.step (T' := T0) (g' := (mkF m 93 #[.val (.int i0), .val (.int i1), .val (.int i2), .val (.int i3), .val (.int i4), .val (.int i5), .val (.int i6), .val (.int i7), .val (.ref o), .unset, .unset] [(.ref o)])) (fun _ k => XS.aload X0.here hx rfl (hb hby at_91) rfl rfl k) ?_
    obtain ⟨T102, X102, e102, st102⟩ := getS2 X0 hx hZ hown (host := "") (Or.inl (hw _ (List.mem_of_getElem? (i := 60) rfl))) Via.refl e0 f1 (g := (mkF m 93 #[.val (.int i0), .val (.int i1), .val (.int i2), .val (.int i3), .val (.int i4), .val (.int i5), .val (.int i6), .val (.int i7), .val (.ref o), .unset, .unset] [(.ref o)])) rfl (hb hby at_93)
    refine Go.step (T' := T102) (g' := (mkF m 96 #[.val (.int i0), .val (.int i1), .val (.int i2), .val (.int i3), .val (.int i4), .val (.int i5), .val (.int i6), .val (.int i7), .val (.ref o), .unset, .unset] [(.ref w0), (.ref o)])) st102 ?_
    refine Go.step (T' := T102) (g' := (mkF m 97 #[.val (.int i0), .val (.int i1), .val (.int i2), .val (.int i3), .val (.int i4), .val (.int i5), .val (.int i6), .val (.int i7), .val (.ref o), .unset, .unset] [(.int i2), (.ref w0), (.ref o)])) (fun _ k => XS.iloadN X102.here hx rfl (hb hby at_96) rfl  k) ?_
    obtain ⟨cq103, kq103, q103a, q103b, q103c⟩ := isOf hZ e102 f12
    obtain ⟨_, _, ⟨T103, L103, k103, n103⟩, -, X103, ⟨Lc103, hQ103, l103, y103, z103⟩, st103⟩ := X102.virtualBack hx (y := (⟨"com/example/tuples_under_lock/tuplesunderlock/Settings", "setLocal", "(Lcom/example/tuples_under_lock/tuplesunderlock/Setting;I)V"⟩ : MethodName)) (z := (⟨"com/example/tuples_under_lock/tuplesunderlock/Settings", "setLocal", "(Lcom/example/tuples_under_lock/tuplesunderlock/Setting;I)V"⟩ : MethodName)) hown (mvT hZ (hw _ (List.mem_of_getElem? (i := 76) rfl))) (mvT hZ (hw _ (List.mem_of_getElem? (i := 77) rfl))) (notFace_of_selects (args := #[]) (mvT hZ (hw _ (List.mem_of_getElem? (i := 79) rfl)))) (mvT hZ (hw _ (List.mem_of_getElem? (i := 79) rfl))) (mvT hZ (hw _ (List.mem_of_getElem? (i := 78) rfl))) (by decide) (backOf (W := 0) (Q := Qsetl Z va kv [(.int i2), (.int i1)] h0 n0) (own_setl0 l Z a0 hw [] o w0 i2 sa va ks kv (.int i0) (.int i1) (.int i0) (.int i1) h0 n0 Z0 f12 f6 f8 f13 f14 f16 f17 f19 f20 f25 f26 f27 f31 f32 f23 f24) hZ (hw _ (List.mem_of_getElem? (i := 80) rfl)) (hw _ (List.mem_of_getElem? (i := 2) rfl)) (by decide) (by decide)) q103a q103c (g := (mkF m 97 #[.val (.int i0), .val (.int i1), .val (.int i2), .val (.int i3), .val (.int i4), .val (.int i5), .val (.int i6), .val (.int i7), .val (.ref o), .unset, .unset] [(.int i2), (.ref w0), (.ref o)])) rfl (by rw [hml]; rfl) (Steps.refl _) (argsL := [(.ref w0), (.int i2)]) (rest := []) (lenOf own_pd2 rfl) rfl (by show 2 * 0 + _ ≤ _; exact Nat.le_of_eq rfl) (hb hby at_97) (fun _ _ => ⟨rfl, e102, (by dsimp only [Pt.cells, Pt.slots, room_1]; omega), (by dsimp only [Pt.cells, Pt.slots, room_1]; omega)⟩)
    dsimp only [Pt.U, Pt.locs, Pt.cells, Pt.slots] at X103 l103 y103 z103 st103 hQ103
    subst l103 y103 z103
    obtain ⟨rfl, N103q, K103, U103b⟩ := hQ103
    have N103 := Fr.app N0 N103q
    have Z103 : n0 ≤ T103.heap.size := Nat.le_trans Z0 K103.1
    have F104 := own_sta_keep f0 K103 (allS (own_plain f17) all0)
    have F105 := own_sta_keep f1 K103 (allS (own_plain f17) all0)
    have F106 := own_sta_keep f2 K103 (allS (own_plain f17) all0)
    have F107 := own_sta_keep f3 K103 (allS (own_plain f17) all0)
    have F108 := f4.keep K103
    have F109 := f5.keep K103 (ninS f38 nin0)
    have F110 := f6.keep K103
    have F111 := f7.keep K103
    have F112 := f8.keep K103 (ninS f32 nin0)
    have F113 := f9.keep K103 (ninS f35 nin0)
    have F114 := f10.keep K103 (ninS f32 nin0)
    have F115 := f11.keep K103 (ninS f35 nin0)
    have F116 := f12.keep K103
    have F117 := f13.keep K103 (ninS f27 nin0)
    have F118 := f14.keep K103 (ninS f27 nin0)
    have F119 := f15.keep K103 (ninS f27 nin0)
    have F120 := f16.keep K103
    have F121 := f17.keep K103
    have F122 := f18.keep K103
    have F123 := f19.keep K103 (ninS f25 nin0)
    have F124 := f21.keep K103 (ninS f30 nin0)
    refine Go.step (T' := T103) (g' := (mkF m 100 #[.val (.int i0), .val (.int i1), .val (.int i2), .val (.int i3), .val (.int i4), .val (.int i5), .val (.int i6), .val (.int i7), .val (.ref o), .unset, .unset] [])) (fun _ k => st103.trans k) ?_
    refine Go.step (T' := T103) (g' := (mkF m 102 #[.val (.int i0), .val (.int i1), .val (.int i2), .val (.int i3), .val (.int i4), .val (.int i5), .val (.int i6), .val (.int i7), .val (.ref o), .unset, .unset] [(.int i6)])) (fun _ k => XS.iload X103.here hx rfl (hb hby at_100) rfl  k) ?_
    by_cases hc125 : i6 = (0 : Int32)
    · skip
      refine Go.step (T' := T103) (g' := (mkF m 117 #[.val (.int i0), .val (.int i1), .val (.int i2), .val (.int i3), .val (.int i4), .val (.int i5), .val (.int i6), .val (.int i7), .val (.ref o), .unset, .unset] [])) (fun _ k => XS.ifYes X103.here hx rfl (pc0 := 102) (pc' := 117) rfl (hb hby at_102) rfl ((if0 _ _).trans (teq hc125).1) (by decide) (by decide) k) ?_
      refine Go.step (T' := T103) (g' := (mkF m 119 #[.val (.int i0), .val (.int i1), .val (.int i2), .val (.int i3), .val (.int i4), .val (.int i5), .val (.int i6), .val (.int i7), .val (.ref o), .unset, .unset] [(.ref o)])) (fun _ k => XS.aload X103.here hx rfl (hb hby at_117) rfl rfl k) ?_
      obtain ⟨T126, X126, e126, st126⟩ := getS2 X103 hx hZ hown (host := "") (Or.inl (hw _ (List.mem_of_getElem? (i := 62) rfl))) Via.refl rfl F106 (g := (mkF m 119 #[.val (.int i0), .val (.int i1), .val (.int i2), .val (.int i3), .val (.int i4), .val (.int i5), .val (.int i6), .val (.int i7), .val (.ref o), .unset, .unset] [(.ref o)])) rfl (hb hby at_119)
      refine Go.step (T' := T126) (g' := (mkF m 122 #[.val (.int i0), .val (.int i1), .val (.int i2), .val (.int i3), .val (.int i4), .val (.int i5), .val (.int i6), .val (.int i7), .val (.ref o), .unset, .unset] [(.ref w1), (.ref o)])) st126 ?_
      refine Go.step (T' := T126) (g' := (mkF m 123 #[.val (.int i0), .val (.int i1), .val (.int i2), .val (.int i3), .val (.int i4), .val (.int i5), .val (.int i6), .val (.int i7), .val (.ref o), .unset, .unset] [(.int i3), (.ref w1), (.ref o)])) (fun _ k => XS.iloadN X126.here hx rfl (hb hby at_122) rfl  k) ?_
      obtain ⟨cq127, kq127, q127a, q127b, q127c⟩ := isOf hZ e126 F116
      obtain ⟨_, _, ⟨T127, L127, k127, n127⟩, -, X127, ⟨Lc127, hQ127, l127, y127, z127⟩, st127⟩ := X126.virtualBack hx (y := (⟨"com/example/tuples_under_lock/tuplesunderlock/Settings", "setLocal", "(Lcom/example/tuples_under_lock/tuplesunderlock/Setting;I)V"⟩ : MethodName)) (z := (⟨"com/example/tuples_under_lock/tuplesunderlock/Settings", "setLocal", "(Lcom/example/tuples_under_lock/tuplesunderlock/Setting;I)V"⟩ : MethodName)) hown (mvT hZ (hw _ (List.mem_of_getElem? (i := 76) rfl))) (mvT hZ (hw _ (List.mem_of_getElem? (i := 77) rfl))) (notFace_of_selects (args := #[]) (mvT hZ (hw _ (List.mem_of_getElem? (i := 79) rfl)))) (mvT hZ (hw _ (List.mem_of_getElem? (i := 79) rfl))) (mvT hZ (hw _ (List.mem_of_getElem? (i := 78) rfl))) (by decide) (backOf (W := 0) (Q := Qsetl Z va kv [(.int i2), (.int i3)] T103.heap n0) (own_setl1 l Z a0 hw [] o w1 i3 sa va ks kv (.int i0) (.int i1) (.int i2) (.int i1) T103.heap n0 Z103 F116 F111 F113 F117 F118 F120 F121 F123 U103b f25 f26 f27 f34 f35 f23 f24) hZ (hw _ (List.mem_of_getElem? (i := 80) rfl)) (hw _ (List.mem_of_getElem? (i := 2) rfl)) (by decide) (by decide)) q127a q127c (g := (mkF m 123 #[.val (.int i0), .val (.int i1), .val (.int i2), .val (.int i3), .val (.int i4), .val (.int i5), .val (.int i6), .val (.int i7), .val (.ref o), .unset, .unset] [(.int i3), (.ref w1), (.ref o)])) rfl (by rw [hml]; rfl) (Steps.refl _) (argsL := [(.ref w1), (.int i3)]) (rest := []) (lenOf own_pd2 rfl) rfl (by show 2 * 0 + _ ≤ _; exact Nat.le_of_eq rfl) (hb hby at_123) (fun _ _ => ⟨rfl, e126, (by dsimp only [Pt.cells, Pt.slots, room_1]; omega), (by dsimp only [Pt.cells, Pt.slots, room_1]; omega)⟩)
      dsimp only [Pt.U, Pt.locs, Pt.cells, Pt.slots] at X127 l127 y127 z127 st127 hQ127
      subst l127 y127 z127
      obtain ⟨rfl, N127q, K127, U127b⟩ := hQ127
      have N127 := Fr.app N103 N127q
      have Z127 : n0 ≤ T127.heap.size := Nat.le_trans Z103 K127.1
      have F128 := own_sta_keep F104 K127 (allS (own_plain F121) all0)
      have F129 := own_sta_keep F105 K127 (allS (own_plain F121) all0)
      have F130 := own_sta_keep F106 K127 (allS (own_plain F121) all0)
      have F131 := own_sta_keep F107 K127 (allS (own_plain F121) all0)
      have F132 := F108.keep K127
      have F133 := F109.keep K127 (ninS f38 nin0)
      have F134 := F110.keep K127
      have F135 := F111.keep K127
      have F136 := F112.keep K127 (ninS f32 nin0)
      have F137 := F113.keep K127 (ninS f35 nin0)
      have F138 := F114.keep K127 (ninS f32 nin0)
      have F139 := F115.keep K127 (ninS f35 nin0)
      have F140 := F116.keep K127
      have F141 := F117.keep K127 (ninS f27 nin0)
      have F142 := F118.keep K127 (ninS f27 nin0)
      have F143 := F119.keep K127 (ninS f27 nin0)
      have F144 := F120.keep K127
      have F145 := F121.keep K127
      have F146 := F122.keep K127
      have F147 := F123.keep K127 (ninS f25 nin0)
      have F148 := F124.keep K127 (ninS f30 nin0)
      refine Go.step (T' := T127) (g' := (mkF m 126 #[.val (.int i0), .val (.int i1), .val (.int i2), .val (.int i3), .val (.int i4), .val (.int i5), .val (.int i6), .val (.int i7), .val (.ref o), .unset, .unset] [])) (fun _ k => st127.trans k) ?_
      by_cases hc149 : i7 = (0 : Int32)
      · skip
        refine Go.step (T' := T127) (g' := (mkF m 128 #[.val (.int i0), .val (.int i1), .val (.int i2), .val (.int i3), .val (.int i4), .val (.int i5), .val (.int i6), .val (.int i7), .val (.ref o), .unset, .unset] [(.ref o)])) (fun _ k => XS.aload X127.here hx rfl (hb hby at_126) rfl rfl k) ?_
        refine Go.step (T' := T127) (g' := (mkF m 130 #[.val (.int i0), .val (.int i1), .val (.int i2), .val (.int i3), .val (.int i4), .val (.int i5), .val (.int i6), .val (.int i7), .val (.ref o), .unset, .unset] [(.int i7), (.ref o)])) (fun _ k => XS.iload X127.here hx rfl (hb hby at_128) rfl  k) ?_
        obtain ⟨cq150, kq150, q150a, q150b, q150c⟩ := isOf hZ rfl F140
        obtain ⟨_, _, ⟨T150, L150, k150, n150⟩, -, X150, ⟨Lc150, hQ150, l150, y150, z150⟩, st150⟩ := X127.virtualBack hx (y := (⟨"com/example/tuples_under_lock/tuplesunderlock/Settings", "endBlock", "(Z)V"⟩ : MethodName)) (z := (⟨"com/example/tuples_under_lock/tuplesunderlock/Settings", "endBlock", "(Z)V"⟩ : MethodName)) hown (mvT hZ (hw _ (List.mem_of_getElem? (i := 81) rfl))) (mvT hZ (hw _ (List.mem_of_getElem? (i := 82) rfl))) (notFace_of_selects (args := #[]) (mvT hZ (hw _ (List.mem_of_getElem? (i := 84) rfl)))) (mvT hZ (hw _ (List.mem_of_getElem? (i := 84) rfl))) (mvT hZ (hw _ (List.mem_of_getElem? (i := 83) rfl))) (by decide) (backOf (W := 0) (Q := Qend Z o sa va kv (.int i0) (.int i1) T127.heap n0) (own_end0 l Z a0 hw [] o i7 sa va ba ks kv kb (.int i0) (.int i1) (.int i2) (.int i3) (.int i0) (.int i1) T127.heap n0 Z127 F131 F140 f22 F141 F142 F143 F144 F145 F147 U127b F148 f25 f26 f27 f29 f30 f28 f23 f24 hc149) hZ (hw _ (List.mem_of_getElem? (i := 85) rfl)) (hw _ (List.mem_of_getElem? (i := 2) rfl)) (by decide) (by decide)) q150a q150c (g := (mkF m 130 #[.val (.int i0), .val (.int i1), .val (.int i2), .val (.int i3), .val (.int i4), .val (.int i5), .val (.int i6), .val (.int i7), .val (.ref o), .unset, .unset] [(.int i7), (.ref o)])) rfl (by rw [hml]; rfl) (Steps.refl _) (argsL := [(.int i7)]) (rest := []) (lenOf own_pd4 rfl) rfl (by show 2 * 0 + _ ≤ _; exact Nat.le_of_eq rfl) (hb hby at_130) (fun _ _ => ⟨rfl, rfl, (by dsimp only [Pt.cells, Pt.slots, room_1]; omega), (by dsimp only [Pt.cells, Pt.slots, room_1]; omega)⟩)
        dsimp only [Pt.U, Pt.locs, Pt.cells, Pt.slots] at X150 l150 y150 z150 st150 hQ150
        subst l150 y150 z150
        obtain ⟨rfl, N150q, K150, R1150, Vv150⟩ := hQ150
        have N150 := Fr.app N127 N150q
        have Z150 : n0 ≤ T150.heap.size := Nat.le_trans Z127 K150.1
        have F151 := own_sta_keep F128 K150 (allS (own_plain F140) (allS (own_plain F144) (allS (own_plain F145) all0)))
        have F152 := own_sta_keep F129 K150 (allS (own_plain F140) (allS (own_plain F144) (allS (own_plain F145) all0)))
        have F153 := own_sta_keep F130 K150 (allS (own_plain F140) (allS (own_plain F144) (allS (own_plain F145) all0)))
        have F154 := own_sta_keep F131 K150 (allS (own_plain F140) (allS (own_plain F144) (allS (own_plain F145) all0)))
        have F155 := F132.keep K150
        have F156 := F133.keep K150 (ninS f39 (ninS f37 (ninS f38 nin0)))
        have F157 := F134.keep K150
        have F158 := F135.keep K150
        have F159 := F136.keep K150 (ninS f33 (ninS f31 (ninS f32 nin0)))
        have F160 := F137.keep K150 (ninS f36 (ninS f34 (ninS f35 nin0)))
        have F161 := F138.keep K150 (ninS f33 (ninS f31 (ninS f32 nin0)))
        have F162 := F139.keep K150 (ninS f36 (ninS f34 (ninS f35 nin0)))
        have F163 := F140.keep K150
        have F164 := F144.keep K150
        have F165 := F145.keep K150
        have F166 := F146.keep K150
        have F167 := F148.keep K150 (ninS (Ne.symm f28) (ninS f29 (ninS f30 nin0)))
        refine Go.step (T' := T150) (g' := (mkF m 133 #[.val (.int i0), .val (.int i1), .val (.int i2), .val (.int i3), .val (.int i4), .val (.int i5), .val (.int i6), .val (.int i7), .val (.ref o), .unset, .unset] [])) (fun _ k => st150.trans k) ?_
        refine Go.step (T' := T150) (g' := (mkF m 135 #[.val (.int i0), .val (.int i1), .val (.int i2), .val (.int i3), .val (.int i4), .val (.int i5), .val (.int i6), .val (.int i7), .val (.ref o), .unset, .unset] [(.int i7)])) (fun _ k => XS.iload X150.here hx rfl (hb hby at_133) rfl  k) ?_
        refine Go.step (T' := T150) (g' := (mkF m 147 #[.val (.int i0), .val (.int i1), .val (.int i2), .val (.int i3), .val (.int i4), .val (.int i5), .val (.int i6), .val (.int i7), .val (.ref o), .unset, .unset] [])) (fun _ k => XS.ifYes X150.here hx rfl (pc0 := 135) (pc' := 147) rfl (hb hby at_135) rfl ((if0 _ _).trans (teq hc149).1) (by decide) (by decide) k) ?_
        refine Go.step (T' := T150) (g' := (mkF m 148 #[.val (.int i0), .val (.int i1), .val (.int i2), .val (.int i3), .val (.int i4), .val (.int i5), .val (.int i6), .val (.int i7), .val (.ref o), .unset, .unset] [(.int i0)])) (fun _ k => XS.iloadN X150.here hx rfl (hb hby at_147) rfl  k) ?_
        refine Go.step (T' := T150) (g' := (mkF m 150 #[.val (.int i0), .val (.int i1), .val (.int i2), .val (.int i3), .val (.int i4), .val (.int i5), .val (.int i6), .val (.int i7), .val (.ref o), .val (.int i0), .unset] [])) (fun _ k => XS.istore X150.here hx rfl (hb hby at_148) rfl (l' := #[.val (.int i0), .val (.int i1), .val (.int i2), .val (.int i3), .val (.int i4), .val (.int i5), .val (.int i6), .val (.int i7), .val (.ref o), .val (.int i0), .unset]) rfl k) ?_
        refine Go.step (T' := T150) (g' := (mkF m 152 #[.val (.int i0), .val (.int i1), .val (.int i2), .val (.int i3), .val (.int i4), .val (.int i5), .val (.int i6), .val (.int i7), .val (.ref o), .val (.int i0), .unset] [(.int i7)])) (fun _ k => XS.iload X150.here hx rfl (hb hby at_150) rfl  k) ?_
        refine Go.step (T' := T150) (g' := (mkF m 164 #[.val (.int i0), .val (.int i1), .val (.int i2), .val (.int i3), .val (.int i4), .val (.int i5), .val (.int i6), .val (.int i7), .val (.ref o), .val (.int i0), .unset] [])) (fun _ k => XS.ifYes X150.here hx rfl (pc0 := 152) (pc' := 164) rfl (hb hby at_152) rfl ((if0 _ _).trans (teq hc149).1) (by decide) (by decide) k) ?_
        refine Go.step (T' := T150) (g' := (mkF m 165 #[.val (.int i0), .val (.int i1), .val (.int i2), .val (.int i3), .val (.int i4), .val (.int i5), .val (.int i6), .val (.int i7), .val (.ref o), .val (.int i0), .unset] [(.int i1)])) (fun _ k => XS.iloadN X150.here hx rfl (hb hby at_164) rfl  k) ?_
        refine Go.step (T' := T150) (g' := (mkF m 167 #[.val (.int i0), .val (.int i1), .val (.int i2), .val (.int i3), .val (.int i4), .val (.int i5), .val (.int i6), .val (.int i7), .val (.ref o), .val (.int i0), .val (.int i1)] [])) (fun _ k => XS.istore X150.here hx rfl (hb hby at_165) rfl (l' := #[.val (.int i0), .val (.int i1), .val (.int i2), .val (.int i3), .val (.int i4), .val (.int i5), .val (.int i6), .val (.int i7), .val (.ref o), .val (.int i0), .val (.int i1)]) rfl k) ?_
        refine Go.step (T' := T150) (g' := (mkF m 169 #[.val (.int i0), .val (.int i1), .val (.int i2), .val (.int i3), .val (.int i4), .val (.int i5), .val (.int i6), .val (.int i7), .val (.ref o), .val (.int i0), .val (.int i1)] [(.ref o)])) (fun _ k => XS.aload X150.here hx rfl (hb hby at_167) rfl rfl k) ?_
        obtain ⟨T168, X168, e168, st168⟩ := getS2 X150 hx hZ hown (host := "") (Or.inl (hw _ (List.mem_of_getElem? (i := 60) rfl))) Via.refl rfl F152 (g := (mkF m 169 #[.val (.int i0), .val (.int i1), .val (.int i2), .val (.int i3), .val (.int i4), .val (.int i5), .val (.int i6), .val (.int i7), .val (.ref o), .val (.int i0), .val (.int i1)] [(.ref o)])) rfl (hb hby at_169)
        refine Go.step (T' := T168) (g' := (mkF m 172 #[.val (.int i0), .val (.int i1), .val (.int i2), .val (.int i3), .val (.int i4), .val (.int i5), .val (.int i6), .val (.int i7), .val (.ref o), .val (.int i0), .val (.int i1)] [(.ref w0), (.ref o)])) st168 ?_
        obtain ⟨cq169, kq169, q169a, q169b, q169c⟩ := isOf hZ e168 F163
        obtain ⟨_, _, ⟨T169, L169, k169, n169⟩, -, X169, ⟨Lc169, hQ169, l169, y169, z169⟩, st169⟩ := X168.virtualBack hx (y := (⟨"com/example/tuples_under_lock/tuplesunderlock/Settings", "get", "(Lcom/example/tuples_under_lock/tuplesunderlock/Setting;)I"⟩ : MethodName)) (z := (⟨"com/example/tuples_under_lock/tuplesunderlock/Settings", "get", "(Lcom/example/tuples_under_lock/tuplesunderlock/Setting;)I"⟩ : MethodName)) hown (mvT hZ (hw _ (List.mem_of_getElem? (i := 90) rfl))) (mvT hZ (hw _ (List.mem_of_getElem? (i := 91) rfl))) (notFace_of_selects (args := #[]) (mvT hZ (hw _ (List.mem_of_getElem? (i := 93) rfl)))) (mvT hZ (hw _ (List.mem_of_getElem? (i := 93) rfl))) (mvT hZ (hw _ (List.mem_of_getElem? (i := 92) rfl))) (by decide) (backOf (W := 0) (Q := Qret (some (.int i0)) T150.heap n0) (own_get0 l Z a0 hw [] o w0 va kv i0 i1 T150.heap n0 Z150 F157 F159 R1150 Vv150) hZ (hw _ (List.mem_of_getElem? (i := 94) rfl)) (hw _ (List.mem_of_getElem? (i := 2) rfl)) (by decide) (by decide)) q169a q169c (g := (mkF m 172 #[.val (.int i0), .val (.int i1), .val (.int i2), .val (.int i3), .val (.int i4), .val (.int i5), .val (.int i6), .val (.int i7), .val (.ref o), .val (.int i0), .val (.int i1)] [(.ref w0), (.ref o)])) rfl (by rw [hml]; rfl) (Steps.refl _) (argsL := [(.ref w0)]) (rest := []) (lenOf own_pd5 rfl) rfl (by show 2 * 0 + _ ≤ _; exact Nat.le_of_eq rfl) (hb hby at_172) (fun _ _ => ⟨rfl, e168, (by dsimp only [Pt.cells, Pt.slots, room_1]; omega), (by dsimp only [Pt.cells, Pt.slots, room_1]; omega)⟩)
        dsimp only [Pt.U, Pt.locs, Pt.cells, Pt.slots] at X169 l169 y169 z169 st169 hQ169
        subst l169 y169 z169
        obtain ⟨rfl, N169q, eh169⟩ := hQ169
        have N169 := Fr.app N150 N169q
        refine Go.step (T' := T169) (g' := (mkF m 175 #[.val (.int i0), .val (.int i1), .val (.int i2), .val (.int i3), .val (.int i4), .val (.int i5), .val (.int i6), .val (.int i7), .val (.ref o), .val (.int i0), .val (.int i1)] [(.int i0)])) (fun _ k => st169.trans k) ?_
        refine Go.step (T' := T169) (g' := (mkF m 177 #[.val (.int i0), .val (.int i1), .val (.int i2), .val (.int i3), .val (.int i4), .val (.int i5), .val (.int i6), .val (.int i7), .val (.ref o), .val (.int i0), .val (.int i1)] [(.int i0), (.int i0)])) (fun _ k => XS.iload X169.here hx rfl (hb hby at_175) rfl  k) ?_
        refine Go.step (T' := T169) (g' := (mkF m 180 #[.val (.int i0), .val (.int i1), .val (.int i2), .val (.int i3), .val (.int i4), .val (.int i5), .val (.int i6), .val (.int i7), .val (.ref o), .val (.int i0), .val (.int i1)] [])) (fun _ k => XS.icmpNo X169.here hx rfl (hb hby at_177) rfl (teq (rfl : i0 = i0)).2 k) ?_
        refine Go.step (T' := T169) (g' := (mkF m 182 #[.val (.int i0), .val (.int i1), .val (.int i2), .val (.int i3), .val (.int i4), .val (.int i5), .val (.int i6), .val (.int i7), .val (.ref o), .val (.int i0), .val (.int i1)] [(.ref o)])) (fun _ k => XS.aload X169.here hx rfl (hb hby at_180) rfl rfl k) ?_
        obtain ⟨T170, X170, e170, st170⟩ := getS2 X169 hx hZ hown (host := "") (Or.inl (hw _ (List.mem_of_getElem? (i := 62) rfl))) Via.refl eh169 F153 (g := (mkF m 182 #[.val (.int i0), .val (.int i1), .val (.int i2), .val (.int i3), .val (.int i4), .val (.int i5), .val (.int i6), .val (.int i7), .val (.ref o), .val (.int i0), .val (.int i1)] [(.ref o)])) rfl (hb hby at_182)
        refine Go.step (T' := T170) (g' := (mkF m 185 #[.val (.int i0), .val (.int i1), .val (.int i2), .val (.int i3), .val (.int i4), .val (.int i5), .val (.int i6), .val (.int i7), .val (.ref o), .val (.int i0), .val (.int i1)] [(.ref w1), (.ref o)])) st170 ?_
        obtain ⟨cq171, kq171, q171a, q171b, q171c⟩ := isOf hZ e170 F163
        obtain ⟨_, _, ⟨T171, L171, k171, n171⟩, -, X171, ⟨Lc171, hQ171, l171, y171, z171⟩, st171⟩ := X170.virtualBack hx (y := (⟨"com/example/tuples_under_lock/tuplesunderlock/Settings", "get", "(Lcom/example/tuples_under_lock/tuplesunderlock/Setting;)I"⟩ : MethodName)) (z := (⟨"com/example/tuples_under_lock/tuplesunderlock/Settings", "get", "(Lcom/example/tuples_under_lock/tuplesunderlock/Setting;)I"⟩ : MethodName)) hown (mvT hZ (hw _ (List.mem_of_getElem? (i := 90) rfl))) (mvT hZ (hw _ (List.mem_of_getElem? (i := 91) rfl))) (notFace_of_selects (args := #[]) (mvT hZ (hw _ (List.mem_of_getElem? (i := 93) rfl)))) (mvT hZ (hw _ (List.mem_of_getElem? (i := 93) rfl))) (mvT hZ (hw _ (List.mem_of_getElem? (i := 92) rfl))) (by decide) (backOf (W := 0) (Q := Qret (some (.int i1)) T150.heap n0) (own_get1 l Z a0 hw [] o w1 va kv i0 i1 T150.heap n0 Z150 F158 F160 R1150 Vv150) hZ (hw _ (List.mem_of_getElem? (i := 94) rfl)) (hw _ (List.mem_of_getElem? (i := 2) rfl)) (by decide) (by decide)) q171a q171c (g := (mkF m 185 #[.val (.int i0), .val (.int i1), .val (.int i2), .val (.int i3), .val (.int i4), .val (.int i5), .val (.int i6), .val (.int i7), .val (.ref o), .val (.int i0), .val (.int i1)] [(.ref w1), (.ref o)])) rfl (by rw [hml]; rfl) (Steps.refl _) (argsL := [(.ref w1)]) (rest := []) (lenOf own_pd5 rfl) rfl (by show 2 * 0 + _ ≤ _; exact Nat.le_of_eq rfl) (hb hby at_185) (fun _ _ => ⟨rfl, e170, (by dsimp only [Pt.cells, Pt.slots, room_1]; omega), (by dsimp only [Pt.cells, Pt.slots, room_1]; omega)⟩)
        dsimp only [Pt.U, Pt.locs, Pt.cells, Pt.slots] at X171 l171 y171 z171 st171 hQ171
        subst l171 y171 z171
        obtain ⟨rfl, N171q, eh171⟩ := hQ171
        have N171 := Fr.app N169 N171q
        refine Go.step (T' := T171) (g' := (mkF m 188 #[.val (.int i0), .val (.int i1), .val (.int i2), .val (.int i3), .val (.int i4), .val (.int i5), .val (.int i6), .val (.int i7), .val (.ref o), .val (.int i0), .val (.int i1)] [(.int i1)])) (fun _ k => st171.trans k) ?_
        refine Go.step (T' := T171) (g' := (mkF m 190 #[.val (.int i0), .val (.int i1), .val (.int i2), .val (.int i3), .val (.int i4), .val (.int i5), .val (.int i6), .val (.int i7), .val (.ref o), .val (.int i0), .val (.int i1)] [(.int i1), (.int i1)])) (fun _ k => XS.iload X171.here hx rfl (hb hby at_188) rfl  k) ?_
        refine Go.step (T' := T171) (g' := (mkF m 193 #[.val (.int i0), .val (.int i1), .val (.int i2), .val (.int i3), .val (.int i4), .val (.int i5), .val (.int i6), .val (.int i7), .val (.ref o), .val (.int i0), .val (.int i1)] [])) (fun _ k => XS.icmpNo X171.here hx rfl (hb hby at_190) rfl (teq (rfl : i1 = i1)).2 k) ?_
        refine Go.step (T' := T171) (g' := (mkF m 194 #[.val (.int i0), .val (.int i1), .val (.int i2), .val (.int i3), .val (.int i4), .val (.int i5), .val (.int i6), .val (.int i7), .val (.ref o), .val (.int i0), .val (.int i1)] [(.int (1 : Int32))])) (fun _ k => XS.iconst X171.here hx rfl (hb hby at_193) k) ?_
        refine Go.step (T' := T171) (g' := (mkF m 198 #[.val (.int i0), .val (.int i1), .val (.int i2), .val (.int i3), .val (.int i4), .val (.int i5), .val (.int i6), .val (.int i7), .val (.ref o), .val (.int i0), .val (.int i1)] [(.int (1 : Int32))])) (fun _ k => XS.goto X171.here hx rfl (pc0 := 194) (pc' := 198) rfl (hb hby at_194) (by decide) (by decide) k) ?_
        exact Go.retN X171 hx (t := .boolean) hret hlk (by simp) (hb hby at_198) (⟨rfl, N171⟩) (by omega) (by omega)
      · skip
        refine Go.step (T' := T127) (g' := (mkF m 128 #[.val (.int i0), .val (.int i1), .val (.int i2), .val (.int i3), .val (.int i4), .val (.int i5), .val (.int i6), .val (.int i7), .val (.ref o), .unset, .unset] [(.ref o)])) (fun _ k => XS.aload X127.here hx rfl (hb hby at_126) rfl rfl k) ?_
        refine Go.step (T' := T127) (g' := (mkF m 130 #[.val (.int i0), .val (.int i1), .val (.int i2), .val (.int i3), .val (.int i4), .val (.int i5), .val (.int i6), .val (.int i7), .val (.ref o), .unset, .unset] [(.int i7), (.ref o)])) (fun _ k => XS.iload X127.here hx rfl (hb hby at_128) rfl  k) ?_
        obtain ⟨cq172, kq172, q172a, q172b, q172c⟩ := isOf hZ rfl F140
        obtain ⟨_, _, ⟨T172, L172, k172, n172⟩, -, X172, ⟨Lc172, hQ172, l172, y172, z172⟩, st172⟩ := X127.virtualBack hx (y := (⟨"com/example/tuples_under_lock/tuplesunderlock/Settings", "endBlock", "(Z)V"⟩ : MethodName)) (z := (⟨"com/example/tuples_under_lock/tuplesunderlock/Settings", "endBlock", "(Z)V"⟩ : MethodName)) hown (mvT hZ (hw _ (List.mem_of_getElem? (i := 81) rfl))) (mvT hZ (hw _ (List.mem_of_getElem? (i := 82) rfl))) (notFace_of_selects (args := #[]) (mvT hZ (hw _ (List.mem_of_getElem? (i := 84) rfl)))) (mvT hZ (hw _ (List.mem_of_getElem? (i := 84) rfl))) (mvT hZ (hw _ (List.mem_of_getElem? (i := 83) rfl))) (by decide) (backOf (W := 0) (Q := Qend Z o sa va kv (.int i0) (.int i1) T127.heap n0) (own_end1 l Z a0 hw [] o i7 sa va ba ks kv kb (.int i0) (.int i1) (.int i2) (.int i3) (.int i0) (.int i1) T127.heap n0 Z127 F131 F140 f22 F141 F142 F143 F144 F145 F147 U127b F148 f25 f26 f27 f29 f30 f28 f23 f24 hc149) hZ (hw _ (List.mem_of_getElem? (i := 85) rfl)) (hw _ (List.mem_of_getElem? (i := 2) rfl)) (by decide) (by decide)) q172a q172c (g := (mkF m 130 #[.val (.int i0), .val (.int i1), .val (.int i2), .val (.int i3), .val (.int i4), .val (.int i5), .val (.int i6), .val (.int i7), .val (.ref o), .unset, .unset] [(.int i7), (.ref o)])) rfl (by rw [hml]; rfl) (Steps.refl _) (argsL := [(.int i7)]) (rest := []) (lenOf own_pd4 rfl) rfl (by show 2 * 0 + _ ≤ _; exact Nat.le_of_eq rfl) (hb hby at_130) (fun _ _ => ⟨rfl, rfl, (by dsimp only [Pt.cells, Pt.slots, room_1]; omega), (by dsimp only [Pt.cells, Pt.slots, room_1]; omega)⟩)
        dsimp only [Pt.U, Pt.locs, Pt.cells, Pt.slots] at X172 l172 y172 z172 st172 hQ172
        subst l172 y172 z172
        obtain ⟨rfl, N172q, K172, R1172, Vv172⟩ := hQ172
        have N172 := Fr.app N127 N172q
        have Z172 : n0 ≤ T172.heap.size := Nat.le_trans Z127 K172.1
        have F173 := own_sta_keep F128 K172 (allS (own_plain F140) (allS (own_plain F144) (allS (own_plain F145) all0)))
        have F174 := own_sta_keep F129 K172 (allS (own_plain F140) (allS (own_plain F144) (allS (own_plain F145) all0)))
        have F175 := own_sta_keep F130 K172 (allS (own_plain F140) (allS (own_plain F144) (allS (own_plain F145) all0)))
        have F176 := own_sta_keep F131 K172 (allS (own_plain F140) (allS (own_plain F144) (allS (own_plain F145) all0)))
        have F177 := F132.keep K172
        have F178 := F133.keep K172 (ninS f39 (ninS f37 (ninS f38 nin0)))
        have F179 := F134.keep K172
        have F180 := F135.keep K172
        have F181 := F136.keep K172 (ninS f33 (ninS f31 (ninS f32 nin0)))
        have F182 := F137.keep K172 (ninS f36 (ninS f34 (ninS f35 nin0)))
        have F183 := F138.keep K172 (ninS f33 (ninS f31 (ninS f32 nin0)))
        have F184 := F139.keep K172 (ninS f36 (ninS f34 (ninS f35 nin0)))
        have F185 := F140.keep K172
        have F186 := F144.keep K172
        have F187 := F145.keep K172
        have F188 := F146.keep K172
        have F189 := F148.keep K172 (ninS (Ne.symm f28) (ninS f29 (ninS f30 nin0)))
        refine Go.step (T' := T172) (g' := (mkF m 133 #[.val (.int i0), .val (.int i1), .val (.int i2), .val (.int i3), .val (.int i4), .val (.int i5), .val (.int i6), .val (.int i7), .val (.ref o), .unset, .unset] [])) (fun _ k => st172.trans k) ?_
        refine Go.step (T' := T172) (g' := (mkF m 135 #[.val (.int i0), .val (.int i1), .val (.int i2), .val (.int i3), .val (.int i4), .val (.int i5), .val (.int i6), .val (.int i7), .val (.ref o), .unset, .unset] [(.int i7)])) (fun _ k => XS.iload X172.here hx rfl (hb hby at_133) rfl  k) ?_
        refine Go.step (T' := T172) (g' := (mkF m 138 #[.val (.int i0), .val (.int i1), .val (.int i2), .val (.int i3), .val (.int i4), .val (.int i5), .val (.int i6), .val (.int i7), .val (.ref o), .unset, .unset] [])) (fun _ k => XS.ifNo X172.here hx rfl (hb hby at_135) rfl ((if0 _ _).trans (feq hc149).1) k) ?_
        refine Go.step (T' := T172) (g' := (mkF m 140 #[.val (.int i0), .val (.int i1), .val (.int i2), .val (.int i3), .val (.int i4), .val (.int i5), .val (.int i6), .val (.int i7), .val (.ref o), .unset, .unset] [(.int i5)])) (fun _ k => XS.iload X172.here hx rfl (hb hby at_138) rfl  k) ?_
        refine Go.step (T' := T172) (g' := (mkF m 147 #[.val (.int i0), .val (.int i1), .val (.int i2), .val (.int i3), .val (.int i4), .val (.int i5), .val (.int i6), .val (.int i7), .val (.ref o), .unset, .unset] [])) (fun _ k => XS.ifYes X172.here hx rfl (pc0 := 140) (pc' := 147) rfl (hb hby at_140) rfl ((if0 _ _).trans (teq hc101).1) (by decide) (by decide) k) ?_
        refine Go.step (T' := T172) (g' := (mkF m 148 #[.val (.int i0), .val (.int i1), .val (.int i2), .val (.int i3), .val (.int i4), .val (.int i5), .val (.int i6), .val (.int i7), .val (.ref o), .unset, .unset] [(.int i0)])) (fun _ k => XS.iloadN X172.here hx rfl (hb hby at_147) rfl  k) ?_
        refine Go.step (T' := T172) (g' := (mkF m 150 #[.val (.int i0), .val (.int i1), .val (.int i2), .val (.int i3), .val (.int i4), .val (.int i5), .val (.int i6), .val (.int i7), .val (.ref o), .val (.int i0), .unset] [])) (fun _ k => XS.istore X172.here hx rfl (hb hby at_148) rfl (l' := #[.val (.int i0), .val (.int i1), .val (.int i2), .val (.int i3), .val (.int i4), .val (.int i5), .val (.int i6), .val (.int i7), .val (.ref o), .val (.int i0), .unset]) rfl k) ?_
        refine Go.step (T' := T172) (g' := (mkF m 152 #[.val (.int i0), .val (.int i1), .val (.int i2), .val (.int i3), .val (.int i4), .val (.int i5), .val (.int i6), .val (.int i7), .val (.ref o), .val (.int i0), .unset] [(.int i7)])) (fun _ k => XS.iload X172.here hx rfl (hb hby at_150) rfl  k) ?_
        refine Go.step (T' := T172) (g' := (mkF m 155 #[.val (.int i0), .val (.int i1), .val (.int i2), .val (.int i3), .val (.int i4), .val (.int i5), .val (.int i6), .val (.int i7), .val (.ref o), .val (.int i0), .unset] [])) (fun _ k => XS.ifNo X172.here hx rfl (hb hby at_152) rfl ((if0 _ _).trans (feq hc149).1) k) ?_
        refine Go.step (T' := T172) (g' := (mkF m 157 #[.val (.int i0), .val (.int i1), .val (.int i2), .val (.int i3), .val (.int i4), .val (.int i5), .val (.int i6), .val (.int i7), .val (.ref o), .val (.int i0), .unset] [(.int i6)])) (fun _ k => XS.iload X172.here hx rfl (hb hby at_155) rfl  k) ?_
        refine Go.step (T' := T172) (g' := (mkF m 164 #[.val (.int i0), .val (.int i1), .val (.int i2), .val (.int i3), .val (.int i4), .val (.int i5), .val (.int i6), .val (.int i7), .val (.ref o), .val (.int i0), .unset] [])) (fun _ k => XS.ifYes X172.here hx rfl (pc0 := 157) (pc' := 164) rfl (hb hby at_157) rfl ((if0 _ _).trans (teq hc125).1) (by decide) (by decide) k) ?_
        refine Go.step (T' := T172) (g' := (mkF m 165 #[.val (.int i0), .val (.int i1), .val (.int i2), .val (.int i3), .val (.int i4), .val (.int i5), .val (.int i6), .val (.int i7), .val (.ref o), .val (.int i0), .unset] [(.int i1)])) (fun _ k => XS.iloadN X172.here hx rfl (hb hby at_164) rfl  k) ?_
        refine Go.step (T' := T172) (g' := (mkF m 167 #[.val (.int i0), .val (.int i1), .val (.int i2), .val (.int i3), .val (.int i4), .val (.int i5), .val (.int i6), .val (.int i7), .val (.ref o), .val (.int i0), .val (.int i1)] [])) (fun _ k => XS.istore X172.here hx rfl (hb hby at_165) rfl (l' := #[.val (.int i0), .val (.int i1), .val (.int i2), .val (.int i3), .val (.int i4), .val (.int i5), .val (.int i6), .val (.int i7), .val (.ref o), .val (.int i0), .val (.int i1)]) rfl k) ?_
        refine Go.step (T' := T172) (g' := (mkF m 169 #[.val (.int i0), .val (.int i1), .val (.int i2), .val (.int i3), .val (.int i4), .val (.int i5), .val (.int i6), .val (.int i7), .val (.ref o), .val (.int i0), .val (.int i1)] [(.ref o)])) (fun _ k => XS.aload X172.here hx rfl (hb hby at_167) rfl rfl k) ?_
        obtain ⟨T190, X190, e190, st190⟩ := getS2 X172 hx hZ hown (host := "") (Or.inl (hw _ (List.mem_of_getElem? (i := 60) rfl))) Via.refl rfl F174 (g := (mkF m 169 #[.val (.int i0), .val (.int i1), .val (.int i2), .val (.int i3), .val (.int i4), .val (.int i5), .val (.int i6), .val (.int i7), .val (.ref o), .val (.int i0), .val (.int i1)] [(.ref o)])) rfl (hb hby at_169)
        refine Go.step (T' := T190) (g' := (mkF m 172 #[.val (.int i0), .val (.int i1), .val (.int i2), .val (.int i3), .val (.int i4), .val (.int i5), .val (.int i6), .val (.int i7), .val (.ref o), .val (.int i0), .val (.int i1)] [(.ref w0), (.ref o)])) st190 ?_
        obtain ⟨cq191, kq191, q191a, q191b, q191c⟩ := isOf hZ e190 F185
        obtain ⟨_, _, ⟨T191, L191, k191, n191⟩, -, X191, ⟨Lc191, hQ191, l191, y191, z191⟩, st191⟩ := X190.virtualBack hx (y := (⟨"com/example/tuples_under_lock/tuplesunderlock/Settings", "get", "(Lcom/example/tuples_under_lock/tuplesunderlock/Setting;)I"⟩ : MethodName)) (z := (⟨"com/example/tuples_under_lock/tuplesunderlock/Settings", "get", "(Lcom/example/tuples_under_lock/tuplesunderlock/Setting;)I"⟩ : MethodName)) hown (mvT hZ (hw _ (List.mem_of_getElem? (i := 90) rfl))) (mvT hZ (hw _ (List.mem_of_getElem? (i := 91) rfl))) (notFace_of_selects (args := #[]) (mvT hZ (hw _ (List.mem_of_getElem? (i := 93) rfl)))) (mvT hZ (hw _ (List.mem_of_getElem? (i := 93) rfl))) (mvT hZ (hw _ (List.mem_of_getElem? (i := 92) rfl))) (by decide) (backOf (W := 0) (Q := Qret (some (.int i0)) T172.heap n0) (own_get0 l Z a0 hw [] o w0 va kv i0 i1 T172.heap n0 Z172 F179 F181 R1172 Vv172) hZ (hw _ (List.mem_of_getElem? (i := 94) rfl)) (hw _ (List.mem_of_getElem? (i := 2) rfl)) (by decide) (by decide)) q191a q191c (g := (mkF m 172 #[.val (.int i0), .val (.int i1), .val (.int i2), .val (.int i3), .val (.int i4), .val (.int i5), .val (.int i6), .val (.int i7), .val (.ref o), .val (.int i0), .val (.int i1)] [(.ref w0), (.ref o)])) rfl (by rw [hml]; rfl) (Steps.refl _) (argsL := [(.ref w0)]) (rest := []) (lenOf own_pd5 rfl) rfl (by show 2 * 0 + _ ≤ _; exact Nat.le_of_eq rfl) (hb hby at_172) (fun _ _ => ⟨rfl, e190, (by dsimp only [Pt.cells, Pt.slots, room_1]; omega), (by dsimp only [Pt.cells, Pt.slots, room_1]; omega)⟩)
        dsimp only [Pt.U, Pt.locs, Pt.cells, Pt.slots] at X191 l191 y191 z191 st191 hQ191
        subst l191 y191 z191
        obtain ⟨rfl, N191q, eh191⟩ := hQ191
        have N191 := Fr.app N172 N191q
        refine Go.step (T' := T191) (g' := (mkF m 175 #[.val (.int i0), .val (.int i1), .val (.int i2), .val (.int i3), .val (.int i4), .val (.int i5), .val (.int i6), .val (.int i7), .val (.ref o), .val (.int i0), .val (.int i1)] [(.int i0)])) (fun _ k => st191.trans k) ?_
        refine Go.step (T' := T191) (g' := (mkF m 177 #[.val (.int i0), .val (.int i1), .val (.int i2), .val (.int i3), .val (.int i4), .val (.int i5), .val (.int i6), .val (.int i7), .val (.ref o), .val (.int i0), .val (.int i1)] [(.int i0), (.int i0)])) (fun _ k => XS.iload X191.here hx rfl (hb hby at_175) rfl  k) ?_
        refine Go.step (T' := T191) (g' := (mkF m 180 #[.val (.int i0), .val (.int i1), .val (.int i2), .val (.int i3), .val (.int i4), .val (.int i5), .val (.int i6), .val (.int i7), .val (.ref o), .val (.int i0), .val (.int i1)] [])) (fun _ k => XS.icmpNo X191.here hx rfl (hb hby at_177) rfl (teq (rfl : i0 = i0)).2 k) ?_
        refine Go.step (T' := T191) (g' := (mkF m 182 #[.val (.int i0), .val (.int i1), .val (.int i2), .val (.int i3), .val (.int i4), .val (.int i5), .val (.int i6), .val (.int i7), .val (.ref o), .val (.int i0), .val (.int i1)] [(.ref o)])) (fun _ k => XS.aload X191.here hx rfl (hb hby at_180) rfl rfl k) ?_
        obtain ⟨T192, X192, e192, st192⟩ := getS2 X191 hx hZ hown (host := "") (Or.inl (hw _ (List.mem_of_getElem? (i := 62) rfl))) Via.refl eh191 F175 (g := (mkF m 182 #[.val (.int i0), .val (.int i1), .val (.int i2), .val (.int i3), .val (.int i4), .val (.int i5), .val (.int i6), .val (.int i7), .val (.ref o), .val (.int i0), .val (.int i1)] [(.ref o)])) rfl (hb hby at_182)
        refine Go.step (T' := T192) (g' := (mkF m 185 #[.val (.int i0), .val (.int i1), .val (.int i2), .val (.int i3), .val (.int i4), .val (.int i5), .val (.int i6), .val (.int i7), .val (.ref o), .val (.int i0), .val (.int i1)] [(.ref w1), (.ref o)])) st192 ?_
        obtain ⟨cq193, kq193, q193a, q193b, q193c⟩ := isOf hZ e192 F185
        obtain ⟨_, _, ⟨T193, L193, k193, n193⟩, -, X193, ⟨Lc193, hQ193, l193, y193, z193⟩, st193⟩ := X192.virtualBack hx (y := (⟨"com/example/tuples_under_lock/tuplesunderlock/Settings", "get", "(Lcom/example/tuples_under_lock/tuplesunderlock/Setting;)I"⟩ : MethodName)) (z := (⟨"com/example/tuples_under_lock/tuplesunderlock/Settings", "get", "(Lcom/example/tuples_under_lock/tuplesunderlock/Setting;)I"⟩ : MethodName)) hown (mvT hZ (hw _ (List.mem_of_getElem? (i := 90) rfl))) (mvT hZ (hw _ (List.mem_of_getElem? (i := 91) rfl))) (notFace_of_selects (args := #[]) (mvT hZ (hw _ (List.mem_of_getElem? (i := 93) rfl)))) (mvT hZ (hw _ (List.mem_of_getElem? (i := 93) rfl))) (mvT hZ (hw _ (List.mem_of_getElem? (i := 92) rfl))) (by decide) (backOf (W := 0) (Q := Qret (some (.int i1)) T172.heap n0) (own_get1 l Z a0 hw [] o w1 va kv i0 i1 T172.heap n0 Z172 F180 F182 R1172 Vv172) hZ (hw _ (List.mem_of_getElem? (i := 94) rfl)) (hw _ (List.mem_of_getElem? (i := 2) rfl)) (by decide) (by decide)) q193a q193c (g := (mkF m 185 #[.val (.int i0), .val (.int i1), .val (.int i2), .val (.int i3), .val (.int i4), .val (.int i5), .val (.int i6), .val (.int i7), .val (.ref o), .val (.int i0), .val (.int i1)] [(.ref w1), (.ref o)])) rfl (by rw [hml]; rfl) (Steps.refl _) (argsL := [(.ref w1)]) (rest := []) (lenOf own_pd5 rfl) rfl (by show 2 * 0 + _ ≤ _; exact Nat.le_of_eq rfl) (hb hby at_185) (fun _ _ => ⟨rfl, e192, (by dsimp only [Pt.cells, Pt.slots, room_1]; omega), (by dsimp only [Pt.cells, Pt.slots, room_1]; omega)⟩)
        dsimp only [Pt.U, Pt.locs, Pt.cells, Pt.slots] at X193 l193 y193 z193 st193 hQ193
        subst l193 y193 z193
        obtain ⟨rfl, N193q, eh193⟩ := hQ193
        have N193 := Fr.app N191 N193q
        refine Go.step (T' := T193) (g' := (mkF m 188 #[.val (.int i0), .val (.int i1), .val (.int i2), .val (.int i3), .val (.int i4), .val (.int i5), .val (.int i6), .val (.int i7), .val (.ref o), .val (.int i0), .val (.int i1)] [(.int i1)])) (fun _ k => st193.trans k) ?_
        refine Go.step (T' := T193) (g' := (mkF m 190 #[.val (.int i0), .val (.int i1), .val (.int i2), .val (.int i3), .val (.int i4), .val (.int i5), .val (.int i6), .val (.int i7), .val (.ref o), .val (.int i0), .val (.int i1)] [(.int i1), (.int i1)])) (fun _ k => XS.iload X193.here hx rfl (hb hby at_188) rfl  k) ?_
        refine Go.step (T' := T193) (g' := (mkF m 193 #[.val (.int i0), .val (.int i1), .val (.int i2), .val (.int i3), .val (.int i4), .val (.int i5), .val (.int i6), .val (.int i7), .val (.ref o), .val (.int i0), .val (.int i1)] [])) (fun _ k => XS.icmpNo X193.here hx rfl (hb hby at_190) rfl (teq (rfl : i1 = i1)).2 k) ?_
        refine Go.step (T' := T193) (g' := (mkF m 194 #[.val (.int i0), .val (.int i1), .val (.int i2), .val (.int i3), .val (.int i4), .val (.int i5), .val (.int i6), .val (.int i7), .val (.ref o), .val (.int i0), .val (.int i1)] [(.int (1 : Int32))])) (fun _ k => XS.iconst X193.here hx rfl (hb hby at_193) k) ?_
        refine Go.step (T' := T193) (g' := (mkF m 198 #[.val (.int i0), .val (.int i1), .val (.int i2), .val (.int i3), .val (.int i4), .val (.int i5), .val (.int i6), .val (.int i7), .val (.ref o), .val (.int i0), .val (.int i1)] [(.int (1 : Int32))])) (fun _ k => XS.goto X193.here hx rfl (pc0 := 194) (pc' := 198) rfl (hb hby at_194) (by decide) (by decide) k) ?_
        exact Go.retN X193 hx (t := .boolean) hret hlk (by simp) (hb hby at_198) (⟨rfl, N193⟩) (by omega) (by omega)
    · skip
      refine Go.step (T' := T103) (g' := (mkF m 105 #[.val (.int i0), .val (.int i1), .val (.int i2), .val (.int i3), .val (.int i4), .val (.int i5), .val (.int i6), .val (.int i7), .val (.ref o), .unset, .unset] [])) (fun _ k => XS.ifNo X103.here hx rfl (hb hby at_102) rfl ((if0 _ _).trans (feq hc125).1) k) ?_
      refine Go.step (T' := T103) (g' := (mkF m 107 #[.val (.int i0), .val (.int i1), .val (.int i2), .val (.int i3), .val (.int i4), .val (.int i5), .val (.int i6), .val (.int i7), .val (.ref o), .unset, .unset] [(.ref o)])) (fun _ k => XS.aload X103.here hx rfl (hb hby at_105) rfl rfl k) ?_
      obtain ⟨T194, X194, e194, st194⟩ := getS2 X103 hx hZ hown (host := "") (Or.inl (hw _ (List.mem_of_getElem? (i := 62) rfl))) Via.refl rfl F106 (g := (mkF m 107 #[.val (.int i0), .val (.int i1), .val (.int i2), .val (.int i3), .val (.int i4), .val (.int i5), .val (.int i6), .val (.int i7), .val (.ref o), .unset, .unset] [(.ref o)])) rfl (hb hby at_107)
      refine Go.step (T' := T194) (g' := (mkF m 110 #[.val (.int i0), .val (.int i1), .val (.int i2), .val (.int i3), .val (.int i4), .val (.int i5), .val (.int i6), .val (.int i7), .val (.ref o), .unset, .unset] [(.ref w1), (.ref o)])) st194 ?_
      refine Go.step (T' := T194) (g' := (mkF m 111 #[.val (.int i0), .val (.int i1), .val (.int i2), .val (.int i3), .val (.int i4), .val (.int i5), .val (.int i6), .val (.int i7), .val (.ref o), .unset, .unset] [(.int i3), (.ref w1), (.ref o)])) (fun _ k => XS.iloadN X194.here hx rfl (hb hby at_110) rfl  k) ?_
      obtain ⟨cq195, kq195, q195a, q195b, q195c⟩ := isOf hZ e194 F116
      obtain ⟨_, _, ⟨T195, L195, k195, n195⟩, -, X195, ⟨Lc195, hQ195, l195, y195, z195⟩, st195⟩ := X194.virtualBack hx (y := (⟨"com/example/tuples_under_lock/tuplesunderlock/Settings", "set", "(Lcom/example/tuples_under_lock/tuplesunderlock/Setting;I)V"⟩ : MethodName)) (z := (⟨"com/example/tuples_under_lock/tuplesunderlock/Settings", "set", "(Lcom/example/tuples_under_lock/tuplesunderlock/Setting;I)V"⟩ : MethodName)) hown (mvT hZ (hw _ (List.mem_of_getElem? (i := 61) rfl))) (mvT hZ (hw _ (List.mem_of_getElem? (i := 47) rfl))) (notFace_of_selects (args := #[]) (mvT hZ (hw _ (List.mem_of_getElem? (i := 49) rfl)))) (mvT hZ (hw _ (List.mem_of_getElem? (i := 49) rfl))) (mvT hZ (hw _ (List.mem_of_getElem? (i := 48) rfl))) (by decide) (backOf (W := 0) (Q := Qset Z sa va ks kv [(.int i0), (.int i3)] [(.int i2), (.int i3)] T103.heap n0) (own_set1 l Z a0 hw [] o w1 i3 sa va ks kv (.int i0) (.int i1) (.int i2) (.int i1) T103.heap n0 Z103 F116 F111 F113 F117 F118 F120 F121 F123 U103b f25 f26 f27 f34 f35 f23 f24) hZ (hw _ (List.mem_of_getElem? (i := 50) rfl)) (hw _ (List.mem_of_getElem? (i := 2) rfl)) (by decide) (by decide)) q195a q195c (g := (mkF m 111 #[.val (.int i0), .val (.int i1), .val (.int i2), .val (.int i3), .val (.int i4), .val (.int i5), .val (.int i6), .val (.int i7), .val (.ref o), .unset, .unset] [(.int i3), (.ref w1), (.ref o)])) rfl (by rw [hml]; rfl) (Steps.refl _) (argsL := [(.ref w1), (.int i3)]) (rest := []) (lenOf own_pd2 rfl) rfl (by show 2 * 0 + _ ≤ _; exact Nat.le_of_eq rfl) (hb hby at_111) (fun _ _ => ⟨rfl, e194, (by dsimp only [Pt.cells, Pt.slots, room_1]; omega), (by dsimp only [Pt.cells, Pt.slots, room_1]; omega)⟩)
      dsimp only [Pt.U, Pt.locs, Pt.cells, Pt.slots] at X195 l195 y195 z195 st195 hQ195
      subst l195 y195 z195
      obtain ⟨rfl, N195q, K195, U195a, U195b⟩ := hQ195
      have N195 := Fr.app N103 N195q
      have Z195 : n0 ≤ T195.heap.size := Nat.le_trans Z103 K195.1
      have F196 := own_sta_keep F104 K195 (allS (own_plain F120) (allS (own_plain F121) all0))
      have F197 := own_sta_keep F105 K195 (allS (own_plain F120) (allS (own_plain F121) all0))
      have F198 := own_sta_keep F106 K195 (allS (own_plain F120) (allS (own_plain F121) all0))
      have F199 := own_sta_keep F107 K195 (allS (own_plain F120) (allS (own_plain F121) all0))
      have F200 := F108.keep K195
      have F201 := F109.keep K195 (ninS f37 (ninS f38 nin0))
      have F202 := F110.keep K195
      have F203 := F111.keep K195
      have F204 := F112.keep K195 (ninS f31 (ninS f32 nin0))
      have F205 := F113.keep K195 (ninS f34 (ninS f35 nin0))
      have F206 := F114.keep K195 (ninS f31 (ninS f32 nin0))
      have F207 := F115.keep K195 (ninS f34 (ninS f35 nin0))
      have F208 := F116.keep K195
      have F209 := F117.keep K195 (ninS f26 (ninS f27 nin0))
      have F210 := F118.keep K195 (ninS f26 (ninS f27 nin0))
      have F211 := F119.keep K195 (ninS f26 (ninS f27 nin0))
      have F212 := F120.keep K195
      have F213 := F121.keep K195
      have F214 := F122.keep K195
      have F215 := F124.keep K195 (ninS f29 (ninS f30 nin0))
      refine Go.step (T' := T195) (g' := (mkF m 114 #[.val (.int i0), .val (.int i1), .val (.int i2), .val (.int i3), .val (.int i4), .val (.int i5), .val (.int i6), .val (.int i7), .val (.ref o), .unset, .unset] [])) (fun _ k => st195.trans k) ?_
      refine Go.step (T' := T195) (g' := (mkF m 126 #[.val (.int i0), .val (.int i1), .val (.int i2), .val (.int i3), .val (.int i4), .val (.int i5), .val (.int i6), .val (.int i7), .val (.ref o), .unset, .unset] [])) (fun _ k => XS.goto X195.here hx rfl (pc0 := 114) (pc' := 126) rfl (hb hby at_114) (by decide) (by decide) k) ?_
      by_cases hc216 : i7 = (0 : Int32)
      · skip
        refine Go.step (T' := T195) (g' := (mkF m 128 #[.val (.int i0), .val (.int i1), .val (.int i2), .val (.int i3), .val (.int i4), .val (.int i5), .val (.int i6), .val (.int i7), .val (.ref o), .unset, .unset] [(.ref o)])) (fun _ k => XS.aload X195.here hx rfl (hb hby at_126) rfl rfl k) ?_
        refine Go.step (T' := T195) (g' := (mkF m 130 #[.val (.int i0), .val (.int i1), .val (.int i2), .val (.int i3), .val (.int i4), .val (.int i5), .val (.int i6), .val (.int i7), .val (.ref o), .unset, .unset] [(.int i7), (.ref o)])) (fun _ k => XS.iload X195.here hx rfl (hb hby at_128) rfl  k) ?_
        obtain ⟨cq217, kq217, q217a, q217b, q217c⟩ := isOf hZ rfl F208
        obtain ⟨_, _, ⟨T217, L217, k217, n217⟩, -, X217, ⟨Lc217, hQ217, l217, y217, z217⟩, st217⟩ := X195.virtualBack hx (y := (⟨"com/example/tuples_under_lock/tuplesunderlock/Settings", "endBlock", "(Z)V"⟩ : MethodName)) (z := (⟨"com/example/tuples_under_lock/tuplesunderlock/Settings", "endBlock", "(Z)V"⟩ : MethodName)) hown (mvT hZ (hw _ (List.mem_of_getElem? (i := 81) rfl))) (mvT hZ (hw _ (List.mem_of_getElem? (i := 82) rfl))) (notFace_of_selects (args := #[]) (mvT hZ (hw _ (List.mem_of_getElem? (i := 84) rfl)))) (mvT hZ (hw _ (List.mem_of_getElem? (i := 84) rfl))) (mvT hZ (hw _ (List.mem_of_getElem? (i := 83) rfl))) (by decide) (backOf (W := 0) (Q := Qend Z o sa va kv (.int i0) (.int i1) T195.heap n0) (own_end0 l Z a0 hw [] o i7 sa va ba ks kv kb (.int i0) (.int i3) (.int i2) (.int i3) (.int i0) (.int i1) T195.heap n0 Z195 F199 F208 f22 F209 F210 F211 F212 F213 U195a U195b F215 f25 f26 f27 f29 f30 f28 f23 f24 hc216) hZ (hw _ (List.mem_of_getElem? (i := 85) rfl)) (hw _ (List.mem_of_getElem? (i := 2) rfl)) (by decide) (by decide)) q217a q217c (g := (mkF m 130 #[.val (.int i0), .val (.int i1), .val (.int i2), .val (.int i3), .val (.int i4), .val (.int i5), .val (.int i6), .val (.int i7), .val (.ref o), .unset, .unset] [(.int i7), (.ref o)])) rfl (by rw [hml]; rfl) (Steps.refl _) (argsL := [(.int i7)]) (rest := []) (lenOf own_pd4 rfl) rfl (by show 2 * 0 + _ ≤ _; exact Nat.le_of_eq rfl) (hb hby at_130) (fun _ _ => ⟨rfl, rfl, (by dsimp only [Pt.cells, Pt.slots, room_1]; omega), (by dsimp only [Pt.cells, Pt.slots, room_1]; omega)⟩)
        dsimp only [Pt.U, Pt.locs, Pt.cells, Pt.slots] at X217 l217 y217 z217 st217 hQ217
        subst l217 y217 z217
        obtain ⟨rfl, N217q, K217, R1217, Vv217⟩ := hQ217
        have N217 := Fr.app N195 N217q
        have Z217 : n0 ≤ T217.heap.size := Nat.le_trans Z195 K217.1
        have F218 := own_sta_keep F196 K217 (allS (own_plain F208) (allS (own_plain F212) (allS (own_plain F213) all0)))
        have F219 := own_sta_keep F197 K217 (allS (own_plain F208) (allS (own_plain F212) (allS (own_plain F213) all0)))
        have F220 := own_sta_keep F198 K217 (allS (own_plain F208) (allS (own_plain F212) (allS (own_plain F213) all0)))
        have F221 := own_sta_keep F199 K217 (allS (own_plain F208) (allS (own_plain F212) (allS (own_plain F213) all0)))
        have F222 := F200.keep K217
        have F223 := F201.keep K217 (ninS f39 (ninS f37 (ninS f38 nin0)))
        have F224 := F202.keep K217
        have F225 := F203.keep K217
        have F226 := F204.keep K217 (ninS f33 (ninS f31 (ninS f32 nin0)))
        have F227 := F205.keep K217 (ninS f36 (ninS f34 (ninS f35 nin0)))
        have F228 := F206.keep K217 (ninS f33 (ninS f31 (ninS f32 nin0)))
        have F229 := F207.keep K217 (ninS f36 (ninS f34 (ninS f35 nin0)))
        have F230 := F208.keep K217
        have F231 := F212.keep K217
        have F232 := F213.keep K217
        have F233 := F214.keep K217
        have F234 := F215.keep K217 (ninS (Ne.symm f28) (ninS f29 (ninS f30 nin0)))
        refine Go.step (T' := T217) (g' := (mkF m 133 #[.val (.int i0), .val (.int i1), .val (.int i2), .val (.int i3), .val (.int i4), .val (.int i5), .val (.int i6), .val (.int i7), .val (.ref o), .unset, .unset] [])) (fun _ k => st217.trans k) ?_
        refine Go.step (T' := T217) (g' := (mkF m 135 #[.val (.int i0), .val (.int i1), .val (.int i2), .val (.int i3), .val (.int i4), .val (.int i5), .val (.int i6), .val (.int i7), .val (.ref o), .unset, .unset] [(.int i7)])) (fun _ k => XS.iload X217.here hx rfl (hb hby at_133) rfl  k) ?_
        refine Go.step (T' := T217) (g' := (mkF m 147 #[.val (.int i0), .val (.int i1), .val (.int i2), .val (.int i3), .val (.int i4), .val (.int i5), .val (.int i6), .val (.int i7), .val (.ref o), .unset, .unset] [])) (fun _ k => XS.ifYes X217.here hx rfl (pc0 := 135) (pc' := 147) rfl (hb hby at_135) rfl ((if0 _ _).trans (teq hc216).1) (by decide) (by decide) k) ?_
        refine Go.step (T' := T217) (g' := (mkF m 148 #[.val (.int i0), .val (.int i1), .val (.int i2), .val (.int i3), .val (.int i4), .val (.int i5), .val (.int i6), .val (.int i7), .val (.ref o), .unset, .unset] [(.int i0)])) (fun _ k => XS.iloadN X217.here hx rfl (hb hby at_147) rfl  k) ?_
        refine Go.step (T' := T217) (g' := (mkF m 150 #[.val (.int i0), .val (.int i1), .val (.int i2), .val (.int i3), .val (.int i4), .val (.int i5), .val (.int i6), .val (.int i7), .val (.ref o), .val (.int i0), .unset] [])) (fun _ k => XS.istore X217.here hx rfl (hb hby at_148) rfl (l' := #[.val (.int i0), .val (.int i1), .val (.int i2), .val (.int i3), .val (.int i4), .val (.int i5), .val (.int i6), .val (.int i7), .val (.ref o), .val (.int i0), .unset]) rfl k) ?_
        refine Go.step (T' := T217) (g' := (mkF m 152 #[.val (.int i0), .val (.int i1), .val (.int i2), .val (.int i3), .val (.int i4), .val (.int i5), .val (.int i6), .val (.int i7), .val (.ref o), .val (.int i0), .unset] [(.int i7)])) (fun _ k => XS.iload X217.here hx rfl (hb hby at_150) rfl  k) ?_
        refine Go.step (T' := T217) (g' := (mkF m 164 #[.val (.int i0), .val (.int i1), .val (.int i2), .val (.int i3), .val (.int i4), .val (.int i5), .val (.int i6), .val (.int i7), .val (.ref o), .val (.int i0), .unset] [])) (fun _ k => XS.ifYes X217.here hx rfl (pc0 := 152) (pc' := 164) rfl (hb hby at_152) rfl ((if0 _ _).trans (teq hc216).1) (by decide) (by decide) k) ?_
        refine Go.step (T' := T217) (g' := (mkF m 165 #[.val (.int i0), .val (.int i1), .val (.int i2), .val (.int i3), .val (.int i4), .val (.int i5), .val (.int i6), .val (.int i7), .val (.ref o), .val (.int i0), .unset] [(.int i1)])) (fun _ k => XS.iloadN X217.here hx rfl (hb hby at_164) rfl  k) ?_
        refine Go.step (T' := T217) (g' := (mkF m 167 #[.val (.int i0), .val (.int i1), .val (.int i2), .val (.int i3), .val (.int i4), .val (.int i5), .val (.int i6), .val (.int i7), .val (.ref o), .val (.int i0), .val (.int i1)] [])) (fun _ k => XS.istore X217.here hx rfl (hb hby at_165) rfl (l' := #[.val (.int i0), .val (.int i1), .val (.int i2), .val (.int i3), .val (.int i4), .val (.int i5), .val (.int i6), .val (.int i7), .val (.ref o), .val (.int i0), .val (.int i1)]) rfl k) ?_
        refine Go.step (T' := T217) (g' := (mkF m 169 #[.val (.int i0), .val (.int i1), .val (.int i2), .val (.int i3), .val (.int i4), .val (.int i5), .val (.int i6), .val (.int i7), .val (.ref o), .val (.int i0), .val (.int i1)] [(.ref o)])) (fun _ k => XS.aload X217.here hx rfl (hb hby at_167) rfl rfl k) ?_
        obtain ⟨T235, X235, e235, st235⟩ := getS2 X217 hx hZ hown (host := "") (Or.inl (hw _ (List.mem_of_getElem? (i := 60) rfl))) Via.refl rfl F219 (g := (mkF m 169 #[.val (.int i0), .val (.int i1), .val (.int i2), .val (.int i3), .val (.int i4), .val (.int i5), .val (.int i6), .val (.int i7), .val (.ref o), .val (.int i0), .val (.int i1)] [(.ref o)])) rfl (hb hby at_169)
        refine Go.step (T' := T235) (g' := (mkF m 172 #[.val (.int i0), .val (.int i1), .val (.int i2), .val (.int i3), .val (.int i4), .val (.int i5), .val (.int i6), .val (.int i7), .val (.ref o), .val (.int i0), .val (.int i1)] [(.ref w0), (.ref o)])) st235 ?_
        obtain ⟨cq236, kq236, q236a, q236b, q236c⟩ := isOf hZ e235 F230
        obtain ⟨_, _, ⟨T236, L236, k236, n236⟩, -, X236, ⟨Lc236, hQ236, l236, y236, z236⟩, st236⟩ := X235.virtualBack hx (y := (⟨"com/example/tuples_under_lock/tuplesunderlock/Settings", "get", "(Lcom/example/tuples_under_lock/tuplesunderlock/Setting;)I"⟩ : MethodName)) (z := (⟨"com/example/tuples_under_lock/tuplesunderlock/Settings", "get", "(Lcom/example/tuples_under_lock/tuplesunderlock/Setting;)I"⟩ : MethodName)) hown (mvT hZ (hw _ (List.mem_of_getElem? (i := 90) rfl))) (mvT hZ (hw _ (List.mem_of_getElem? (i := 91) rfl))) (notFace_of_selects (args := #[]) (mvT hZ (hw _ (List.mem_of_getElem? (i := 93) rfl)))) (mvT hZ (hw _ (List.mem_of_getElem? (i := 93) rfl))) (mvT hZ (hw _ (List.mem_of_getElem? (i := 92) rfl))) (by decide) (backOf (W := 0) (Q := Qret (some (.int i0)) T217.heap n0) (own_get0 l Z a0 hw [] o w0 va kv i0 i1 T217.heap n0 Z217 F224 F226 R1217 Vv217) hZ (hw _ (List.mem_of_getElem? (i := 94) rfl)) (hw _ (List.mem_of_getElem? (i := 2) rfl)) (by decide) (by decide)) q236a q236c (g := (mkF m 172 #[.val (.int i0), .val (.int i1), .val (.int i2), .val (.int i3), .val (.int i4), .val (.int i5), .val (.int i6), .val (.int i7), .val (.ref o), .val (.int i0), .val (.int i1)] [(.ref w0), (.ref o)])) rfl (by rw [hml]; rfl) (Steps.refl _) (argsL := [(.ref w0)]) (rest := []) (lenOf own_pd5 rfl) rfl (by show 2 * 0 + _ ≤ _; exact Nat.le_of_eq rfl) (hb hby at_172) (fun _ _ => ⟨rfl, e235, (by dsimp only [Pt.cells, Pt.slots, room_1]; omega), (by dsimp only [Pt.cells, Pt.slots, room_1]; omega)⟩)
        dsimp only [Pt.U, Pt.locs, Pt.cells, Pt.slots] at X236 l236 y236 z236 st236 hQ236
        subst l236 y236 z236
        obtain ⟨rfl, N236q, eh236⟩ := hQ236
        have N236 := Fr.app N217 N236q
        refine Go.step (T' := T236) (g' := (mkF m 175 #[.val (.int i0), .val (.int i1), .val (.int i2), .val (.int i3), .val (.int i4), .val (.int i5), .val (.int i6), .val (.int i7), .val (.ref o), .val (.int i0), .val (.int i1)] [(.int i0)])) (fun _ k => st236.trans k) ?_
        refine Go.step (T' := T236) (g' := (mkF m 177 #[.val (.int i0), .val (.int i1), .val (.int i2), .val (.int i3), .val (.int i4), .val (.int i5), .val (.int i6), .val (.int i7), .val (.ref o), .val (.int i0), .val (.int i1)] [(.int i0), (.int i0)])) (fun _ k => XS.iload X236.here hx rfl (hb hby at_175) rfl  k) ?_
        refine Go.step (T' := T236) (g' := (mkF m 180 #[.val (.int i0), .val (.int i1), .val (.int i2), .val (.int i3), .val (.int i4), .val (.int i5), .val (.int i6), .val (.int i7), .val (.ref o), .val (.int i0), .val (.int i1)] [])) (fun _ k => XS.icmpNo X236.here hx rfl (hb hby at_177) rfl (teq (rfl : i0 = i0)).2 k) ?_
        refine Go.step (T' := T236) (g' := (mkF m 182 #[.val (.int i0), .val (.int i1), .val (.int i2), .val (.int i3), .val (.int i4), .val (.int i5), .val (.int i6), .val (.int i7), .val (.ref o), .val (.int i0), .val (.int i1)] [(.ref o)])) (fun _ k => XS.aload X236.here hx rfl (hb hby at_180) rfl rfl k) ?_
        obtain ⟨T237, X237, e237, st237⟩ := getS2 X236 hx hZ hown (host := "") (Or.inl (hw _ (List.mem_of_getElem? (i := 62) rfl))) Via.refl eh236 F220 (g := (mkF m 182 #[.val (.int i0), .val (.int i1), .val (.int i2), .val (.int i3), .val (.int i4), .val (.int i5), .val (.int i6), .val (.int i7), .val (.ref o), .val (.int i0), .val (.int i1)] [(.ref o)])) rfl (hb hby at_182)
        refine Go.step (T' := T237) (g' := (mkF m 185 #[.val (.int i0), .val (.int i1), .val (.int i2), .val (.int i3), .val (.int i4), .val (.int i5), .val (.int i6), .val (.int i7), .val (.ref o), .val (.int i0), .val (.int i1)] [(.ref w1), (.ref o)])) st237 ?_
        obtain ⟨cq238, kq238, q238a, q238b, q238c⟩ := isOf hZ e237 F230
        obtain ⟨_, _, ⟨T238, L238, k238, n238⟩, -, X238, ⟨Lc238, hQ238, l238, y238, z238⟩, st238⟩ := X237.virtualBack hx (y := (⟨"com/example/tuples_under_lock/tuplesunderlock/Settings", "get", "(Lcom/example/tuples_under_lock/tuplesunderlock/Setting;)I"⟩ : MethodName)) (z := (⟨"com/example/tuples_under_lock/tuplesunderlock/Settings", "get", "(Lcom/example/tuples_under_lock/tuplesunderlock/Setting;)I"⟩ : MethodName)) hown (mvT hZ (hw _ (List.mem_of_getElem? (i := 90) rfl))) (mvT hZ (hw _ (List.mem_of_getElem? (i := 91) rfl))) (notFace_of_selects (args := #[]) (mvT hZ (hw _ (List.mem_of_getElem? (i := 93) rfl)))) (mvT hZ (hw _ (List.mem_of_getElem? (i := 93) rfl))) (mvT hZ (hw _ (List.mem_of_getElem? (i := 92) rfl))) (by decide) (backOf (W := 0) (Q := Qret (some (.int i1)) T217.heap n0) (own_get1 l Z a0 hw [] o w1 va kv i0 i1 T217.heap n0 Z217 F225 F227 R1217 Vv217) hZ (hw _ (List.mem_of_getElem? (i := 94) rfl)) (hw _ (List.mem_of_getElem? (i := 2) rfl)) (by decide) (by decide)) q238a q238c (g := (mkF m 185 #[.val (.int i0), .val (.int i1), .val (.int i2), .val (.int i3), .val (.int i4), .val (.int i5), .val (.int i6), .val (.int i7), .val (.ref o), .val (.int i0), .val (.int i1)] [(.ref w1), (.ref o)])) rfl (by rw [hml]; rfl) (Steps.refl _) (argsL := [(.ref w1)]) (rest := []) (lenOf own_pd5 rfl) rfl (by show 2 * 0 + _ ≤ _; exact Nat.le_of_eq rfl) (hb hby at_185) (fun _ _ => ⟨rfl, e237, (by dsimp only [Pt.cells, Pt.slots, room_1]; omega), (by dsimp only [Pt.cells, Pt.slots, room_1]; omega)⟩)
        dsimp only [Pt.U, Pt.locs, Pt.cells, Pt.slots] at X238 l238 y238 z238 st238 hQ238
        subst l238 y238 z238
        obtain ⟨rfl, N238q, eh238⟩ := hQ238
        have N238 := Fr.app N236 N238q
        refine Go.step (T' := T238) (g' := (mkF m 188 #[.val (.int i0), .val (.int i1), .val (.int i2), .val (.int i3), .val (.int i4), .val (.int i5), .val (.int i6), .val (.int i7), .val (.ref o), .val (.int i0), .val (.int i1)] [(.int i1)])) (fun _ k => st238.trans k) ?_
        refine Go.step (T' := T238) (g' := (mkF m 190 #[.val (.int i0), .val (.int i1), .val (.int i2), .val (.int i3), .val (.int i4), .val (.int i5), .val (.int i6), .val (.int i7), .val (.ref o), .val (.int i0), .val (.int i1)] [(.int i1), (.int i1)])) (fun _ k => XS.iload X238.here hx rfl (hb hby at_188) rfl  k) ?_
        refine Go.step (T' := T238) (g' := (mkF m 193 #[.val (.int i0), .val (.int i1), .val (.int i2), .val (.int i3), .val (.int i4), .val (.int i5), .val (.int i6), .val (.int i7), .val (.ref o), .val (.int i0), .val (.int i1)] [])) (fun _ k => XS.icmpNo X238.here hx rfl (hb hby at_190) rfl (teq (rfl : i1 = i1)).2 k) ?_
        refine Go.step (T' := T238) (g' := (mkF m 194 #[.val (.int i0), .val (.int i1), .val (.int i2), .val (.int i3), .val (.int i4), .val (.int i5), .val (.int i6), .val (.int i7), .val (.ref o), .val (.int i0), .val (.int i1)] [(.int (1 : Int32))])) (fun _ k => XS.iconst X238.here hx rfl (hb hby at_193) k) ?_
        refine Go.step (T' := T238) (g' := (mkF m 198 #[.val (.int i0), .val (.int i1), .val (.int i2), .val (.int i3), .val (.int i4), .val (.int i5), .val (.int i6), .val (.int i7), .val (.ref o), .val (.int i0), .val (.int i1)] [(.int (1 : Int32))])) (fun _ k => XS.goto X238.here hx rfl (pc0 := 194) (pc' := 198) rfl (hb hby at_194) (by decide) (by decide) k) ?_
        exact Go.retN X238 hx (t := .boolean) hret hlk (by simp) (hb hby at_198) (⟨rfl, N238⟩) (by omega) (by omega)
      · skip
        refine Go.step (T' := T195) (g' := (mkF m 128 #[.val (.int i0), .val (.int i1), .val (.int i2), .val (.int i3), .val (.int i4), .val (.int i5), .val (.int i6), .val (.int i7), .val (.ref o), .unset, .unset] [(.ref o)])) (fun _ k => XS.aload X195.here hx rfl (hb hby at_126) rfl rfl k) ?_
        refine Go.step (T' := T195) (g' := (mkF m 130 #[.val (.int i0), .val (.int i1), .val (.int i2), .val (.int i3), .val (.int i4), .val (.int i5), .val (.int i6), .val (.int i7), .val (.ref o), .unset, .unset] [(.int i7), (.ref o)])) (fun _ k => XS.iload X195.here hx rfl (hb hby at_128) rfl  k) ?_
        obtain ⟨cq239, kq239, q239a, q239b, q239c⟩ := isOf hZ rfl F208
        obtain ⟨_, _, ⟨T239, L239, k239, n239⟩, -, X239, ⟨Lc239, hQ239, l239, y239, z239⟩, st239⟩ := X195.virtualBack hx (y := (⟨"com/example/tuples_under_lock/tuplesunderlock/Settings", "endBlock", "(Z)V"⟩ : MethodName)) (z := (⟨"com/example/tuples_under_lock/tuplesunderlock/Settings", "endBlock", "(Z)V"⟩ : MethodName)) hown (mvT hZ (hw _ (List.mem_of_getElem? (i := 81) rfl))) (mvT hZ (hw _ (List.mem_of_getElem? (i := 82) rfl))) (notFace_of_selects (args := #[]) (mvT hZ (hw _ (List.mem_of_getElem? (i := 84) rfl)))) (mvT hZ (hw _ (List.mem_of_getElem? (i := 84) rfl))) (mvT hZ (hw _ (List.mem_of_getElem? (i := 83) rfl))) (by decide) (backOf (W := 0) (Q := Qend Z o sa va kv (.int i0) (.int i3) T195.heap n0) (own_end1 l Z a0 hw [] o i7 sa va ba ks kv kb (.int i0) (.int i3) (.int i2) (.int i3) (.int i0) (.int i1) T195.heap n0 Z195 F199 F208 f22 F209 F210 F211 F212 F213 U195a U195b F215 f25 f26 f27 f29 f30 f28 f23 f24 hc216) hZ (hw _ (List.mem_of_getElem? (i := 85) rfl)) (hw _ (List.mem_of_getElem? (i := 2) rfl)) (by decide) (by decide)) q239a q239c (g := (mkF m 130 #[.val (.int i0), .val (.int i1), .val (.int i2), .val (.int i3), .val (.int i4), .val (.int i5), .val (.int i6), .val (.int i7), .val (.ref o), .unset, .unset] [(.int i7), (.ref o)])) rfl (by rw [hml]; rfl) (Steps.refl _) (argsL := [(.int i7)]) (rest := []) (lenOf own_pd4 rfl) rfl (by show 2 * 0 + _ ≤ _; exact Nat.le_of_eq rfl) (hb hby at_130) (fun _ _ => ⟨rfl, rfl, (by dsimp only [Pt.cells, Pt.slots, room_1]; omega), (by dsimp only [Pt.cells, Pt.slots, room_1]; omega)⟩)
        dsimp only [Pt.U, Pt.locs, Pt.cells, Pt.slots] at X239 l239 y239 z239 st239 hQ239
        subst l239 y239 z239
        obtain ⟨rfl, N239q, K239, R1239, Vv239⟩ := hQ239
        have N239 := Fr.app N195 N239q
        have Z239 : n0 ≤ T239.heap.size := Nat.le_trans Z195 K239.1
        have F240 := own_sta_keep F196 K239 (allS (own_plain F208) (allS (own_plain F212) (allS (own_plain F213) all0)))
        have F241 := own_sta_keep F197 K239 (allS (own_plain F208) (allS (own_plain F212) (allS (own_plain F213) all0)))
        have F242 := own_sta_keep F198 K239 (allS (own_plain F208) (allS (own_plain F212) (allS (own_plain F213) all0)))
        have F243 := own_sta_keep F199 K239 (allS (own_plain F208) (allS (own_plain F212) (allS (own_plain F213) all0)))
        have F244 := F200.keep K239
        have F245 := F201.keep K239 (ninS f39 (ninS f37 (ninS f38 nin0)))
        have F246 := F202.keep K239
        have F247 := F203.keep K239
        have F248 := F204.keep K239 (ninS f33 (ninS f31 (ninS f32 nin0)))
        have F249 := F205.keep K239 (ninS f36 (ninS f34 (ninS f35 nin0)))
        have F250 := F206.keep K239 (ninS f33 (ninS f31 (ninS f32 nin0)))
        have F251 := F207.keep K239 (ninS f36 (ninS f34 (ninS f35 nin0)))
        have F252 := F208.keep K239
        have F253 := F212.keep K239
        have F254 := F213.keep K239
        have F255 := F214.keep K239
        have F256 := F215.keep K239 (ninS (Ne.symm f28) (ninS f29 (ninS f30 nin0)))
        refine Go.step (T' := T239) (g' := (mkF m 133 #[.val (.int i0), .val (.int i1), .val (.int i2), .val (.int i3), .val (.int i4), .val (.int i5), .val (.int i6), .val (.int i7), .val (.ref o), .unset, .unset] [])) (fun _ k => st239.trans k) ?_
        refine Go.step (T' := T239) (g' := (mkF m 135 #[.val (.int i0), .val (.int i1), .val (.int i2), .val (.int i3), .val (.int i4), .val (.int i5), .val (.int i6), .val (.int i7), .val (.ref o), .unset, .unset] [(.int i7)])) (fun _ k => XS.iload X239.here hx rfl (hb hby at_133) rfl  k) ?_
        refine Go.step (T' := T239) (g' := (mkF m 138 #[.val (.int i0), .val (.int i1), .val (.int i2), .val (.int i3), .val (.int i4), .val (.int i5), .val (.int i6), .val (.int i7), .val (.ref o), .unset, .unset] [])) (fun _ k => XS.ifNo X239.here hx rfl (hb hby at_135) rfl ((if0 _ _).trans (feq hc216).1) k) ?_
        refine Go.step (T' := T239) (g' := (mkF m 140 #[.val (.int i0), .val (.int i1), .val (.int i2), .val (.int i3), .val (.int i4), .val (.int i5), .val (.int i6), .val (.int i7), .val (.ref o), .unset, .unset] [(.int i5)])) (fun _ k => XS.iload X239.here hx rfl (hb hby at_138) rfl  k) ?_
        refine Go.step (T' := T239) (g' := (mkF m 147 #[.val (.int i0), .val (.int i1), .val (.int i2), .val (.int i3), .val (.int i4), .val (.int i5), .val (.int i6), .val (.int i7), .val (.ref o), .unset, .unset] [])) (fun _ k => XS.ifYes X239.here hx rfl (pc0 := 140) (pc' := 147) rfl (hb hby at_140) rfl ((if0 _ _).trans (teq hc101).1) (by decide) (by decide) k) ?_
        refine Go.step (T' := T239) (g' := (mkF m 148 #[.val (.int i0), .val (.int i1), .val (.int i2), .val (.int i3), .val (.int i4), .val (.int i5), .val (.int i6), .val (.int i7), .val (.ref o), .unset, .unset] [(.int i0)])) (fun _ k => XS.iloadN X239.here hx rfl (hb hby at_147) rfl  k) ?_
        refine Go.step (T' := T239) (g' := (mkF m 150 #[.val (.int i0), .val (.int i1), .val (.int i2), .val (.int i3), .val (.int i4), .val (.int i5), .val (.int i6), .val (.int i7), .val (.ref o), .val (.int i0), .unset] [])) (fun _ k => XS.istore X239.here hx rfl (hb hby at_148) rfl (l' := #[.val (.int i0), .val (.int i1), .val (.int i2), .val (.int i3), .val (.int i4), .val (.int i5), .val (.int i6), .val (.int i7), .val (.ref o), .val (.int i0), .unset]) rfl k) ?_
        refine Go.step (T' := T239) (g' := (mkF m 152 #[.val (.int i0), .val (.int i1), .val (.int i2), .val (.int i3), .val (.int i4), .val (.int i5), .val (.int i6), .val (.int i7), .val (.ref o), .val (.int i0), .unset] [(.int i7)])) (fun _ k => XS.iload X239.here hx rfl (hb hby at_150) rfl  k) ?_
        refine Go.step (T' := T239) (g' := (mkF m 155 #[.val (.int i0), .val (.int i1), .val (.int i2), .val (.int i3), .val (.int i4), .val (.int i5), .val (.int i6), .val (.int i7), .val (.ref o), .val (.int i0), .unset] [])) (fun _ k => XS.ifNo X239.here hx rfl (hb hby at_152) rfl ((if0 _ _).trans (feq hc216).1) k) ?_
        refine Go.step (T' := T239) (g' := (mkF m 157 #[.val (.int i0), .val (.int i1), .val (.int i2), .val (.int i3), .val (.int i4), .val (.int i5), .val (.int i6), .val (.int i7), .val (.ref o), .val (.int i0), .unset] [(.int i6)])) (fun _ k => XS.iload X239.here hx rfl (hb hby at_155) rfl  k) ?_
        refine Go.step (T' := T239) (g' := (mkF m 160 #[.val (.int i0), .val (.int i1), .val (.int i2), .val (.int i3), .val (.int i4), .val (.int i5), .val (.int i6), .val (.int i7), .val (.ref o), .val (.int i0), .unset] [])) (fun _ k => XS.ifNo X239.here hx rfl (hb hby at_157) rfl ((if0 _ _).trans (feq hc125).1) k) ?_
        refine Go.step (T' := T239) (g' := (mkF m 161 #[.val (.int i0), .val (.int i1), .val (.int i2), .val (.int i3), .val (.int i4), .val (.int i5), .val (.int i6), .val (.int i7), .val (.ref o), .val (.int i0), .unset] [(.int i3)])) (fun _ k => XS.iloadN X239.here hx rfl (hb hby at_160) rfl  k) ?_
        refine Go.step (T' := T239) (g' := (mkF m 165 #[.val (.int i0), .val (.int i1), .val (.int i2), .val (.int i3), .val (.int i4), .val (.int i5), .val (.int i6), .val (.int i7), .val (.ref o), .val (.int i0), .unset] [(.int i3)])) (fun _ k => XS.goto X239.here hx rfl (pc0 := 161) (pc' := 165) rfl (hb hby at_161) (by decide) (by decide) k) ?_
        refine Go.step (T' := T239) (g' := (mkF m 167 #[.val (.int i0), .val (.int i1), .val (.int i2), .val (.int i3), .val (.int i4), .val (.int i5), .val (.int i6), .val (.int i7), .val (.ref o), .val (.int i0), .val (.int i3)] [])) (fun _ k => XS.istore X239.here hx rfl (hb hby at_165) rfl (l' := #[.val (.int i0), .val (.int i1), .val (.int i2), .val (.int i3), .val (.int i4), .val (.int i5), .val (.int i6), .val (.int i7), .val (.ref o), .val (.int i0), .val (.int i3)]) rfl k) ?_
        refine Go.step (T' := T239) (g' := (mkF m 169 #[.val (.int i0), .val (.int i1), .val (.int i2), .val (.int i3), .val (.int i4), .val (.int i5), .val (.int i6), .val (.int i7), .val (.ref o), .val (.int i0), .val (.int i3)] [(.ref o)])) (fun _ k => XS.aload X239.here hx rfl (hb hby at_167) rfl rfl k) ?_
        obtain ⟨T257, X257, e257, st257⟩ := getS2 X239 hx hZ hown (host := "") (Or.inl (hw _ (List.mem_of_getElem? (i := 60) rfl))) Via.refl rfl F241 (g := (mkF m 169 #[.val (.int i0), .val (.int i1), .val (.int i2), .val (.int i3), .val (.int i4), .val (.int i5), .val (.int i6), .val (.int i7), .val (.ref o), .val (.int i0), .val (.int i3)] [(.ref o)])) rfl (hb hby at_169)
        refine Go.step (T' := T257) (g' := (mkF m 172 #[.val (.int i0), .val (.int i1), .val (.int i2), .val (.int i3), .val (.int i4), .val (.int i5), .val (.int i6), .val (.int i7), .val (.ref o), .val (.int i0), .val (.int i3)] [(.ref w0), (.ref o)])) st257 ?_
        obtain ⟨cq258, kq258, q258a, q258b, q258c⟩ := isOf hZ e257 F252
        obtain ⟨_, _, ⟨T258, L258, k258, n258⟩, -, X258, ⟨Lc258, hQ258, l258, y258, z258⟩, st258⟩ := X257.virtualBack hx (y := (⟨"com/example/tuples_under_lock/tuplesunderlock/Settings", "get", "(Lcom/example/tuples_under_lock/tuplesunderlock/Setting;)I"⟩ : MethodName)) (z := (⟨"com/example/tuples_under_lock/tuplesunderlock/Settings", "get", "(Lcom/example/tuples_under_lock/tuplesunderlock/Setting;)I"⟩ : MethodName)) hown (mvT hZ (hw _ (List.mem_of_getElem? (i := 90) rfl))) (mvT hZ (hw _ (List.mem_of_getElem? (i := 91) rfl))) (notFace_of_selects (args := #[]) (mvT hZ (hw _ (List.mem_of_getElem? (i := 93) rfl)))) (mvT hZ (hw _ (List.mem_of_getElem? (i := 93) rfl))) (mvT hZ (hw _ (List.mem_of_getElem? (i := 92) rfl))) (by decide) (backOf (W := 0) (Q := Qret (some (.int i0)) T239.heap n0) (own_get0 l Z a0 hw [] o w0 va kv i0 i3 T239.heap n0 Z239 F246 F248 R1239 Vv239) hZ (hw _ (List.mem_of_getElem? (i := 94) rfl)) (hw _ (List.mem_of_getElem? (i := 2) rfl)) (by decide) (by decide)) q258a q258c (g := (mkF m 172 #[.val (.int i0), .val (.int i1), .val (.int i2), .val (.int i3), .val (.int i4), .val (.int i5), .val (.int i6), .val (.int i7), .val (.ref o), .val (.int i0), .val (.int i3)] [(.ref w0), (.ref o)])) rfl (by rw [hml]; rfl) (Steps.refl _) (argsL := [(.ref w0)]) (rest := []) (lenOf own_pd5 rfl) rfl (by show 2 * 0 + _ ≤ _; exact Nat.le_of_eq rfl) (hb hby at_172) (fun _ _ => ⟨rfl, e257, (by dsimp only [Pt.cells, Pt.slots, room_1]; omega), (by dsimp only [Pt.cells, Pt.slots, room_1]; omega)⟩)
        dsimp only [Pt.U, Pt.locs, Pt.cells, Pt.slots] at X258 l258 y258 z258 st258 hQ258
        subst l258 y258 z258
        obtain ⟨rfl, N258q, eh258⟩ := hQ258
        have N258 := Fr.app N239 N258q
        refine Go.step (T' := T258) (g' := (mkF m 175 #[.val (.int i0), .val (.int i1), .val (.int i2), .val (.int i3), .val (.int i4), .val (.int i5), .val (.int i6), .val (.int i7), .val (.ref o), .val (.int i0), .val (.int i3)] [(.int i0)])) (fun _ k => st258.trans k) ?_
        refine Go.step (T' := T258) (g' := (mkF m 177 #[.val (.int i0), .val (.int i1), .val (.int i2), .val (.int i3), .val (.int i4), .val (.int i5), .val (.int i6), .val (.int i7), .val (.ref o), .val (.int i0), .val (.int i3)] [(.int i0), (.int i0)])) (fun _ k => XS.iload X258.here hx rfl (hb hby at_175) rfl  k) ?_
        refine Go.step (T' := T258) (g' := (mkF m 180 #[.val (.int i0), .val (.int i1), .val (.int i2), .val (.int i3), .val (.int i4), .val (.int i5), .val (.int i6), .val (.int i7), .val (.ref o), .val (.int i0), .val (.int i3)] [])) (fun _ k => XS.icmpNo X258.here hx rfl (hb hby at_177) rfl (teq (rfl : i0 = i0)).2 k) ?_
        refine Go.step (T' := T258) (g' := (mkF m 182 #[.val (.int i0), .val (.int i1), .val (.int i2), .val (.int i3), .val (.int i4), .val (.int i5), .val (.int i6), .val (.int i7), .val (.ref o), .val (.int i0), .val (.int i3)] [(.ref o)])) (fun _ k => XS.aload X258.here hx rfl (hb hby at_180) rfl rfl k) ?_
        obtain ⟨T259, X259, e259, st259⟩ := getS2 X258 hx hZ hown (host := "") (Or.inl (hw _ (List.mem_of_getElem? (i := 62) rfl))) Via.refl eh258 F242 (g := (mkF m 182 #[.val (.int i0), .val (.int i1), .val (.int i2), .val (.int i3), .val (.int i4), .val (.int i5), .val (.int i6), .val (.int i7), .val (.ref o), .val (.int i0), .val (.int i3)] [(.ref o)])) rfl (hb hby at_182)
        refine Go.step (T' := T259) (g' := (mkF m 185 #[.val (.int i0), .val (.int i1), .val (.int i2), .val (.int i3), .val (.int i4), .val (.int i5), .val (.int i6), .val (.int i7), .val (.ref o), .val (.int i0), .val (.int i3)] [(.ref w1), (.ref o)])) st259 ?_
        obtain ⟨cq260, kq260, q260a, q260b, q260c⟩ := isOf hZ e259 F252
        obtain ⟨_, _, ⟨T260, L260, k260, n260⟩, -, X260, ⟨Lc260, hQ260, l260, y260, z260⟩, st260⟩ := X259.virtualBack hx (y := (⟨"com/example/tuples_under_lock/tuplesunderlock/Settings", "get", "(Lcom/example/tuples_under_lock/tuplesunderlock/Setting;)I"⟩ : MethodName)) (z := (⟨"com/example/tuples_under_lock/tuplesunderlock/Settings", "get", "(Lcom/example/tuples_under_lock/tuplesunderlock/Setting;)I"⟩ : MethodName)) hown (mvT hZ (hw _ (List.mem_of_getElem? (i := 90) rfl))) (mvT hZ (hw _ (List.mem_of_getElem? (i := 91) rfl))) (notFace_of_selects (args := #[]) (mvT hZ (hw _ (List.mem_of_getElem? (i := 93) rfl)))) (mvT hZ (hw _ (List.mem_of_getElem? (i := 93) rfl))) (mvT hZ (hw _ (List.mem_of_getElem? (i := 92) rfl))) (by decide) (backOf (W := 0) (Q := Qret (some (.int i3)) T239.heap n0) (own_get1 l Z a0 hw [] o w1 va kv i0 i3 T239.heap n0 Z239 F247 F249 R1239 Vv239) hZ (hw _ (List.mem_of_getElem? (i := 94) rfl)) (hw _ (List.mem_of_getElem? (i := 2) rfl)) (by decide) (by decide)) q260a q260c (g := (mkF m 185 #[.val (.int i0), .val (.int i1), .val (.int i2), .val (.int i3), .val (.int i4), .val (.int i5), .val (.int i6), .val (.int i7), .val (.ref o), .val (.int i0), .val (.int i3)] [(.ref w1), (.ref o)])) rfl (by rw [hml]; rfl) (Steps.refl _) (argsL := [(.ref w1)]) (rest := []) (lenOf own_pd5 rfl) rfl (by show 2 * 0 + _ ≤ _; exact Nat.le_of_eq rfl) (hb hby at_185) (fun _ _ => ⟨rfl, e259, (by dsimp only [Pt.cells, Pt.slots, room_1]; omega), (by dsimp only [Pt.cells, Pt.slots, room_1]; omega)⟩)
        dsimp only [Pt.U, Pt.locs, Pt.cells, Pt.slots] at X260 l260 y260 z260 st260 hQ260
        subst l260 y260 z260
        obtain ⟨rfl, N260q, eh260⟩ := hQ260
        have N260 := Fr.app N258 N260q
        refine Go.step (T' := T260) (g' := (mkF m 188 #[.val (.int i0), .val (.int i1), .val (.int i2), .val (.int i3), .val (.int i4), .val (.int i5), .val (.int i6), .val (.int i7), .val (.ref o), .val (.int i0), .val (.int i3)] [(.int i3)])) (fun _ k => st260.trans k) ?_
        refine Go.step (T' := T260) (g' := (mkF m 190 #[.val (.int i0), .val (.int i1), .val (.int i2), .val (.int i3), .val (.int i4), .val (.int i5), .val (.int i6), .val (.int i7), .val (.ref o), .val (.int i0), .val (.int i3)] [(.int i3), (.int i3)])) (fun _ k => XS.iload X260.here hx rfl (hb hby at_188) rfl  k) ?_
        refine Go.step (T' := T260) (g' := (mkF m 193 #[.val (.int i0), .val (.int i1), .val (.int i2), .val (.int i3), .val (.int i4), .val (.int i5), .val (.int i6), .val (.int i7), .val (.ref o), .val (.int i0), .val (.int i3)] [])) (fun _ k => XS.icmpNo X260.here hx rfl (hb hby at_190) rfl (teq (rfl : i3 = i3)).2 k) ?_
        refine Go.step (T' := T260) (g' := (mkF m 194 #[.val (.int i0), .val (.int i1), .val (.int i2), .val (.int i3), .val (.int i4), .val (.int i5), .val (.int i6), .val (.int i7), .val (.ref o), .val (.int i0), .val (.int i3)] [(.int (1 : Int32))])) (fun _ k => XS.iconst X260.here hx rfl (hb hby at_193) k) ?_
        refine Go.step (T' := T260) (g' := (mkF m 198 #[.val (.int i0), .val (.int i1), .val (.int i2), .val (.int i3), .val (.int i4), .val (.int i5), .val (.int i6), .val (.int i7), .val (.ref o), .val (.int i0), .val (.int i3)] [(.int (1 : Int32))])) (fun _ k => XS.goto X260.here hx rfl (pc0 := 194) (pc' := 198) rfl (hb hby at_194) (by decide) (by decide) k) ?_
        exact Go.retN X260 hx (t := .boolean) hret hlk (by simp) (hb hby at_198) (⟨rfl, N260⟩) (by omega) (by omega)
  · skip
    refine Go.step (T' := T0) (g' := (mkF m 79 #[.val (.int i0), .val (.int i1), .val (.int i2), .val (.int i3), .val (.int i4), .val (.int i5), .val (.int i6), .val (.int i7), .val (.ref o), .unset, .unset] [])) (fun _ k => XS.ifNo X0.here hx rfl (hb hby at_76) rfl ((if0 _ _).trans (feq hc101).1) k) ?_
    refine Go.step (T' := T0) (g' := (mkF m 81 #[.val (.int i0), .val (.int i1), .val (.int i2), .val (.int i3), .val (.int i4), .val (.int i5), .val (.int i6), .val (.int i7), .val (.ref o), .unset, .unset] [(.ref o)])) (fun _ k => XS.aload X0.here hx rfl (hb hby at_79) rfl rfl k) ?_
    obtain ⟨T261, X261, e261, st261⟩ := getS2 X0 hx hZ hown (host := "") (Or.inl (hw _ (List.mem_of_getElem? (i := 60) rfl))) Via.refl e0 f1 (g := (mkF m 81 #[.val (.int i0), .val (.int i1), .val (.int i2), .val (.int i3), .val (.int i4), .val (.int i5), .val (.int i6), .val (.int i7), .val (.ref o), .unset, .unset] [(.ref o)])) rfl (hb hby at_81)
    refine Go.step (T' := T261) (g' := (mkF m 84 #[.val (.int i0), .val (.int i1), .val (.int i2), .val (.int i3), .val (.int i4), .val (.int i5), .val (.int i6), .val (.int i7), .val (.ref o), .unset, .unset] [(.ref w0), (.ref o)])) st261 ?_
    refine Go.step (T' := T261) (g' := (mkF m 85 #[.val (.int i0), .val (.int i1), .val (.int i2), .val (.int i3), .val (.int i4), .val (.int i5), .val (.int i6), .val (.int i7), .val (.ref o), .unset, .unset] [(.int i2), (.ref w0), (.ref o)])) (fun _ k => XS.iloadN X261.here hx rfl (hb hby at_84) rfl  k) ?_
    obtain ⟨cq262, kq262, q262a, q262b, q262c⟩ := isOf hZ e261 f12
    obtain ⟨_, _, ⟨T262, L262, k262, n262⟩, -, X262, ⟨Lc262, hQ262, l262, y262, z262⟩, st262⟩ := X261.virtualBack hx (y := (⟨"com/example/tuples_under_lock/tuplesunderlock/Settings", "set", "(Lcom/example/tuples_under_lock/tuplesunderlock/Setting;I)V"⟩ : MethodName)) (z := (⟨"com/example/tuples_under_lock/tuplesunderlock/Settings", "set", "(Lcom/example/tuples_under_lock/tuplesunderlock/Setting;I)V"⟩ : MethodName)) hown (mvT hZ (hw _ (List.mem_of_getElem? (i := 61) rfl))) (mvT hZ (hw _ (List.mem_of_getElem? (i := 47) rfl))) (notFace_of_selects (args := #[]) (mvT hZ (hw _ (List.mem_of_getElem? (i := 49) rfl)))) (mvT hZ (hw _ (List.mem_of_getElem? (i := 49) rfl))) (mvT hZ (hw _ (List.mem_of_getElem? (i := 48) rfl))) (by decide) (backOf (W := 0) (Q := Qset Z sa va ks kv [(.int i2), (.int i1)] [(.int i2), (.int i1)] h0 n0) (own_set0 l Z a0 hw [] o w0 i2 sa va ks kv (.int i0) (.int i1) (.int i0) (.int i1) h0 n0 Z0 f12 f6 f8 f13 f14 f16 f17 f19 f20 f25 f26 f27 f31 f32 f23 f24) hZ (hw _ (List.mem_of_getElem? (i := 50) rfl)) (hw _ (List.mem_of_getElem? (i := 2) rfl)) (by decide) (by decide)) q262a q262c (g := (mkF m 85 #[.val (.int i0), .val (.int i1), .val (.int i2), .val (.int i3), .val (.int i4), .val (.int i5), .val (.int i6), .val (.int i7), .val (.ref o), .unset, .unset] [(.int i2), (.ref w0), (.ref o)])) rfl (by rw [hml]; rfl) (Steps.refl _) (argsL := [(.ref w0), (.int i2)]) (rest := []) (lenOf own_pd2 rfl) rfl (by show 2 * 0 + _ ≤ _; exact Nat.le_of_eq rfl) (hb hby at_85) (fun _ _ => ⟨rfl, e261, (by dsimp only [Pt.cells, Pt.slots, room_1]; omega), (by dsimp only [Pt.cells, Pt.slots, room_1]; omega)⟩)
    dsimp only [Pt.U, Pt.locs, Pt.cells, Pt.slots] at X262 l262 y262 z262 st262 hQ262
    subst l262 y262 z262
    obtain ⟨rfl, N262q, K262, U262a, U262b⟩ := hQ262
    have N262 := Fr.app N0 N262q
    have Z262 : n0 ≤ T262.heap.size := Nat.le_trans Z0 K262.1
    have F263 := own_sta_keep f0 K262 (allS (own_plain f16) (allS (own_plain f17) all0))
    have F264 := own_sta_keep f1 K262 (allS (own_plain f16) (allS (own_plain f17) all0))
    have F265 := own_sta_keep f2 K262 (allS (own_plain f16) (allS (own_plain f17) all0))
    have F266 := own_sta_keep f3 K262 (allS (own_plain f16) (allS (own_plain f17) all0))
    have F267 := f4.keep K262
    have F268 := f5.keep K262 (ninS f37 (ninS f38 nin0))
    have F269 := f6.keep K262
    have F270 := f7.keep K262
    have F271 := f8.keep K262 (ninS f31 (ninS f32 nin0))
    have F272 := f9.keep K262 (ninS f34 (ninS f35 nin0))
    have F273 := f10.keep K262 (ninS f31 (ninS f32 nin0))
    have F274 := f11.keep K262 (ninS f34 (ninS f35 nin0))
    have F275 := f12.keep K262
    have F276 := f13.keep K262 (ninS f26 (ninS f27 nin0))
    have F277 := f14.keep K262 (ninS f26 (ninS f27 nin0))
    have F278 := f15.keep K262 (ninS f26 (ninS f27 nin0))
    have F279 := f16.keep K262
    have F280 := f17.keep K262
    have F281 := f18.keep K262
    have F282 := f21.keep K262 (ninS f29 (ninS f30 nin0))
    refine Go.step (T' := T262) (g' := (mkF m 88 #[.val (.int i0), .val (.int i1), .val (.int i2), .val (.int i3), .val (.int i4), .val (.int i5), .val (.int i6), .val (.int i7), .val (.ref o), .unset, .unset] [])) (fun _ k => st262.trans k) ?_
    refine Go.step (T' := T262) (g' := (mkF m 100 #[.val (.int i0), .val (.int i1), .val (.int i2), .val (.int i3), .val (.int i4), .val (.int i5), .val (.int i6), .val (.int i7), .val (.ref o), .unset, .unset] [])) (fun _ k => XS.goto X262.here hx rfl (pc0 := 88) (pc' := 100) rfl (hb hby at_88) (by decide) (by decide) k) ?_
    refine Go.step (T' := T262) (g' := (mkF m 102 #[.val (.int i0), .val (.int i1), .val (.int i2), .val (.int i3), .val (.int i4), .val (.int i5), .val (.int i6), .val (.int i7), .val (.ref o), .unset, .unset] [(.int i6)])) (fun _ k => XS.iload X262.here hx rfl (hb hby at_100) rfl  k) ?_
    by_cases hc283 : i6 = (0 : Int32)
    · skip
      refine Go.step (T' := T262) (g' := (mkF m 117 #[.val (.int i0), .val (.int i1), .val (.int i2), .val (.int i3), .val (.int i4), .val (.int i5), .val (.int i6), .val (.int i7), .val (.ref o), .unset, .unset] [])) (fun _ k => XS.ifYes X262.here hx rfl (pc0 := 102) (pc' := 117) rfl (hb hby at_102) rfl ((if0 _ _).trans (teq hc283).1) (by decide) (by decide) k) ?_
      refine Go.step (T' := T262) (g' := (mkF m 119 #[.val (.int i0), .val (.int i1), .val (.int i2), .val (.int i3), .val (.int i4), .val (.int i5), .val (.int i6), .val (.int i7), .val (.ref o), .unset, .unset] [(.ref o)])) (fun _ k => XS.aload X262.here hx rfl (hb hby at_117) rfl rfl k) ?_
      obtain ⟨T284, X284, e284, st284⟩ := getS2 X262 hx hZ hown (host := "") (Or.inl (hw _ (List.mem_of_getElem? (i := 62) rfl))) Via.refl rfl F265 (g := (mkF m 119 #[.val (.int i0), .val (.int i1), .val (.int i2), .val (.int i3), .val (.int i4), .val (.int i5), .val (.int i6), .val (.int i7), .val (.ref o), .unset, .unset] [(.ref o)])) rfl (hb hby at_119)
      refine Go.step (T' := T284) (g' := (mkF m 122 #[.val (.int i0), .val (.int i1), .val (.int i2), .val (.int i3), .val (.int i4), .val (.int i5), .val (.int i6), .val (.int i7), .val (.ref o), .unset, .unset] [(.ref w1), (.ref o)])) st284 ?_
      refine Go.step (T' := T284) (g' := (mkF m 123 #[.val (.int i0), .val (.int i1), .val (.int i2), .val (.int i3), .val (.int i4), .val (.int i5), .val (.int i6), .val (.int i7), .val (.ref o), .unset, .unset] [(.int i3), (.ref w1), (.ref o)])) (fun _ k => XS.iloadN X284.here hx rfl (hb hby at_122) rfl  k) ?_
      obtain ⟨cq285, kq285, q285a, q285b, q285c⟩ := isOf hZ e284 F275
      obtain ⟨_, _, ⟨T285, L285, k285, n285⟩, -, X285, ⟨Lc285, hQ285, l285, y285, z285⟩, st285⟩ := X284.virtualBack hx (y := (⟨"com/example/tuples_under_lock/tuplesunderlock/Settings", "setLocal", "(Lcom/example/tuples_under_lock/tuplesunderlock/Setting;I)V"⟩ : MethodName)) (z := (⟨"com/example/tuples_under_lock/tuplesunderlock/Settings", "setLocal", "(Lcom/example/tuples_under_lock/tuplesunderlock/Setting;I)V"⟩ : MethodName)) hown (mvT hZ (hw _ (List.mem_of_getElem? (i := 76) rfl))) (mvT hZ (hw _ (List.mem_of_getElem? (i := 77) rfl))) (notFace_of_selects (args := #[]) (mvT hZ (hw _ (List.mem_of_getElem? (i := 79) rfl)))) (mvT hZ (hw _ (List.mem_of_getElem? (i := 79) rfl))) (mvT hZ (hw _ (List.mem_of_getElem? (i := 78) rfl))) (by decide) (backOf (W := 0) (Q := Qsetl Z va kv [(.int i2), (.int i3)] T262.heap n0) (own_setl1 l Z a0 hw [] o w1 i3 sa va ks kv (.int i2) (.int i1) (.int i2) (.int i1) T262.heap n0 Z262 F275 F270 F272 F276 F277 F279 F280 U262a U262b f25 f26 f27 f34 f35 f23 f24) hZ (hw _ (List.mem_of_getElem? (i := 80) rfl)) (hw _ (List.mem_of_getElem? (i := 2) rfl)) (by decide) (by decide)) q285a q285c (g := (mkF m 123 #[.val (.int i0), .val (.int i1), .val (.int i2), .val (.int i3), .val (.int i4), .val (.int i5), .val (.int i6), .val (.int i7), .val (.ref o), .unset, .unset] [(.int i3), (.ref w1), (.ref o)])) rfl (by rw [hml]; rfl) (Steps.refl _) (argsL := [(.ref w1), (.int i3)]) (rest := []) (lenOf own_pd2 rfl) rfl (by show 2 * 0 + _ ≤ _; exact Nat.le_of_eq rfl) (hb hby at_123) (fun _ _ => ⟨rfl, e284, (by dsimp only [Pt.cells, Pt.slots, room_1]; omega), (by dsimp only [Pt.cells, Pt.slots, room_1]; omega)⟩)
      dsimp only [Pt.U, Pt.locs, Pt.cells, Pt.slots] at X285 l285 y285 z285 st285 hQ285
      subst l285 y285 z285
      obtain ⟨rfl, N285q, K285, U285b⟩ := hQ285
      have N285 := Fr.app N262 N285q
      have Z285 : n0 ≤ T285.heap.size := Nat.le_trans Z262 K285.1
      have F286 := own_sta_keep F263 K285 (allS (own_plain F280) all0)
      have F287 := own_sta_keep F264 K285 (allS (own_plain F280) all0)
      have F288 := own_sta_keep F265 K285 (allS (own_plain F280) all0)
      have F289 := own_sta_keep F266 K285 (allS (own_plain F280) all0)
      have F290 := F267.keep K285
      have F291 := F268.keep K285 (ninS f38 nin0)
      have F292 := F269.keep K285
      have F293 := F270.keep K285
      have F294 := F271.keep K285 (ninS f32 nin0)
      have F295 := F272.keep K285 (ninS f35 nin0)
      have F296 := F273.keep K285 (ninS f32 nin0)
      have F297 := F274.keep K285 (ninS f35 nin0)
      have F298 := F275.keep K285
      have F299 := F276.keep K285 (ninS f27 nin0)
      have F300 := F277.keep K285 (ninS f27 nin0)
      have F301 := F278.keep K285 (ninS f27 nin0)
      have F302 := F279.keep K285
      have F303 := F280.keep K285
      have F304 := F281.keep K285
      have F305 := F282.keep K285 (ninS f30 nin0)
      have F306 := U262a.keep K285 (ninS f25 nin0)
      refine Go.step (T' := T285) (g' := (mkF m 126 #[.val (.int i0), .val (.int i1), .val (.int i2), .val (.int i3), .val (.int i4), .val (.int i5), .val (.int i6), .val (.int i7), .val (.ref o), .unset, .unset] [])) (fun _ k => st285.trans k) ?_
      by_cases hc307 : i7 = (0 : Int32)
      · skip
        refine Go.step (T' := T285) (g' := (mkF m 128 #[.val (.int i0), .val (.int i1), .val (.int i2), .val (.int i3), .val (.int i4), .val (.int i5), .val (.int i6), .val (.int i7), .val (.ref o), .unset, .unset] [(.ref o)])) (fun _ k => XS.aload X285.here hx rfl (hb hby at_126) rfl rfl k) ?_
        refine Go.step (T' := T285) (g' := (mkF m 130 #[.val (.int i0), .val (.int i1), .val (.int i2), .val (.int i3), .val (.int i4), .val (.int i5), .val (.int i6), .val (.int i7), .val (.ref o), .unset, .unset] [(.int i7), (.ref o)])) (fun _ k => XS.iload X285.here hx rfl (hb hby at_128) rfl  k) ?_
        obtain ⟨cq308, kq308, q308a, q308b, q308c⟩ := isOf hZ rfl F298
        obtain ⟨_, _, ⟨T308, L308, k308, n308⟩, -, X308, ⟨Lc308, hQ308, l308, y308, z308⟩, st308⟩ := X285.virtualBack hx (y := (⟨"com/example/tuples_under_lock/tuplesunderlock/Settings", "endBlock", "(Z)V"⟩ : MethodName)) (z := (⟨"com/example/tuples_under_lock/tuplesunderlock/Settings", "endBlock", "(Z)V"⟩ : MethodName)) hown (mvT hZ (hw _ (List.mem_of_getElem? (i := 81) rfl))) (mvT hZ (hw _ (List.mem_of_getElem? (i := 82) rfl))) (notFace_of_selects (args := #[]) (mvT hZ (hw _ (List.mem_of_getElem? (i := 84) rfl)))) (mvT hZ (hw _ (List.mem_of_getElem? (i := 84) rfl))) (mvT hZ (hw _ (List.mem_of_getElem? (i := 83) rfl))) (by decide) (backOf (W := 0) (Q := Qend Z o sa va kv (.int i0) (.int i1) T285.heap n0) (own_end0 l Z a0 hw [] o i7 sa va ba ks kv kb (.int i2) (.int i1) (.int i2) (.int i3) (.int i0) (.int i1) T285.heap n0 Z285 F289 F298 f22 F299 F300 F301 F302 F303 F306 U285b F305 f25 f26 f27 f29 f30 f28 f23 f24 hc307) hZ (hw _ (List.mem_of_getElem? (i := 85) rfl)) (hw _ (List.mem_of_getElem? (i := 2) rfl)) (by decide) (by decide)) q308a q308c (g := (mkF m 130 #[.val (.int i0), .val (.int i1), .val (.int i2), .val (.int i3), .val (.int i4), .val (.int i5), .val (.int i6), .val (.int i7), .val (.ref o), .unset, .unset] [(.int i7), (.ref o)])) rfl (by rw [hml]; rfl) (Steps.refl _) (argsL := [(.int i7)]) (rest := []) (lenOf own_pd4 rfl) rfl (by show 2 * 0 + _ ≤ _; exact Nat.le_of_eq rfl) (hb hby at_130) (fun _ _ => ⟨rfl, rfl, (by dsimp only [Pt.cells, Pt.slots, room_1]; omega), (by dsimp only [Pt.cells, Pt.slots, room_1]; omega)⟩)
        dsimp only [Pt.U, Pt.locs, Pt.cells, Pt.slots] at X308 l308 y308 z308 st308 hQ308
        subst l308 y308 z308
        obtain ⟨rfl, N308q, K308, R1308, Vv308⟩ := hQ308
        have N308 := Fr.app N285 N308q
        have Z308 : n0 ≤ T308.heap.size := Nat.le_trans Z285 K308.1
        have F309 := own_sta_keep F286 K308 (allS (own_plain F298) (allS (own_plain F302) (allS (own_plain F303) all0)))
        have F310 := own_sta_keep F287 K308 (allS (own_plain F298) (allS (own_plain F302) (allS (own_plain F303) all0)))
        have F311 := own_sta_keep F288 K308 (allS (own_plain F298) (allS (own_plain F302) (allS (own_plain F303) all0)))
        have F312 := own_sta_keep F289 K308 (allS (own_plain F298) (allS (own_plain F302) (allS (own_plain F303) all0)))
        have F313 := F290.keep K308
        have F314 := F291.keep K308 (ninS f39 (ninS f37 (ninS f38 nin0)))
        have F315 := F292.keep K308
        have F316 := F293.keep K308
        have F317 := F294.keep K308 (ninS f33 (ninS f31 (ninS f32 nin0)))
        have F318 := F295.keep K308 (ninS f36 (ninS f34 (ninS f35 nin0)))
        have F319 := F296.keep K308 (ninS f33 (ninS f31 (ninS f32 nin0)))
        have F320 := F297.keep K308 (ninS f36 (ninS f34 (ninS f35 nin0)))
        have F321 := F298.keep K308
        have F322 := F302.keep K308
        have F323 := F303.keep K308
        have F324 := F304.keep K308
        have F325 := F305.keep K308 (ninS (Ne.symm f28) (ninS f29 (ninS f30 nin0)))
        refine Go.step (T' := T308) (g' := (mkF m 133 #[.val (.int i0), .val (.int i1), .val (.int i2), .val (.int i3), .val (.int i4), .val (.int i5), .val (.int i6), .val (.int i7), .val (.ref o), .unset, .unset] [])) (fun _ k => st308.trans k) ?_
        refine Go.step (T' := T308) (g' := (mkF m 135 #[.val (.int i0), .val (.int i1), .val (.int i2), .val (.int i3), .val (.int i4), .val (.int i5), .val (.int i6), .val (.int i7), .val (.ref o), .unset, .unset] [(.int i7)])) (fun _ k => XS.iload X308.here hx rfl (hb hby at_133) rfl  k) ?_
        refine Go.step (T' := T308) (g' := (mkF m 147 #[.val (.int i0), .val (.int i1), .val (.int i2), .val (.int i3), .val (.int i4), .val (.int i5), .val (.int i6), .val (.int i7), .val (.ref o), .unset, .unset] [])) (fun _ k => XS.ifYes X308.here hx rfl (pc0 := 135) (pc' := 147) rfl (hb hby at_135) rfl ((if0 _ _).trans (teq hc307).1) (by decide) (by decide) k) ?_
        refine Go.step (T' := T308) (g' := (mkF m 148 #[.val (.int i0), .val (.int i1), .val (.int i2), .val (.int i3), .val (.int i4), .val (.int i5), .val (.int i6), .val (.int i7), .val (.ref o), .unset, .unset] [(.int i0)])) (fun _ k => XS.iloadN X308.here hx rfl (hb hby at_147) rfl  k) ?_
        refine Go.step (T' := T308) (g' := (mkF m 150 #[.val (.int i0), .val (.int i1), .val (.int i2), .val (.int i3), .val (.int i4), .val (.int i5), .val (.int i6), .val (.int i7), .val (.ref o), .val (.int i0), .unset] [])) (fun _ k => XS.istore X308.here hx rfl (hb hby at_148) rfl (l' := #[.val (.int i0), .val (.int i1), .val (.int i2), .val (.int i3), .val (.int i4), .val (.int i5), .val (.int i6), .val (.int i7), .val (.ref o), .val (.int i0), .unset]) rfl k) ?_
        refine Go.step (T' := T308) (g' := (mkF m 152 #[.val (.int i0), .val (.int i1), .val (.int i2), .val (.int i3), .val (.int i4), .val (.int i5), .val (.int i6), .val (.int i7), .val (.ref o), .val (.int i0), .unset] [(.int i7)])) (fun _ k => XS.iload X308.here hx rfl (hb hby at_150) rfl  k) ?_
        refine Go.step (T' := T308) (g' := (mkF m 164 #[.val (.int i0), .val (.int i1), .val (.int i2), .val (.int i3), .val (.int i4), .val (.int i5), .val (.int i6), .val (.int i7), .val (.ref o), .val (.int i0), .unset] [])) (fun _ k => XS.ifYes X308.here hx rfl (pc0 := 152) (pc' := 164) rfl (hb hby at_152) rfl ((if0 _ _).trans (teq hc307).1) (by decide) (by decide) k) ?_
        refine Go.step (T' := T308) (g' := (mkF m 165 #[.val (.int i0), .val (.int i1), .val (.int i2), .val (.int i3), .val (.int i4), .val (.int i5), .val (.int i6), .val (.int i7), .val (.ref o), .val (.int i0), .unset] [(.int i1)])) (fun _ k => XS.iloadN X308.here hx rfl (hb hby at_164) rfl  k) ?_
        refine Go.step (T' := T308) (g' := (mkF m 167 #[.val (.int i0), .val (.int i1), .val (.int i2), .val (.int i3), .val (.int i4), .val (.int i5), .val (.int i6), .val (.int i7), .val (.ref o), .val (.int i0), .val (.int i1)] [])) (fun _ k => XS.istore X308.here hx rfl (hb hby at_165) rfl (l' := #[.val (.int i0), .val (.int i1), .val (.int i2), .val (.int i3), .val (.int i4), .val (.int i5), .val (.int i6), .val (.int i7), .val (.ref o), .val (.int i0), .val (.int i1)]) rfl k) ?_
        refine Go.step (T' := T308) (g' := (mkF m 169 #[.val (.int i0), .val (.int i1), .val (.int i2), .val (.int i3), .val (.int i4), .val (.int i5), .val (.int i6), .val (.int i7), .val (.ref o), .val (.int i0), .val (.int i1)] [(.ref o)])) (fun _ k => XS.aload X308.here hx rfl (hb hby at_167) rfl rfl k) ?_
        obtain ⟨T326, X326, e326, st326⟩ := getS2 X308 hx hZ hown (host := "") (Or.inl (hw _ (List.mem_of_getElem? (i := 60) rfl))) Via.refl rfl F310 (g := (mkF m 169 #[.val (.int i0), .val (.int i1), .val (.int i2), .val (.int i3), .val (.int i4), .val (.int i5), .val (.int i6), .val (.int i7), .val (.ref o), .val (.int i0), .val (.int i1)] [(.ref o)])) rfl (hb hby at_169)
        refine Go.step (T' := T326) (g' := (mkF m 172 #[.val (.int i0), .val (.int i1), .val (.int i2), .val (.int i3), .val (.int i4), .val (.int i5), .val (.int i6), .val (.int i7), .val (.ref o), .val (.int i0), .val (.int i1)] [(.ref w0), (.ref o)])) st326 ?_
        obtain ⟨cq327, kq327, q327a, q327b, q327c⟩ := isOf hZ e326 F321
        obtain ⟨_, _, ⟨T327, L327, k327, n327⟩, -, X327, ⟨Lc327, hQ327, l327, y327, z327⟩, st327⟩ := X326.virtualBack hx (y := (⟨"com/example/tuples_under_lock/tuplesunderlock/Settings", "get", "(Lcom/example/tuples_under_lock/tuplesunderlock/Setting;)I"⟩ : MethodName)) (z := (⟨"com/example/tuples_under_lock/tuplesunderlock/Settings", "get", "(Lcom/example/tuples_under_lock/tuplesunderlock/Setting;)I"⟩ : MethodName)) hown (mvT hZ (hw _ (List.mem_of_getElem? (i := 90) rfl))) (mvT hZ (hw _ (List.mem_of_getElem? (i := 91) rfl))) (notFace_of_selects (args := #[]) (mvT hZ (hw _ (List.mem_of_getElem? (i := 93) rfl)))) (mvT hZ (hw _ (List.mem_of_getElem? (i := 93) rfl))) (mvT hZ (hw _ (List.mem_of_getElem? (i := 92) rfl))) (by decide) (backOf (W := 0) (Q := Qret (some (.int i0)) T308.heap n0) (own_get0 l Z a0 hw [] o w0 va kv i0 i1 T308.heap n0 Z308 F315 F317 R1308 Vv308) hZ (hw _ (List.mem_of_getElem? (i := 94) rfl)) (hw _ (List.mem_of_getElem? (i := 2) rfl)) (by decide) (by decide)) q327a q327c (g := (mkF m 172 #[.val (.int i0), .val (.int i1), .val (.int i2), .val (.int i3), .val (.int i4), .val (.int i5), .val (.int i6), .val (.int i7), .val (.ref o), .val (.int i0), .val (.int i1)] [(.ref w0), (.ref o)])) rfl (by rw [hml]; rfl) (Steps.refl _) (argsL := [(.ref w0)]) (rest := []) (lenOf own_pd5 rfl) rfl (by show 2 * 0 + _ ≤ _; exact Nat.le_of_eq rfl) (hb hby at_172) (fun _ _ => ⟨rfl, e326, (by dsimp only [Pt.cells, Pt.slots, room_1]; omega), (by dsimp only [Pt.cells, Pt.slots, room_1]; omega)⟩)
        dsimp only [Pt.U, Pt.locs, Pt.cells, Pt.slots] at X327 l327 y327 z327 st327 hQ327
        subst l327 y327 z327
        obtain ⟨rfl, N327q, eh327⟩ := hQ327
        have N327 := Fr.app N308 N327q
        refine Go.step (T' := T327) (g' := (mkF m 175 #[.val (.int i0), .val (.int i1), .val (.int i2), .val (.int i3), .val (.int i4), .val (.int i5), .val (.int i6), .val (.int i7), .val (.ref o), .val (.int i0), .val (.int i1)] [(.int i0)])) (fun _ k => st327.trans k) ?_
        refine Go.step (T' := T327) (g' := (mkF m 177 #[.val (.int i0), .val (.int i1), .val (.int i2), .val (.int i3), .val (.int i4), .val (.int i5), .val (.int i6), .val (.int i7), .val (.ref o), .val (.int i0), .val (.int i1)] [(.int i0), (.int i0)])) (fun _ k => XS.iload X327.here hx rfl (hb hby at_175) rfl  k) ?_
        refine Go.step (T' := T327) (g' := (mkF m 180 #[.val (.int i0), .val (.int i1), .val (.int i2), .val (.int i3), .val (.int i4), .val (.int i5), .val (.int i6), .val (.int i7), .val (.ref o), .val (.int i0), .val (.int i1)] [])) (fun _ k => XS.icmpNo X327.here hx rfl (hb hby at_177) rfl (teq (rfl : i0 = i0)).2 k) ?_
        refine Go.step (T' := T327) (g' := (mkF m 182 #[.val (.int i0), .val (.int i1), .val (.int i2), .val (.int i3), .val (.int i4), .val (.int i5), .val (.int i6), .val (.int i7), .val (.ref o), .val (.int i0), .val (.int i1)] [(.ref o)])) (fun _ k => XS.aload X327.here hx rfl (hb hby at_180) rfl rfl k) ?_
        obtain ⟨T328, X328, e328, st328⟩ := getS2 X327 hx hZ hown (host := "") (Or.inl (hw _ (List.mem_of_getElem? (i := 62) rfl))) Via.refl eh327 F311 (g := (mkF m 182 #[.val (.int i0), .val (.int i1), .val (.int i2), .val (.int i3), .val (.int i4), .val (.int i5), .val (.int i6), .val (.int i7), .val (.ref o), .val (.int i0), .val (.int i1)] [(.ref o)])) rfl (hb hby at_182)
        refine Go.step (T' := T328) (g' := (mkF m 185 #[.val (.int i0), .val (.int i1), .val (.int i2), .val (.int i3), .val (.int i4), .val (.int i5), .val (.int i6), .val (.int i7), .val (.ref o), .val (.int i0), .val (.int i1)] [(.ref w1), (.ref o)])) st328 ?_
        obtain ⟨cq329, kq329, q329a, q329b, q329c⟩ := isOf hZ e328 F321
        obtain ⟨_, _, ⟨T329, L329, k329, n329⟩, -, X329, ⟨Lc329, hQ329, l329, y329, z329⟩, st329⟩ := X328.virtualBack hx (y := (⟨"com/example/tuples_under_lock/tuplesunderlock/Settings", "get", "(Lcom/example/tuples_under_lock/tuplesunderlock/Setting;)I"⟩ : MethodName)) (z := (⟨"com/example/tuples_under_lock/tuplesunderlock/Settings", "get", "(Lcom/example/tuples_under_lock/tuplesunderlock/Setting;)I"⟩ : MethodName)) hown (mvT hZ (hw _ (List.mem_of_getElem? (i := 90) rfl))) (mvT hZ (hw _ (List.mem_of_getElem? (i := 91) rfl))) (notFace_of_selects (args := #[]) (mvT hZ (hw _ (List.mem_of_getElem? (i := 93) rfl)))) (mvT hZ (hw _ (List.mem_of_getElem? (i := 93) rfl))) (mvT hZ (hw _ (List.mem_of_getElem? (i := 92) rfl))) (by decide) (backOf (W := 0) (Q := Qret (some (.int i1)) T308.heap n0) (own_get1 l Z a0 hw [] o w1 va kv i0 i1 T308.heap n0 Z308 F316 F318 R1308 Vv308) hZ (hw _ (List.mem_of_getElem? (i := 94) rfl)) (hw _ (List.mem_of_getElem? (i := 2) rfl)) (by decide) (by decide)) q329a q329c (g := (mkF m 185 #[.val (.int i0), .val (.int i1), .val (.int i2), .val (.int i3), .val (.int i4), .val (.int i5), .val (.int i6), .val (.int i7), .val (.ref o), .val (.int i0), .val (.int i1)] [(.ref w1), (.ref o)])) rfl (by rw [hml]; rfl) (Steps.refl _) (argsL := [(.ref w1)]) (rest := []) (lenOf own_pd5 rfl) rfl (by show 2 * 0 + _ ≤ _; exact Nat.le_of_eq rfl) (hb hby at_185) (fun _ _ => ⟨rfl, e328, (by dsimp only [Pt.cells, Pt.slots, room_1]; omega), (by dsimp only [Pt.cells, Pt.slots, room_1]; omega)⟩)
        dsimp only [Pt.U, Pt.locs, Pt.cells, Pt.slots] at X329 l329 y329 z329 st329 hQ329
        subst l329 y329 z329
        obtain ⟨rfl, N329q, eh329⟩ := hQ329
        have N329 := Fr.app N327 N329q
        refine Go.step (T' := T329) (g' := (mkF m 188 #[.val (.int i0), .val (.int i1), .val (.int i2), .val (.int i3), .val (.int i4), .val (.int i5), .val (.int i6), .val (.int i7), .val (.ref o), .val (.int i0), .val (.int i1)] [(.int i1)])) (fun _ k => st329.trans k) ?_
        refine Go.step (T' := T329) (g' := (mkF m 190 #[.val (.int i0), .val (.int i1), .val (.int i2), .val (.int i3), .val (.int i4), .val (.int i5), .val (.int i6), .val (.int i7), .val (.ref o), .val (.int i0), .val (.int i1)] [(.int i1), (.int i1)])) (fun _ k => XS.iload X329.here hx rfl (hb hby at_188) rfl  k) ?_
        refine Go.step (T' := T329) (g' := (mkF m 193 #[.val (.int i0), .val (.int i1), .val (.int i2), .val (.int i3), .val (.int i4), .val (.int i5), .val (.int i6), .val (.int i7), .val (.ref o), .val (.int i0), .val (.int i1)] [])) (fun _ k => XS.icmpNo X329.here hx rfl (hb hby at_190) rfl (teq (rfl : i1 = i1)).2 k) ?_
        refine Go.step (T' := T329) (g' := (mkF m 194 #[.val (.int i0), .val (.int i1), .val (.int i2), .val (.int i3), .val (.int i4), .val (.int i5), .val (.int i6), .val (.int i7), .val (.ref o), .val (.int i0), .val (.int i1)] [(.int (1 : Int32))])) (fun _ k => XS.iconst X329.here hx rfl (hb hby at_193) k) ?_
        refine Go.step (T' := T329) (g' := (mkF m 198 #[.val (.int i0), .val (.int i1), .val (.int i2), .val (.int i3), .val (.int i4), .val (.int i5), .val (.int i6), .val (.int i7), .val (.ref o), .val (.int i0), .val (.int i1)] [(.int (1 : Int32))])) (fun _ k => XS.goto X329.here hx rfl (pc0 := 194) (pc' := 198) rfl (hb hby at_194) (by decide) (by decide) k) ?_
        exact Go.retN X329 hx (t := .boolean) hret hlk (by simp) (hb hby at_198) (⟨rfl, N329⟩) (by omega) (by omega)
      · skip
        refine Go.step (T' := T285) (g' := (mkF m 128 #[.val (.int i0), .val (.int i1), .val (.int i2), .val (.int i3), .val (.int i4), .val (.int i5), .val (.int i6), .val (.int i7), .val (.ref o), .unset, .unset] [(.ref o)])) (fun _ k => XS.aload X285.here hx rfl (hb hby at_126) rfl rfl k) ?_
        refine Go.step (T' := T285) (g' := (mkF m 130 #[.val (.int i0), .val (.int i1), .val (.int i2), .val (.int i3), .val (.int i4), .val (.int i5), .val (.int i6), .val (.int i7), .val (.ref o), .unset, .unset] [(.int i7), (.ref o)])) (fun _ k => XS.iload X285.here hx rfl (hb hby at_128) rfl  k) ?_
        obtain ⟨cq330, kq330, q330a, q330b, q330c⟩ := isOf hZ rfl F298
        obtain ⟨_, _, ⟨T330, L330, k330, n330⟩, -, X330, ⟨Lc330, hQ330, l330, y330, z330⟩, st330⟩ := X285.virtualBack hx (y := (⟨"com/example/tuples_under_lock/tuplesunderlock/Settings", "endBlock", "(Z)V"⟩ : MethodName)) (z := (⟨"com/example/tuples_under_lock/tuplesunderlock/Settings", "endBlock", "(Z)V"⟩ : MethodName)) hown (mvT hZ (hw _ (List.mem_of_getElem? (i := 81) rfl))) (mvT hZ (hw _ (List.mem_of_getElem? (i := 82) rfl))) (notFace_of_selects (args := #[]) (mvT hZ (hw _ (List.mem_of_getElem? (i := 84) rfl)))) (mvT hZ (hw _ (List.mem_of_getElem? (i := 84) rfl))) (mvT hZ (hw _ (List.mem_of_getElem? (i := 83) rfl))) (by decide) (backOf (W := 0) (Q := Qend Z o sa va kv (.int i2) (.int i1) T285.heap n0) (own_end1 l Z a0 hw [] o i7 sa va ba ks kv kb (.int i2) (.int i1) (.int i2) (.int i3) (.int i0) (.int i1) T285.heap n0 Z285 F289 F298 f22 F299 F300 F301 F302 F303 F306 U285b F305 f25 f26 f27 f29 f30 f28 f23 f24 hc307) hZ (hw _ (List.mem_of_getElem? (i := 85) rfl)) (hw _ (List.mem_of_getElem? (i := 2) rfl)) (by decide) (by decide)) q330a q330c (g := (mkF m 130 #[.val (.int i0), .val (.int i1), .val (.int i2), .val (.int i3), .val (.int i4), .val (.int i5), .val (.int i6), .val (.int i7), .val (.ref o), .unset, .unset] [(.int i7), (.ref o)])) rfl (by rw [hml]; rfl) (Steps.refl _) (argsL := [(.int i7)]) (rest := []) (lenOf own_pd4 rfl) rfl (by show 2 * 0 + _ ≤ _; exact Nat.le_of_eq rfl) (hb hby at_130) (fun _ _ => ⟨rfl, rfl, (by dsimp only [Pt.cells, Pt.slots, room_1]; omega), (by dsimp only [Pt.cells, Pt.slots, room_1]; omega)⟩)
        dsimp only [Pt.U, Pt.locs, Pt.cells, Pt.slots] at X330 l330 y330 z330 st330 hQ330
        subst l330 y330 z330
        obtain ⟨rfl, N330q, K330, R1330, Vv330⟩ := hQ330
        have N330 := Fr.app N285 N330q
        have Z330 : n0 ≤ T330.heap.size := Nat.le_trans Z285 K330.1
        have F331 := own_sta_keep F286 K330 (allS (own_plain F298) (allS (own_plain F302) (allS (own_plain F303) all0)))
        have F332 := own_sta_keep F287 K330 (allS (own_plain F298) (allS (own_plain F302) (allS (own_plain F303) all0)))
        have F333 := own_sta_keep F288 K330 (allS (own_plain F298) (allS (own_plain F302) (allS (own_plain F303) all0)))
        have F334 := own_sta_keep F289 K330 (allS (own_plain F298) (allS (own_plain F302) (allS (own_plain F303) all0)))
        have F335 := F290.keep K330
        have F336 := F291.keep K330 (ninS f39 (ninS f37 (ninS f38 nin0)))
        have F337 := F292.keep K330
        have F338 := F293.keep K330
        have F339 := F294.keep K330 (ninS f33 (ninS f31 (ninS f32 nin0)))
        have F340 := F295.keep K330 (ninS f36 (ninS f34 (ninS f35 nin0)))
        have F341 := F296.keep K330 (ninS f33 (ninS f31 (ninS f32 nin0)))
        have F342 := F297.keep K330 (ninS f36 (ninS f34 (ninS f35 nin0)))
        have F343 := F298.keep K330
        have F344 := F302.keep K330
        have F345 := F303.keep K330
        have F346 := F304.keep K330
        have F347 := F305.keep K330 (ninS (Ne.symm f28) (ninS f29 (ninS f30 nin0)))
        refine Go.step (T' := T330) (g' := (mkF m 133 #[.val (.int i0), .val (.int i1), .val (.int i2), .val (.int i3), .val (.int i4), .val (.int i5), .val (.int i6), .val (.int i7), .val (.ref o), .unset, .unset] [])) (fun _ k => st330.trans k) ?_
        refine Go.step (T' := T330) (g' := (mkF m 135 #[.val (.int i0), .val (.int i1), .val (.int i2), .val (.int i3), .val (.int i4), .val (.int i5), .val (.int i6), .val (.int i7), .val (.ref o), .unset, .unset] [(.int i7)])) (fun _ k => XS.iload X330.here hx rfl (hb hby at_133) rfl  k) ?_
        refine Go.step (T' := T330) (g' := (mkF m 138 #[.val (.int i0), .val (.int i1), .val (.int i2), .val (.int i3), .val (.int i4), .val (.int i5), .val (.int i6), .val (.int i7), .val (.ref o), .unset, .unset] [])) (fun _ k => XS.ifNo X330.here hx rfl (hb hby at_135) rfl ((if0 _ _).trans (feq hc307).1) k) ?_
        refine Go.step (T' := T330) (g' := (mkF m 140 #[.val (.int i0), .val (.int i1), .val (.int i2), .val (.int i3), .val (.int i4), .val (.int i5), .val (.int i6), .val (.int i7), .val (.ref o), .unset, .unset] [(.int i5)])) (fun _ k => XS.iload X330.here hx rfl (hb hby at_138) rfl  k) ?_
        refine Go.step (T' := T330) (g' := (mkF m 143 #[.val (.int i0), .val (.int i1), .val (.int i2), .val (.int i3), .val (.int i4), .val (.int i5), .val (.int i6), .val (.int i7), .val (.ref o), .unset, .unset] [])) (fun _ k => XS.ifNo X330.here hx rfl (hb hby at_140) rfl ((if0 _ _).trans (feq hc101).1) k) ?_
        refine Go.step (T' := T330) (g' := (mkF m 144 #[.val (.int i0), .val (.int i1), .val (.int i2), .val (.int i3), .val (.int i4), .val (.int i5), .val (.int i6), .val (.int i7), .val (.ref o), .unset, .unset] [(.int i2)])) (fun _ k => XS.iloadN X330.here hx rfl (hb hby at_143) rfl  k) ?_
        refine Go.step (T' := T330) (g' := (mkF m 148 #[.val (.int i0), .val (.int i1), .val (.int i2), .val (.int i3), .val (.int i4), .val (.int i5), .val (.int i6), .val (.int i7), .val (.ref o), .unset, .unset] [(.int i2)])) (fun _ k => XS.goto X330.here hx rfl (pc0 := 144) (pc' := 148) rfl (hb hby at_144) (by decide) (by decide) k) ?_
        refine Go.step (T' := T330) (g' := (mkF m 150 #[.val (.int i0), .val (.int i1), .val (.int i2), .val (.int i3), .val (.int i4), .val (.int i5), .val (.int i6), .val (.int i7), .val (.ref o), .val (.int i2), .unset] [])) (fun _ k => XS.istore X330.here hx rfl (hb hby at_148) rfl (l' := #[.val (.int i0), .val (.int i1), .val (.int i2), .val (.int i3), .val (.int i4), .val (.int i5), .val (.int i6), .val (.int i7), .val (.ref o), .val (.int i2), .unset]) rfl k) ?_
        refine Go.step (T' := T330) (g' := (mkF m 152 #[.val (.int i0), .val (.int i1), .val (.int i2), .val (.int i3), .val (.int i4), .val (.int i5), .val (.int i6), .val (.int i7), .val (.ref o), .val (.int i2), .unset] [(.int i7)])) (fun _ k => XS.iload X330.here hx rfl (hb hby at_150) rfl  k) ?_
        refine Go.step (T' := T330) (g' := (mkF m 155 #[.val (.int i0), .val (.int i1), .val (.int i2), .val (.int i3), .val (.int i4), .val (.int i5), .val (.int i6), .val (.int i7), .val (.ref o), .val (.int i2), .unset] [])) (fun _ k => XS.ifNo X330.here hx rfl (hb hby at_152) rfl ((if0 _ _).trans (feq hc307).1) k) ?_
        refine Go.step (T' := T330) (g' := (mkF m 157 #[.val (.int i0), .val (.int i1), .val (.int i2), .val (.int i3), .val (.int i4), .val (.int i5), .val (.int i6), .val (.int i7), .val (.ref o), .val (.int i2), .unset] [(.int i6)])) (fun _ k => XS.iload X330.here hx rfl (hb hby at_155) rfl  k) ?_
        refine Go.step (T' := T330) (g' := (mkF m 164 #[.val (.int i0), .val (.int i1), .val (.int i2), .val (.int i3), .val (.int i4), .val (.int i5), .val (.int i6), .val (.int i7), .val (.ref o), .val (.int i2), .unset] [])) (fun _ k => XS.ifYes X330.here hx rfl (pc0 := 157) (pc' := 164) rfl (hb hby at_157) rfl ((if0 _ _).trans (teq hc283).1) (by decide) (by decide) k) ?_
        refine Go.step (T' := T330) (g' := (mkF m 165 #[.val (.int i0), .val (.int i1), .val (.int i2), .val (.int i3), .val (.int i4), .val (.int i5), .val (.int i6), .val (.int i7), .val (.ref o), .val (.int i2), .unset] [(.int i1)])) (fun _ k => XS.iloadN X330.here hx rfl (hb hby at_164) rfl  k) ?_
        refine Go.step (T' := T330) (g' := (mkF m 167 #[.val (.int i0), .val (.int i1), .val (.int i2), .val (.int i3), .val (.int i4), .val (.int i5), .val (.int i6), .val (.int i7), .val (.ref o), .val (.int i2), .val (.int i1)] [])) (fun _ k => XS.istore X330.here hx rfl (hb hby at_165) rfl (l' := #[.val (.int i0), .val (.int i1), .val (.int i2), .val (.int i3), .val (.int i4), .val (.int i5), .val (.int i6), .val (.int i7), .val (.ref o), .val (.int i2), .val (.int i1)]) rfl k) ?_
        refine Go.step (T' := T330) (g' := (mkF m 169 #[.val (.int i0), .val (.int i1), .val (.int i2), .val (.int i3), .val (.int i4), .val (.int i5), .val (.int i6), .val (.int i7), .val (.ref o), .val (.int i2), .val (.int i1)] [(.ref o)])) (fun _ k => XS.aload X330.here hx rfl (hb hby at_167) rfl rfl k) ?_
        obtain ⟨T348, X348, e348, st348⟩ := getS2 X330 hx hZ hown (host := "") (Or.inl (hw _ (List.mem_of_getElem? (i := 60) rfl))) Via.refl rfl F332 (g := (mkF m 169 #[.val (.int i0), .val (.int i1), .val (.int i2), .val (.int i3), .val (.int i4), .val (.int i5), .val (.int i6), .val (.int i7), .val (.ref o), .val (.int i2), .val (.int i1)] [(.ref o)])) rfl (hb hby at_169)
        refine Go.step (T' := T348) (g' := (mkF m 172 #[.val (.int i0), .val (.int i1), .val (.int i2), .val (.int i3), .val (.int i4), .val (.int i5), .val (.int i6), .val (.int i7), .val (.ref o), .val (.int i2), .val (.int i1)] [(.ref w0), (.ref o)])) st348 ?_
        obtain ⟨cq349, kq349, q349a, q349b, q349c⟩ := isOf hZ e348 F343
        obtain ⟨_, _, ⟨T349, L349, k349, n349⟩, -, X349, ⟨Lc349, hQ349, l349, y349, z349⟩, st349⟩ := X348.virtualBack hx (y := (⟨"com/example/tuples_under_lock/tuplesunderlock/Settings", "get", "(Lcom/example/tuples_under_lock/tuplesunderlock/Setting;)I"⟩ : MethodName)) (z := (⟨"com/example/tuples_under_lock/tuplesunderlock/Settings", "get", "(Lcom/example/tuples_under_lock/tuplesunderlock/Setting;)I"⟩ : MethodName)) hown (mvT hZ (hw _ (List.mem_of_getElem? (i := 90) rfl))) (mvT hZ (hw _ (List.mem_of_getElem? (i := 91) rfl))) (notFace_of_selects (args := #[]) (mvT hZ (hw _ (List.mem_of_getElem? (i := 93) rfl)))) (mvT hZ (hw _ (List.mem_of_getElem? (i := 93) rfl))) (mvT hZ (hw _ (List.mem_of_getElem? (i := 92) rfl))) (by decide) (backOf (W := 0) (Q := Qret (some (.int i2)) T330.heap n0) (own_get0 l Z a0 hw [] o w0 va kv i2 i1 T330.heap n0 Z330 F337 F339 R1330 Vv330) hZ (hw _ (List.mem_of_getElem? (i := 94) rfl)) (hw _ (List.mem_of_getElem? (i := 2) rfl)) (by decide) (by decide)) q349a q349c (g := (mkF m 172 #[.val (.int i0), .val (.int i1), .val (.int i2), .val (.int i3), .val (.int i4), .val (.int i5), .val (.int i6), .val (.int i7), .val (.ref o), .val (.int i2), .val (.int i1)] [(.ref w0), (.ref o)])) rfl (by rw [hml]; rfl) (Steps.refl _) (argsL := [(.ref w0)]) (rest := []) (lenOf own_pd5 rfl) rfl (by show 2 * 0 + _ ≤ _; exact Nat.le_of_eq rfl) (hb hby at_172) (fun _ _ => ⟨rfl, e348, (by dsimp only [Pt.cells, Pt.slots, room_1]; omega), (by dsimp only [Pt.cells, Pt.slots, room_1]; omega)⟩)
        dsimp only [Pt.U, Pt.locs, Pt.cells, Pt.slots] at X349 l349 y349 z349 st349 hQ349
        subst l349 y349 z349
        obtain ⟨rfl, N349q, eh349⟩ := hQ349
        have N349 := Fr.app N330 N349q
        refine Go.step (T' := T349) (g' := (mkF m 175 #[.val (.int i0), .val (.int i1), .val (.int i2), .val (.int i3), .val (.int i4), .val (.int i5), .val (.int i6), .val (.int i7), .val (.ref o), .val (.int i2), .val (.int i1)] [(.int i2)])) (fun _ k => st349.trans k) ?_
        refine Go.step (T' := T349) (g' := (mkF m 177 #[.val (.int i0), .val (.int i1), .val (.int i2), .val (.int i3), .val (.int i4), .val (.int i5), .val (.int i6), .val (.int i7), .val (.ref o), .val (.int i2), .val (.int i1)] [(.int i2), (.int i2)])) (fun _ k => XS.iload X349.here hx rfl (hb hby at_175) rfl  k) ?_
        refine Go.step (T' := T349) (g' := (mkF m 180 #[.val (.int i0), .val (.int i1), .val (.int i2), .val (.int i3), .val (.int i4), .val (.int i5), .val (.int i6), .val (.int i7), .val (.ref o), .val (.int i2), .val (.int i1)] [])) (fun _ k => XS.icmpNo X349.here hx rfl (hb hby at_177) rfl (teq (rfl : i2 = i2)).2 k) ?_
        refine Go.step (T' := T349) (g' := (mkF m 182 #[.val (.int i0), .val (.int i1), .val (.int i2), .val (.int i3), .val (.int i4), .val (.int i5), .val (.int i6), .val (.int i7), .val (.ref o), .val (.int i2), .val (.int i1)] [(.ref o)])) (fun _ k => XS.aload X349.here hx rfl (hb hby at_180) rfl rfl k) ?_
        obtain ⟨T350, X350, e350, st350⟩ := getS2 X349 hx hZ hown (host := "") (Or.inl (hw _ (List.mem_of_getElem? (i := 62) rfl))) Via.refl eh349 F333 (g := (mkF m 182 #[.val (.int i0), .val (.int i1), .val (.int i2), .val (.int i3), .val (.int i4), .val (.int i5), .val (.int i6), .val (.int i7), .val (.ref o), .val (.int i2), .val (.int i1)] [(.ref o)])) rfl (hb hby at_182)
        refine Go.step (T' := T350) (g' := (mkF m 185 #[.val (.int i0), .val (.int i1), .val (.int i2), .val (.int i3), .val (.int i4), .val (.int i5), .val (.int i6), .val (.int i7), .val (.ref o), .val (.int i2), .val (.int i1)] [(.ref w1), (.ref o)])) st350 ?_
        obtain ⟨cq351, kq351, q351a, q351b, q351c⟩ := isOf hZ e350 F343
        obtain ⟨_, _, ⟨T351, L351, k351, n351⟩, -, X351, ⟨Lc351, hQ351, l351, y351, z351⟩, st351⟩ := X350.virtualBack hx (y := (⟨"com/example/tuples_under_lock/tuplesunderlock/Settings", "get", "(Lcom/example/tuples_under_lock/tuplesunderlock/Setting;)I"⟩ : MethodName)) (z := (⟨"com/example/tuples_under_lock/tuplesunderlock/Settings", "get", "(Lcom/example/tuples_under_lock/tuplesunderlock/Setting;)I"⟩ : MethodName)) hown (mvT hZ (hw _ (List.mem_of_getElem? (i := 90) rfl))) (mvT hZ (hw _ (List.mem_of_getElem? (i := 91) rfl))) (notFace_of_selects (args := #[]) (mvT hZ (hw _ (List.mem_of_getElem? (i := 93) rfl)))) (mvT hZ (hw _ (List.mem_of_getElem? (i := 93) rfl))) (mvT hZ (hw _ (List.mem_of_getElem? (i := 92) rfl))) (by decide) (backOf (W := 0) (Q := Qret (some (.int i1)) T330.heap n0) (own_get1 l Z a0 hw [] o w1 va kv i2 i1 T330.heap n0 Z330 F338 F340 R1330 Vv330) hZ (hw _ (List.mem_of_getElem? (i := 94) rfl)) (hw _ (List.mem_of_getElem? (i := 2) rfl)) (by decide) (by decide)) q351a q351c (g := (mkF m 185 #[.val (.int i0), .val (.int i1), .val (.int i2), .val (.int i3), .val (.int i4), .val (.int i5), .val (.int i6), .val (.int i7), .val (.ref o), .val (.int i2), .val (.int i1)] [(.ref w1), (.ref o)])) rfl (by rw [hml]; rfl) (Steps.refl _) (argsL := [(.ref w1)]) (rest := []) (lenOf own_pd5 rfl) rfl (by show 2 * 0 + _ ≤ _; exact Nat.le_of_eq rfl) (hb hby at_185) (fun _ _ => ⟨rfl, e350, (by dsimp only [Pt.cells, Pt.slots, room_1]; omega), (by dsimp only [Pt.cells, Pt.slots, room_1]; omega)⟩)
        dsimp only [Pt.U, Pt.locs, Pt.cells, Pt.slots] at X351 l351 y351 z351 st351 hQ351
        subst l351 y351 z351
        obtain ⟨rfl, N351q, eh351⟩ := hQ351
        have N351 := Fr.app N349 N351q
        refine Go.step (T' := T351) (g' := (mkF m 188 #[.val (.int i0), .val (.int i1), .val (.int i2), .val (.int i3), .val (.int i4), .val (.int i5), .val (.int i6), .val (.int i7), .val (.ref o), .val (.int i2), .val (.int i1)] [(.int i1)])) (fun _ k => st351.trans k) ?_
        refine Go.step (T' := T351) (g' := (mkF m 190 #[.val (.int i0), .val (.int i1), .val (.int i2), .val (.int i3), .val (.int i4), .val (.int i5), .val (.int i6), .val (.int i7), .val (.ref o), .val (.int i2), .val (.int i1)] [(.int i1), (.int i1)])) (fun _ k => XS.iload X351.here hx rfl (hb hby at_188) rfl  k) ?_
        refine Go.step (T' := T351) (g' := (mkF m 193 #[.val (.int i0), .val (.int i1), .val (.int i2), .val (.int i3), .val (.int i4), .val (.int i5), .val (.int i6), .val (.int i7), .val (.ref o), .val (.int i2), .val (.int i1)] [])) (fun _ k => XS.icmpNo X351.here hx rfl (hb hby at_190) rfl (teq (rfl : i1 = i1)).2 k) ?_
        refine Go.step (T' := T351) (g' := (mkF m 194 #[.val (.int i0), .val (.int i1), .val (.int i2), .val (.int i3), .val (.int i4), .val (.int i5), .val (.int i6), .val (.int i7), .val (.ref o), .val (.int i2), .val (.int i1)] [(.int (1 : Int32))])) (fun _ k => XS.iconst X351.here hx rfl (hb hby at_193) k) ?_
        refine Go.step (T' := T351) (g' := (mkF m 198 #[.val (.int i0), .val (.int i1), .val (.int i2), .val (.int i3), .val (.int i4), .val (.int i5), .val (.int i6), .val (.int i7), .val (.ref o), .val (.int i2), .val (.int i1)] [(.int (1 : Int32))])) (fun _ k => XS.goto X351.here hx rfl (pc0 := 194) (pc' := 198) rfl (hb hby at_194) (by decide) (by decide) k) ?_
        exact Go.retN X351 hx (t := .boolean) hret hlk (by simp) (hb hby at_198) (⟨rfl, N351⟩) (by omega) (by omega)
    · skip
      refine Go.step (T' := T262) (g' := (mkF m 105 #[.val (.int i0), .val (.int i1), .val (.int i2), .val (.int i3), .val (.int i4), .val (.int i5), .val (.int i6), .val (.int i7), .val (.ref o), .unset, .unset] [])) (fun _ k => XS.ifNo X262.here hx rfl (hb hby at_102) rfl ((if0 _ _).trans (feq hc283).1) k) ?_
      refine Go.step (T' := T262) (g' := (mkF m 107 #[.val (.int i0), .val (.int i1), .val (.int i2), .val (.int i3), .val (.int i4), .val (.int i5), .val (.int i6), .val (.int i7), .val (.ref o), .unset, .unset] [(.ref o)])) (fun _ k => XS.aload X262.here hx rfl (hb hby at_105) rfl rfl k) ?_
      obtain ⟨T352, X352, e352, st352⟩ := getS2 X262 hx hZ hown (host := "") (Or.inl (hw _ (List.mem_of_getElem? (i := 62) rfl))) Via.refl rfl F265 (g := (mkF m 107 #[.val (.int i0), .val (.int i1), .val (.int i2), .val (.int i3), .val (.int i4), .val (.int i5), .val (.int i6), .val (.int i7), .val (.ref o), .unset, .unset] [(.ref o)])) rfl (hb hby at_107)
      refine Go.step (T' := T352) (g' := (mkF m 110 #[.val (.int i0), .val (.int i1), .val (.int i2), .val (.int i3), .val (.int i4), .val (.int i5), .val (.int i6), .val (.int i7), .val (.ref o), .unset, .unset] [(.ref w1), (.ref o)])) st352 ?_
      refine Go.step (T' := T352) (g' := (mkF m 111 #[.val (.int i0), .val (.int i1), .val (.int i2), .val (.int i3), .val (.int i4), .val (.int i5), .val (.int i6), .val (.int i7), .val (.ref o), .unset, .unset] [(.int i3), (.ref w1), (.ref o)])) (fun _ k => XS.iloadN X352.here hx rfl (hb hby at_110) rfl  k) ?_
      obtain ⟨cq353, kq353, q353a, q353b, q353c⟩ := isOf hZ e352 F275
      obtain ⟨_, _, ⟨T353, L353, k353, n353⟩, -, X353, ⟨Lc353, hQ353, l353, y353, z353⟩, st353⟩ := X352.virtualBack hx (y := (⟨"com/example/tuples_under_lock/tuplesunderlock/Settings", "set", "(Lcom/example/tuples_under_lock/tuplesunderlock/Setting;I)V"⟩ : MethodName)) (z := (⟨"com/example/tuples_under_lock/tuplesunderlock/Settings", "set", "(Lcom/example/tuples_under_lock/tuplesunderlock/Setting;I)V"⟩ : MethodName)) hown (mvT hZ (hw _ (List.mem_of_getElem? (i := 61) rfl))) (mvT hZ (hw _ (List.mem_of_getElem? (i := 47) rfl))) (notFace_of_selects (args := #[]) (mvT hZ (hw _ (List.mem_of_getElem? (i := 49) rfl)))) (mvT hZ (hw _ (List.mem_of_getElem? (i := 49) rfl))) (mvT hZ (hw _ (List.mem_of_getElem? (i := 48) rfl))) (by decide) (backOf (W := 0) (Q := Qset Z sa va ks kv [(.int i2), (.int i3)] [(.int i2), (.int i3)] T262.heap n0) (own_set1 l Z a0 hw [] o w1 i3 sa va ks kv (.int i2) (.int i1) (.int i2) (.int i1) T262.heap n0 Z262 F275 F270 F272 F276 F277 F279 F280 U262a U262b f25 f26 f27 f34 f35 f23 f24) hZ (hw _ (List.mem_of_getElem? (i := 50) rfl)) (hw _ (List.mem_of_getElem? (i := 2) rfl)) (by decide) (by decide)) q353a q353c (g := (mkF m 111 #[.val (.int i0), .val (.int i1), .val (.int i2), .val (.int i3), .val (.int i4), .val (.int i5), .val (.int i6), .val (.int i7), .val (.ref o), .unset, .unset] [(.int i3), (.ref w1), (.ref o)])) rfl (by rw [hml]; rfl) (Steps.refl _) (argsL := [(.ref w1), (.int i3)]) (rest := []) (lenOf own_pd2 rfl) rfl (by show 2 * 0 + _ ≤ _; exact Nat.le_of_eq rfl) (hb hby at_111) (fun _ _ => ⟨rfl, e352, (by dsimp only [Pt.cells, Pt.slots, room_1]; omega), (by dsimp only [Pt.cells, Pt.slots, room_1]; omega)⟩)
      dsimp only [Pt.U, Pt.locs, Pt.cells, Pt.slots] at X353 l353 y353 z353 st353 hQ353
      subst l353 y353 z353
      obtain ⟨rfl, N353q, K353, U353a, U353b⟩ := hQ353
      have N353 := Fr.app N262 N353q
      have Z353 : n0 ≤ T353.heap.size := Nat.le_trans Z262 K353.1
      have F354 := own_sta_keep F263 K353 (allS (own_plain F279) (allS (own_plain F280) all0))
      have F355 := own_sta_keep F264 K353 (allS (own_plain F279) (allS (own_plain F280) all0))
      have F356 := own_sta_keep F265 K353 (allS (own_plain F279) (allS (own_plain F280) all0))
      have F357 := own_sta_keep F266 K353 (allS (own_plain F279) (allS (own_plain F280) all0))
      have F358 := F267.keep K353
      have F359 := F268.keep K353 (ninS f37 (ninS f38 nin0))
      have F360 := F269.keep K353
      have F361 := F270.keep K353
      have F362 := F271.keep K353 (ninS f31 (ninS f32 nin0))
      have F363 := F272.keep K353 (ninS f34 (ninS f35 nin0))
      have F364 := F273.keep K353 (ninS f31 (ninS f32 nin0))
      have F365 := F274.keep K353 (ninS f34 (ninS f35 nin0))
      have F366 := F275.keep K353
      have F367 := F276.keep K353 (ninS f26 (ninS f27 nin0))
      have F368 := F277.keep K353 (ninS f26 (ninS f27 nin0))
      have F369 := F278.keep K353 (ninS f26 (ninS f27 nin0))
      have F370 := F279.keep K353
      have F371 := F280.keep K353
      have F372 := F281.keep K353
      have F373 := F282.keep K353 (ninS f29 (ninS f30 nin0))
      refine Go.step (T' := T353) (g' := (mkF m 114 #[.val (.int i0), .val (.int i1), .val (.int i2), .val (.int i3), .val (.int i4), .val (.int i5), .val (.int i6), .val (.int i7), .val (.ref o), .unset, .unset] [])) (fun _ k => st353.trans k) ?_
      refine Go.step (T' := T353) (g' := (mkF m 126 #[.val (.int i0), .val (.int i1), .val (.int i2), .val (.int i3), .val (.int i4), .val (.int i5), .val (.int i6), .val (.int i7), .val (.ref o), .unset, .unset] [])) (fun _ k => XS.goto X353.here hx rfl (pc0 := 114) (pc' := 126) rfl (hb hby at_114) (by decide) (by decide) k) ?_
      by_cases hc374 : i7 = (0 : Int32)
      · skip
        refine Go.step (T' := T353) (g' := (mkF m 128 #[.val (.int i0), .val (.int i1), .val (.int i2), .val (.int i3), .val (.int i4), .val (.int i5), .val (.int i6), .val (.int i7), .val (.ref o), .unset, .unset] [(.ref o)])) (fun _ k => XS.aload X353.here hx rfl (hb hby at_126) rfl rfl k) ?_
        refine Go.step (T' := T353) (g' := (mkF m 130 #[.val (.int i0), .val (.int i1), .val (.int i2), .val (.int i3), .val (.int i4), .val (.int i5), .val (.int i6), .val (.int i7), .val (.ref o), .unset, .unset] [(.int i7), (.ref o)])) (fun _ k => XS.iload X353.here hx rfl (hb hby at_128) rfl  k) ?_
        obtain ⟨cq375, kq375, q375a, q375b, q375c⟩ := isOf hZ rfl F366
        obtain ⟨_, _, ⟨T375, L375, k375, n375⟩, -, X375, ⟨Lc375, hQ375, l375, y375, z375⟩, st375⟩ := X353.virtualBack hx (y := (⟨"com/example/tuples_under_lock/tuplesunderlock/Settings", "endBlock", "(Z)V"⟩ : MethodName)) (z := (⟨"com/example/tuples_under_lock/tuplesunderlock/Settings", "endBlock", "(Z)V"⟩ : MethodName)) hown (mvT hZ (hw _ (List.mem_of_getElem? (i := 81) rfl))) (mvT hZ (hw _ (List.mem_of_getElem? (i := 82) rfl))) (notFace_of_selects (args := #[]) (mvT hZ (hw _ (List.mem_of_getElem? (i := 84) rfl)))) (mvT hZ (hw _ (List.mem_of_getElem? (i := 84) rfl))) (mvT hZ (hw _ (List.mem_of_getElem? (i := 83) rfl))) (by decide) (backOf (W := 0) (Q := Qend Z o sa va kv (.int i0) (.int i1) T353.heap n0) (own_end0 l Z a0 hw [] o i7 sa va ba ks kv kb (.int i2) (.int i3) (.int i2) (.int i3) (.int i0) (.int i1) T353.heap n0 Z353 F357 F366 f22 F367 F368 F369 F370 F371 U353a U353b F373 f25 f26 f27 f29 f30 f28 f23 f24 hc374) hZ (hw _ (List.mem_of_getElem? (i := 85) rfl)) (hw _ (List.mem_of_getElem? (i := 2) rfl)) (by decide) (by decide)) q375a q375c (g := (mkF m 130 #[.val (.int i0), .val (.int i1), .val (.int i2), .val (.int i3), .val (.int i4), .val (.int i5), .val (.int i6), .val (.int i7), .val (.ref o), .unset, .unset] [(.int i7), (.ref o)])) rfl (by rw [hml]; rfl) (Steps.refl _) (argsL := [(.int i7)]) (rest := []) (lenOf own_pd4 rfl) rfl (by show 2 * 0 + _ ≤ _; exact Nat.le_of_eq rfl) (hb hby at_130) (fun _ _ => ⟨rfl, rfl, (by dsimp only [Pt.cells, Pt.slots, room_1]; omega), (by dsimp only [Pt.cells, Pt.slots, room_1]; omega)⟩)
        dsimp only [Pt.U, Pt.locs, Pt.cells, Pt.slots] at X375 l375 y375 z375 st375 hQ375
        subst l375 y375 z375
        obtain ⟨rfl, N375q, K375, R1375, Vv375⟩ := hQ375
        have N375 := Fr.app N353 N375q
        have Z375 : n0 ≤ T375.heap.size := Nat.le_trans Z353 K375.1
        have F376 := own_sta_keep F354 K375 (allS (own_plain F366) (allS (own_plain F370) (allS (own_plain F371) all0)))
        have F377 := own_sta_keep F355 K375 (allS (own_plain F366) (allS (own_plain F370) (allS (own_plain F371) all0)))
        have F378 := own_sta_keep F356 K375 (allS (own_plain F366) (allS (own_plain F370) (allS (own_plain F371) all0)))
        have F379 := own_sta_keep F357 K375 (allS (own_plain F366) (allS (own_plain F370) (allS (own_plain F371) all0)))
        have F380 := F358.keep K375
        have F381 := F359.keep K375 (ninS f39 (ninS f37 (ninS f38 nin0)))
        have F382 := F360.keep K375
        have F383 := F361.keep K375
        have F384 := F362.keep K375 (ninS f33 (ninS f31 (ninS f32 nin0)))
        have F385 := F363.keep K375 (ninS f36 (ninS f34 (ninS f35 nin0)))
        have F386 := F364.keep K375 (ninS f33 (ninS f31 (ninS f32 nin0)))
        have F387 := F365.keep K375 (ninS f36 (ninS f34 (ninS f35 nin0)))
        have F388 := F366.keep K375
        have F389 := F370.keep K375
        have F390 := F371.keep K375
        have F391 := F372.keep K375
        have F392 := F373.keep K375 (ninS (Ne.symm f28) (ninS f29 (ninS f30 nin0)))
        refine Go.step (T' := T375) (g' := (mkF m 133 #[.val (.int i0), .val (.int i1), .val (.int i2), .val (.int i3), .val (.int i4), .val (.int i5), .val (.int i6), .val (.int i7), .val (.ref o), .unset, .unset] [])) (fun _ k => st375.trans k) ?_
        refine Go.step (T' := T375) (g' := (mkF m 135 #[.val (.int i0), .val (.int i1), .val (.int i2), .val (.int i3), .val (.int i4), .val (.int i5), .val (.int i6), .val (.int i7), .val (.ref o), .unset, .unset] [(.int i7)])) (fun _ k => XS.iload X375.here hx rfl (hb hby at_133) rfl  k) ?_
        refine Go.step (T' := T375) (g' := (mkF m 147 #[.val (.int i0), .val (.int i1), .val (.int i2), .val (.int i3), .val (.int i4), .val (.int i5), .val (.int i6), .val (.int i7), .val (.ref o), .unset, .unset] [])) (fun _ k => XS.ifYes X375.here hx rfl (pc0 := 135) (pc' := 147) rfl (hb hby at_135) rfl ((if0 _ _).trans (teq hc374).1) (by decide) (by decide) k) ?_
        refine Go.step (T' := T375) (g' := (mkF m 148 #[.val (.int i0), .val (.int i1), .val (.int i2), .val (.int i3), .val (.int i4), .val (.int i5), .val (.int i6), .val (.int i7), .val (.ref o), .unset, .unset] [(.int i0)])) (fun _ k => XS.iloadN X375.here hx rfl (hb hby at_147) rfl  k) ?_
        refine Go.step (T' := T375) (g' := (mkF m 150 #[.val (.int i0), .val (.int i1), .val (.int i2), .val (.int i3), .val (.int i4), .val (.int i5), .val (.int i6), .val (.int i7), .val (.ref o), .val (.int i0), .unset] [])) (fun _ k => XS.istore X375.here hx rfl (hb hby at_148) rfl (l' := #[.val (.int i0), .val (.int i1), .val (.int i2), .val (.int i3), .val (.int i4), .val (.int i5), .val (.int i6), .val (.int i7), .val (.ref o), .val (.int i0), .unset]) rfl k) ?_
        refine Go.step (T' := T375) (g' := (mkF m 152 #[.val (.int i0), .val (.int i1), .val (.int i2), .val (.int i3), .val (.int i4), .val (.int i5), .val (.int i6), .val (.int i7), .val (.ref o), .val (.int i0), .unset] [(.int i7)])) (fun _ k => XS.iload X375.here hx rfl (hb hby at_150) rfl  k) ?_
        refine Go.step (T' := T375) (g' := (mkF m 164 #[.val (.int i0), .val (.int i1), .val (.int i2), .val (.int i3), .val (.int i4), .val (.int i5), .val (.int i6), .val (.int i7), .val (.ref o), .val (.int i0), .unset] [])) (fun _ k => XS.ifYes X375.here hx rfl (pc0 := 152) (pc' := 164) rfl (hb hby at_152) rfl ((if0 _ _).trans (teq hc374).1) (by decide) (by decide) k) ?_
        refine Go.step (T' := T375) (g' := (mkF m 165 #[.val (.int i0), .val (.int i1), .val (.int i2), .val (.int i3), .val (.int i4), .val (.int i5), .val (.int i6), .val (.int i7), .val (.ref o), .val (.int i0), .unset] [(.int i1)])) (fun _ k => XS.iloadN X375.here hx rfl (hb hby at_164) rfl  k) ?_
        refine Go.step (T' := T375) (g' := (mkF m 167 #[.val (.int i0), .val (.int i1), .val (.int i2), .val (.int i3), .val (.int i4), .val (.int i5), .val (.int i6), .val (.int i7), .val (.ref o), .val (.int i0), .val (.int i1)] [])) (fun _ k => XS.istore X375.here hx rfl (hb hby at_165) rfl (l' := #[.val (.int i0), .val (.int i1), .val (.int i2), .val (.int i3), .val (.int i4), .val (.int i5), .val (.int i6), .val (.int i7), .val (.ref o), .val (.int i0), .val (.int i1)]) rfl k) ?_
        refine Go.step (T' := T375) (g' := (mkF m 169 #[.val (.int i0), .val (.int i1), .val (.int i2), .val (.int i3), .val (.int i4), .val (.int i5), .val (.int i6), .val (.int i7), .val (.ref o), .val (.int i0), .val (.int i1)] [(.ref o)])) (fun _ k => XS.aload X375.here hx rfl (hb hby at_167) rfl rfl k) ?_
        obtain ⟨T393, X393, e393, st393⟩ := getS2 X375 hx hZ hown (host := "") (Or.inl (hw _ (List.mem_of_getElem? (i := 60) rfl))) Via.refl rfl F377 (g := (mkF m 169 #[.val (.int i0), .val (.int i1), .val (.int i2), .val (.int i3), .val (.int i4), .val (.int i5), .val (.int i6), .val (.int i7), .val (.ref o), .val (.int i0), .val (.int i1)] [(.ref o)])) rfl (hb hby at_169)
        refine Go.step (T' := T393) (g' := (mkF m 172 #[.val (.int i0), .val (.int i1), .val (.int i2), .val (.int i3), .val (.int i4), .val (.int i5), .val (.int i6), .val (.int i7), .val (.ref o), .val (.int i0), .val (.int i1)] [(.ref w0), (.ref o)])) st393 ?_
        obtain ⟨cq394, kq394, q394a, q394b, q394c⟩ := isOf hZ e393 F388
        obtain ⟨_, _, ⟨T394, L394, k394, n394⟩, -, X394, ⟨Lc394, hQ394, l394, y394, z394⟩, st394⟩ := X393.virtualBack hx (y := (⟨"com/example/tuples_under_lock/tuplesunderlock/Settings", "get", "(Lcom/example/tuples_under_lock/tuplesunderlock/Setting;)I"⟩ : MethodName)) (z := (⟨"com/example/tuples_under_lock/tuplesunderlock/Settings", "get", "(Lcom/example/tuples_under_lock/tuplesunderlock/Setting;)I"⟩ : MethodName)) hown (mvT hZ (hw _ (List.mem_of_getElem? (i := 90) rfl))) (mvT hZ (hw _ (List.mem_of_getElem? (i := 91) rfl))) (notFace_of_selects (args := #[]) (mvT hZ (hw _ (List.mem_of_getElem? (i := 93) rfl)))) (mvT hZ (hw _ (List.mem_of_getElem? (i := 93) rfl))) (mvT hZ (hw _ (List.mem_of_getElem? (i := 92) rfl))) (by decide) (backOf (W := 0) (Q := Qret (some (.int i0)) T375.heap n0) (own_get0 l Z a0 hw [] o w0 va kv i0 i1 T375.heap n0 Z375 F382 F384 R1375 Vv375) hZ (hw _ (List.mem_of_getElem? (i := 94) rfl)) (hw _ (List.mem_of_getElem? (i := 2) rfl)) (by decide) (by decide)) q394a q394c (g := (mkF m 172 #[.val (.int i0), .val (.int i1), .val (.int i2), .val (.int i3), .val (.int i4), .val (.int i5), .val (.int i6), .val (.int i7), .val (.ref o), .val (.int i0), .val (.int i1)] [(.ref w0), (.ref o)])) rfl (by rw [hml]; rfl) (Steps.refl _) (argsL := [(.ref w0)]) (rest := []) (lenOf own_pd5 rfl) rfl (by show 2 * 0 + _ ≤ _; exact Nat.le_of_eq rfl) (hb hby at_172) (fun _ _ => ⟨rfl, e393, (by dsimp only [Pt.cells, Pt.slots, room_1]; omega), (by dsimp only [Pt.cells, Pt.slots, room_1]; omega)⟩)
        dsimp only [Pt.U, Pt.locs, Pt.cells, Pt.slots] at X394 l394 y394 z394 st394 hQ394
        subst l394 y394 z394
        obtain ⟨rfl, N394q, eh394⟩ := hQ394
        have N394 := Fr.app N375 N394q
        refine Go.step (T' := T394) (g' := (mkF m 175 #[.val (.int i0), .val (.int i1), .val (.int i2), .val (.int i3), .val (.int i4), .val (.int i5), .val (.int i6), .val (.int i7), .val (.ref o), .val (.int i0), .val (.int i1)] [(.int i0)])) (fun _ k => st394.trans k) ?_
        refine Go.step (T' := T394) (g' := (mkF m 177 #[.val (.int i0), .val (.int i1), .val (.int i2), .val (.int i3), .val (.int i4), .val (.int i5), .val (.int i6), .val (.int i7), .val (.ref o), .val (.int i0), .val (.int i1)] [(.int i0), (.int i0)])) (fun _ k => XS.iload X394.here hx rfl (hb hby at_175) rfl  k) ?_
        refine Go.step (T' := T394) (g' := (mkF m 180 #[.val (.int i0), .val (.int i1), .val (.int i2), .val (.int i3), .val (.int i4), .val (.int i5), .val (.int i6), .val (.int i7), .val (.ref o), .val (.int i0), .val (.int i1)] [])) (fun _ k => XS.icmpNo X394.here hx rfl (hb hby at_177) rfl (teq (rfl : i0 = i0)).2 k) ?_
        refine Go.step (T' := T394) (g' := (mkF m 182 #[.val (.int i0), .val (.int i1), .val (.int i2), .val (.int i3), .val (.int i4), .val (.int i5), .val (.int i6), .val (.int i7), .val (.ref o), .val (.int i0), .val (.int i1)] [(.ref o)])) (fun _ k => XS.aload X394.here hx rfl (hb hby at_180) rfl rfl k) ?_
        obtain ⟨T395, X395, e395, st395⟩ := getS2 X394 hx hZ hown (host := "") (Or.inl (hw _ (List.mem_of_getElem? (i := 62) rfl))) Via.refl eh394 F378 (g := (mkF m 182 #[.val (.int i0), .val (.int i1), .val (.int i2), .val (.int i3), .val (.int i4), .val (.int i5), .val (.int i6), .val (.int i7), .val (.ref o), .val (.int i0), .val (.int i1)] [(.ref o)])) rfl (hb hby at_182)
        refine Go.step (T' := T395) (g' := (mkF m 185 #[.val (.int i0), .val (.int i1), .val (.int i2), .val (.int i3), .val (.int i4), .val (.int i5), .val (.int i6), .val (.int i7), .val (.ref o), .val (.int i0), .val (.int i1)] [(.ref w1), (.ref o)])) st395 ?_
        obtain ⟨cq396, kq396, q396a, q396b, q396c⟩ := isOf hZ e395 F388
        obtain ⟨_, _, ⟨T396, L396, k396, n396⟩, -, X396, ⟨Lc396, hQ396, l396, y396, z396⟩, st396⟩ := X395.virtualBack hx (y := (⟨"com/example/tuples_under_lock/tuplesunderlock/Settings", "get", "(Lcom/example/tuples_under_lock/tuplesunderlock/Setting;)I"⟩ : MethodName)) (z := (⟨"com/example/tuples_under_lock/tuplesunderlock/Settings", "get", "(Lcom/example/tuples_under_lock/tuplesunderlock/Setting;)I"⟩ : MethodName)) hown (mvT hZ (hw _ (List.mem_of_getElem? (i := 90) rfl))) (mvT hZ (hw _ (List.mem_of_getElem? (i := 91) rfl))) (notFace_of_selects (args := #[]) (mvT hZ (hw _ (List.mem_of_getElem? (i := 93) rfl)))) (mvT hZ (hw _ (List.mem_of_getElem? (i := 93) rfl))) (mvT hZ (hw _ (List.mem_of_getElem? (i := 92) rfl))) (by decide) (backOf (W := 0) (Q := Qret (some (.int i1)) T375.heap n0) (own_get1 l Z a0 hw [] o w1 va kv i0 i1 T375.heap n0 Z375 F383 F385 R1375 Vv375) hZ (hw _ (List.mem_of_getElem? (i := 94) rfl)) (hw _ (List.mem_of_getElem? (i := 2) rfl)) (by decide) (by decide)) q396a q396c (g := (mkF m 185 #[.val (.int i0), .val (.int i1), .val (.int i2), .val (.int i3), .val (.int i4), .val (.int i5), .val (.int i6), .val (.int i7), .val (.ref o), .val (.int i0), .val (.int i1)] [(.ref w1), (.ref o)])) rfl (by rw [hml]; rfl) (Steps.refl _) (argsL := [(.ref w1)]) (rest := []) (lenOf own_pd5 rfl) rfl (by show 2 * 0 + _ ≤ _; exact Nat.le_of_eq rfl) (hb hby at_185) (fun _ _ => ⟨rfl, e395, (by dsimp only [Pt.cells, Pt.slots, room_1]; omega), (by dsimp only [Pt.cells, Pt.slots, room_1]; omega)⟩)
        dsimp only [Pt.U, Pt.locs, Pt.cells, Pt.slots] at X396 l396 y396 z396 st396 hQ396
        subst l396 y396 z396
        obtain ⟨rfl, N396q, eh396⟩ := hQ396
        have N396 := Fr.app N394 N396q
        refine Go.step (T' := T396) (g' := (mkF m 188 #[.val (.int i0), .val (.int i1), .val (.int i2), .val (.int i3), .val (.int i4), .val (.int i5), .val (.int i6), .val (.int i7), .val (.ref o), .val (.int i0), .val (.int i1)] [(.int i1)])) (fun _ k => st396.trans k) ?_
        refine Go.step (T' := T396) (g' := (mkF m 190 #[.val (.int i0), .val (.int i1), .val (.int i2), .val (.int i3), .val (.int i4), .val (.int i5), .val (.int i6), .val (.int i7), .val (.ref o), .val (.int i0), .val (.int i1)] [(.int i1), (.int i1)])) (fun _ k => XS.iload X396.here hx rfl (hb hby at_188) rfl  k) ?_
        refine Go.step (T' := T396) (g' := (mkF m 193 #[.val (.int i0), .val (.int i1), .val (.int i2), .val (.int i3), .val (.int i4), .val (.int i5), .val (.int i6), .val (.int i7), .val (.ref o), .val (.int i0), .val (.int i1)] [])) (fun _ k => XS.icmpNo X396.here hx rfl (hb hby at_190) rfl (teq (rfl : i1 = i1)).2 k) ?_
        refine Go.step (T' := T396) (g' := (mkF m 194 #[.val (.int i0), .val (.int i1), .val (.int i2), .val (.int i3), .val (.int i4), .val (.int i5), .val (.int i6), .val (.int i7), .val (.ref o), .val (.int i0), .val (.int i1)] [(.int (1 : Int32))])) (fun _ k => XS.iconst X396.here hx rfl (hb hby at_193) k) ?_
        refine Go.step (T' := T396) (g' := (mkF m 198 #[.val (.int i0), .val (.int i1), .val (.int i2), .val (.int i3), .val (.int i4), .val (.int i5), .val (.int i6), .val (.int i7), .val (.ref o), .val (.int i0), .val (.int i1)] [(.int (1 : Int32))])) (fun _ k => XS.goto X396.here hx rfl (pc0 := 194) (pc' := 198) rfl (hb hby at_194) (by decide) (by decide) k) ?_
        exact Go.retN X396 hx (t := .boolean) hret hlk (by simp) (hb hby at_198) (⟨rfl, N396⟩) (by omega) (by omega)
      · skip
        refine Go.step (T' := T353) (g' := (mkF m 128 #[.val (.int i0), .val (.int i1), .val (.int i2), .val (.int i3), .val (.int i4), .val (.int i5), .val (.int i6), .val (.int i7), .val (.ref o), .unset, .unset] [(.ref o)])) (fun _ k => XS.aload X353.here hx rfl (hb hby at_126) rfl rfl k) ?_
        refine Go.step (T' := T353) (g' := (mkF m 130 #[.val (.int i0), .val (.int i1), .val (.int i2), .val (.int i3), .val (.int i4), .val (.int i5), .val (.int i6), .val (.int i7), .val (.ref o), .unset, .unset] [(.int i7), (.ref o)])) (fun _ k => XS.iload X353.here hx rfl (hb hby at_128) rfl  k) ?_
        obtain ⟨cq397, kq397, q397a, q397b, q397c⟩ := isOf hZ rfl F366
        obtain ⟨_, _, ⟨T397, L397, k397, n397⟩, -, X397, ⟨Lc397, hQ397, l397, y397, z397⟩, st397⟩ := X353.virtualBack hx (y := (⟨"com/example/tuples_under_lock/tuplesunderlock/Settings", "endBlock", "(Z)V"⟩ : MethodName)) (z := (⟨"com/example/tuples_under_lock/tuplesunderlock/Settings", "endBlock", "(Z)V"⟩ : MethodName)) hown (mvT hZ (hw _ (List.mem_of_getElem? (i := 81) rfl))) (mvT hZ (hw _ (List.mem_of_getElem? (i := 82) rfl))) (notFace_of_selects (args := #[]) (mvT hZ (hw _ (List.mem_of_getElem? (i := 84) rfl)))) (mvT hZ (hw _ (List.mem_of_getElem? (i := 84) rfl))) (mvT hZ (hw _ (List.mem_of_getElem? (i := 83) rfl))) (by decide) (backOf (W := 0) (Q := Qend Z o sa va kv (.int i2) (.int i3) T353.heap n0) (own_end1 l Z a0 hw [] o i7 sa va ba ks kv kb (.int i2) (.int i3) (.int i2) (.int i3) (.int i0) (.int i1) T353.heap n0 Z353 F357 F366 f22 F367 F368 F369 F370 F371 U353a U353b F373 f25 f26 f27 f29 f30 f28 f23 f24 hc374) hZ (hw _ (List.mem_of_getElem? (i := 85) rfl)) (hw _ (List.mem_of_getElem? (i := 2) rfl)) (by decide) (by decide)) q397a q397c (g := (mkF m 130 #[.val (.int i0), .val (.int i1), .val (.int i2), .val (.int i3), .val (.int i4), .val (.int i5), .val (.int i6), .val (.int i7), .val (.ref o), .unset, .unset] [(.int i7), (.ref o)])) rfl (by rw [hml]; rfl) (Steps.refl _) (argsL := [(.int i7)]) (rest := []) (lenOf own_pd4 rfl) rfl (by show 2 * 0 + _ ≤ _; exact Nat.le_of_eq rfl) (hb hby at_130) (fun _ _ => ⟨rfl, rfl, (by dsimp only [Pt.cells, Pt.slots, room_1]; omega), (by dsimp only [Pt.cells, Pt.slots, room_1]; omega)⟩)
        dsimp only [Pt.U, Pt.locs, Pt.cells, Pt.slots] at X397 l397 y397 z397 st397 hQ397
        subst l397 y397 z397
        obtain ⟨rfl, N397q, K397, R1397, Vv397⟩ := hQ397
        have N397 := Fr.app N353 N397q
        have Z397 : n0 ≤ T397.heap.size := Nat.le_trans Z353 K397.1
        have F398 := own_sta_keep F354 K397 (allS (own_plain F366) (allS (own_plain F370) (allS (own_plain F371) all0)))
        have F399 := own_sta_keep F355 K397 (allS (own_plain F366) (allS (own_plain F370) (allS (own_plain F371) all0)))
        have F400 := own_sta_keep F356 K397 (allS (own_plain F366) (allS (own_plain F370) (allS (own_plain F371) all0)))
        have F401 := own_sta_keep F357 K397 (allS (own_plain F366) (allS (own_plain F370) (allS (own_plain F371) all0)))
        have F402 := F358.keep K397
        have F403 := F359.keep K397 (ninS f39 (ninS f37 (ninS f38 nin0)))
        have F404 := F360.keep K397
        have F405 := F361.keep K397
        have F406 := F362.keep K397 (ninS f33 (ninS f31 (ninS f32 nin0)))
        have F407 := F363.keep K397 (ninS f36 (ninS f34 (ninS f35 nin0)))
        have F408 := F364.keep K397 (ninS f33 (ninS f31 (ninS f32 nin0)))
        have F409 := F365.keep K397 (ninS f36 (ninS f34 (ninS f35 nin0)))
        have F410 := F366.keep K397
        have F411 := F370.keep K397
        have F412 := F371.keep K397
        have F413 := F372.keep K397
        have F414 := F373.keep K397 (ninS (Ne.symm f28) (ninS f29 (ninS f30 nin0)))
        refine Go.step (T' := T397) (g' := (mkF m 133 #[.val (.int i0), .val (.int i1), .val (.int i2), .val (.int i3), .val (.int i4), .val (.int i5), .val (.int i6), .val (.int i7), .val (.ref o), .unset, .unset] [])) (fun _ k => st397.trans k) ?_
        refine Go.step (T' := T397) (g' := (mkF m 135 #[.val (.int i0), .val (.int i1), .val (.int i2), .val (.int i3), .val (.int i4), .val (.int i5), .val (.int i6), .val (.int i7), .val (.ref o), .unset, .unset] [(.int i7)])) (fun _ k => XS.iload X397.here hx rfl (hb hby at_133) rfl  k) ?_
        refine Go.step (T' := T397) (g' := (mkF m 138 #[.val (.int i0), .val (.int i1), .val (.int i2), .val (.int i3), .val (.int i4), .val (.int i5), .val (.int i6), .val (.int i7), .val (.ref o), .unset, .unset] [])) (fun _ k => XS.ifNo X397.here hx rfl (hb hby at_135) rfl ((if0 _ _).trans (feq hc374).1) k) ?_
        refine Go.step (T' := T397) (g' := (mkF m 140 #[.val (.int i0), .val (.int i1), .val (.int i2), .val (.int i3), .val (.int i4), .val (.int i5), .val (.int i6), .val (.int i7), .val (.ref o), .unset, .unset] [(.int i5)])) (fun _ k => XS.iload X397.here hx rfl (hb hby at_138) rfl  k) ?_
        refine Go.step (T' := T397) (g' := (mkF m 143 #[.val (.int i0), .val (.int i1), .val (.int i2), .val (.int i3), .val (.int i4), .val (.int i5), .val (.int i6), .val (.int i7), .val (.ref o), .unset, .unset] [])) (fun _ k => XS.ifNo X397.here hx rfl (hb hby at_140) rfl ((if0 _ _).trans (feq hc101).1) k) ?_
        refine Go.step (T' := T397) (g' := (mkF m 144 #[.val (.int i0), .val (.int i1), .val (.int i2), .val (.int i3), .val (.int i4), .val (.int i5), .val (.int i6), .val (.int i7), .val (.ref o), .unset, .unset] [(.int i2)])) (fun _ k => XS.iloadN X397.here hx rfl (hb hby at_143) rfl  k) ?_
        refine Go.step (T' := T397) (g' := (mkF m 148 #[.val (.int i0), .val (.int i1), .val (.int i2), .val (.int i3), .val (.int i4), .val (.int i5), .val (.int i6), .val (.int i7), .val (.ref o), .unset, .unset] [(.int i2)])) (fun _ k => XS.goto X397.here hx rfl (pc0 := 144) (pc' := 148) rfl (hb hby at_144) (by decide) (by decide) k) ?_
        refine Go.step (T' := T397) (g' := (mkF m 150 #[.val (.int i0), .val (.int i1), .val (.int i2), .val (.int i3), .val (.int i4), .val (.int i5), .val (.int i6), .val (.int i7), .val (.ref o), .val (.int i2), .unset] [])) (fun _ k => XS.istore X397.here hx rfl (hb hby at_148) rfl (l' := #[.val (.int i0), .val (.int i1), .val (.int i2), .val (.int i3), .val (.int i4), .val (.int i5), .val (.int i6), .val (.int i7), .val (.ref o), .val (.int i2), .unset]) rfl k) ?_
        refine Go.step (T' := T397) (g' := (mkF m 152 #[.val (.int i0), .val (.int i1), .val (.int i2), .val (.int i3), .val (.int i4), .val (.int i5), .val (.int i6), .val (.int i7), .val (.ref o), .val (.int i2), .unset] [(.int i7)])) (fun _ k => XS.iload X397.here hx rfl (hb hby at_150) rfl  k) ?_
        refine Go.step (T' := T397) (g' := (mkF m 155 #[.val (.int i0), .val (.int i1), .val (.int i2), .val (.int i3), .val (.int i4), .val (.int i5), .val (.int i6), .val (.int i7), .val (.ref o), .val (.int i2), .unset] [])) (fun _ k => XS.ifNo X397.here hx rfl (hb hby at_152) rfl ((if0 _ _).trans (feq hc374).1) k) ?_
        refine Go.step (T' := T397) (g' := (mkF m 157 #[.val (.int i0), .val (.int i1), .val (.int i2), .val (.int i3), .val (.int i4), .val (.int i5), .val (.int i6), .val (.int i7), .val (.ref o), .val (.int i2), .unset] [(.int i6)])) (fun _ k => XS.iload X397.here hx rfl (hb hby at_155) rfl  k) ?_
        refine Go.step (T' := T397) (g' := (mkF m 160 #[.val (.int i0), .val (.int i1), .val (.int i2), .val (.int i3), .val (.int i4), .val (.int i5), .val (.int i6), .val (.int i7), .val (.ref o), .val (.int i2), .unset] [])) (fun _ k => XS.ifNo X397.here hx rfl (hb hby at_157) rfl ((if0 _ _).trans (feq hc283).1) k) ?_
        refine Go.step (T' := T397) (g' := (mkF m 161 #[.val (.int i0), .val (.int i1), .val (.int i2), .val (.int i3), .val (.int i4), .val (.int i5), .val (.int i6), .val (.int i7), .val (.ref o), .val (.int i2), .unset] [(.int i3)])) (fun _ k => XS.iloadN X397.here hx rfl (hb hby at_160) rfl  k) ?_
        refine Go.step (T' := T397) (g' := (mkF m 165 #[.val (.int i0), .val (.int i1), .val (.int i2), .val (.int i3), .val (.int i4), .val (.int i5), .val (.int i6), .val (.int i7), .val (.ref o), .val (.int i2), .unset] [(.int i3)])) (fun _ k => XS.goto X397.here hx rfl (pc0 := 161) (pc' := 165) rfl (hb hby at_161) (by decide) (by decide) k) ?_
        refine Go.step (T' := T397) (g' := (mkF m 167 #[.val (.int i0), .val (.int i1), .val (.int i2), .val (.int i3), .val (.int i4), .val (.int i5), .val (.int i6), .val (.int i7), .val (.ref o), .val (.int i2), .val (.int i3)] [])) (fun _ k => XS.istore X397.here hx rfl (hb hby at_165) rfl (l' := #[.val (.int i0), .val (.int i1), .val (.int i2), .val (.int i3), .val (.int i4), .val (.int i5), .val (.int i6), .val (.int i7), .val (.ref o), .val (.int i2), .val (.int i3)]) rfl k) ?_
        refine Go.step (T' := T397) (g' := (mkF m 169 #[.val (.int i0), .val (.int i1), .val (.int i2), .val (.int i3), .val (.int i4), .val (.int i5), .val (.int i6), .val (.int i7), .val (.ref o), .val (.int i2), .val (.int i3)] [(.ref o)])) (fun _ k => XS.aload X397.here hx rfl (hb hby at_167) rfl rfl k) ?_
        obtain ⟨T415, X415, e415, st415⟩ := getS2 X397 hx hZ hown (host := "") (Or.inl (hw _ (List.mem_of_getElem? (i := 60) rfl))) Via.refl rfl F399 (g := (mkF m 169 #[.val (.int i0), .val (.int i1), .val (.int i2), .val (.int i3), .val (.int i4), .val (.int i5), .val (.int i6), .val (.int i7), .val (.ref o), .val (.int i2), .val (.int i3)] [(.ref o)])) rfl (hb hby at_169)
        refine Go.step (T' := T415) (g' := (mkF m 172 #[.val (.int i0), .val (.int i1), .val (.int i2), .val (.int i3), .val (.int i4), .val (.int i5), .val (.int i6), .val (.int i7), .val (.ref o), .val (.int i2), .val (.int i3)] [(.ref w0), (.ref o)])) st415 ?_
        obtain ⟨cq416, kq416, q416a, q416b, q416c⟩ := isOf hZ e415 F410
        obtain ⟨_, _, ⟨T416, L416, k416, n416⟩, -, X416, ⟨Lc416, hQ416, l416, y416, z416⟩, st416⟩ := X415.virtualBack hx (y := (⟨"com/example/tuples_under_lock/tuplesunderlock/Settings", "get", "(Lcom/example/tuples_under_lock/tuplesunderlock/Setting;)I"⟩ : MethodName)) (z := (⟨"com/example/tuples_under_lock/tuplesunderlock/Settings", "get", "(Lcom/example/tuples_under_lock/tuplesunderlock/Setting;)I"⟩ : MethodName)) hown (mvT hZ (hw _ (List.mem_of_getElem? (i := 90) rfl))) (mvT hZ (hw _ (List.mem_of_getElem? (i := 91) rfl))) (notFace_of_selects (args := #[]) (mvT hZ (hw _ (List.mem_of_getElem? (i := 93) rfl)))) (mvT hZ (hw _ (List.mem_of_getElem? (i := 93) rfl))) (mvT hZ (hw _ (List.mem_of_getElem? (i := 92) rfl))) (by decide) (backOf (W := 0) (Q := Qret (some (.int i2)) T397.heap n0) (own_get0 l Z a0 hw [] o w0 va kv i2 i3 T397.heap n0 Z397 F404 F406 R1397 Vv397) hZ (hw _ (List.mem_of_getElem? (i := 94) rfl)) (hw _ (List.mem_of_getElem? (i := 2) rfl)) (by decide) (by decide)) q416a q416c (g := (mkF m 172 #[.val (.int i0), .val (.int i1), .val (.int i2), .val (.int i3), .val (.int i4), .val (.int i5), .val (.int i6), .val (.int i7), .val (.ref o), .val (.int i2), .val (.int i3)] [(.ref w0), (.ref o)])) rfl (by rw [hml]; rfl) (Steps.refl _) (argsL := [(.ref w0)]) (rest := []) (lenOf own_pd5 rfl) rfl (by show 2 * 0 + _ ≤ _; exact Nat.le_of_eq rfl) (hb hby at_172) (fun _ _ => ⟨rfl, e415, (by dsimp only [Pt.cells, Pt.slots, room_1]; omega), (by dsimp only [Pt.cells, Pt.slots, room_1]; omega)⟩)
        dsimp only [Pt.U, Pt.locs, Pt.cells, Pt.slots] at X416 l416 y416 z416 st416 hQ416
        subst l416 y416 z416
        obtain ⟨rfl, N416q, eh416⟩ := hQ416
        have N416 := Fr.app N397 N416q
        refine Go.step (T' := T416) (g' := (mkF m 175 #[.val (.int i0), .val (.int i1), .val (.int i2), .val (.int i3), .val (.int i4), .val (.int i5), .val (.int i6), .val (.int i7), .val (.ref o), .val (.int i2), .val (.int i3)] [(.int i2)])) (fun _ k => st416.trans k) ?_
        refine Go.step (T' := T416) (g' := (mkF m 177 #[.val (.int i0), .val (.int i1), .val (.int i2), .val (.int i3), .val (.int i4), .val (.int i5), .val (.int i6), .val (.int i7), .val (.ref o), .val (.int i2), .val (.int i3)] [(.int i2), (.int i2)])) (fun _ k => XS.iload X416.here hx rfl (hb hby at_175) rfl  k) ?_
        refine Go.step (T' := T416) (g' := (mkF m 180 #[.val (.int i0), .val (.int i1), .val (.int i2), .val (.int i3), .val (.int i4), .val (.int i5), .val (.int i6), .val (.int i7), .val (.ref o), .val (.int i2), .val (.int i3)] [])) (fun _ k => XS.icmpNo X416.here hx rfl (hb hby at_177) rfl (teq (rfl : i2 = i2)).2 k) ?_
        refine Go.step (T' := T416) (g' := (mkF m 182 #[.val (.int i0), .val (.int i1), .val (.int i2), .val (.int i3), .val (.int i4), .val (.int i5), .val (.int i6), .val (.int i7), .val (.ref o), .val (.int i2), .val (.int i3)] [(.ref o)])) (fun _ k => XS.aload X416.here hx rfl (hb hby at_180) rfl rfl k) ?_
        obtain ⟨T417, X417, e417, st417⟩ := getS2 X416 hx hZ hown (host := "") (Or.inl (hw _ (List.mem_of_getElem? (i := 62) rfl))) Via.refl eh416 F400 (g := (mkF m 182 #[.val (.int i0), .val (.int i1), .val (.int i2), .val (.int i3), .val (.int i4), .val (.int i5), .val (.int i6), .val (.int i7), .val (.ref o), .val (.int i2), .val (.int i3)] [(.ref o)])) rfl (hb hby at_182)
        refine Go.step (T' := T417) (g' := (mkF m 185 #[.val (.int i0), .val (.int i1), .val (.int i2), .val (.int i3), .val (.int i4), .val (.int i5), .val (.int i6), .val (.int i7), .val (.ref o), .val (.int i2), .val (.int i3)] [(.ref w1), (.ref o)])) st417 ?_
        obtain ⟨cq418, kq418, q418a, q418b, q418c⟩ := isOf hZ e417 F410
        obtain ⟨_, _, ⟨T418, L418, k418, n418⟩, -, X418, ⟨Lc418, hQ418, l418, y418, z418⟩, st418⟩ := X417.virtualBack hx (y := (⟨"com/example/tuples_under_lock/tuplesunderlock/Settings", "get", "(Lcom/example/tuples_under_lock/tuplesunderlock/Setting;)I"⟩ : MethodName)) (z := (⟨"com/example/tuples_under_lock/tuplesunderlock/Settings", "get", "(Lcom/example/tuples_under_lock/tuplesunderlock/Setting;)I"⟩ : MethodName)) hown (mvT hZ (hw _ (List.mem_of_getElem? (i := 90) rfl))) (mvT hZ (hw _ (List.mem_of_getElem? (i := 91) rfl))) (notFace_of_selects (args := #[]) (mvT hZ (hw _ (List.mem_of_getElem? (i := 93) rfl)))) (mvT hZ (hw _ (List.mem_of_getElem? (i := 93) rfl))) (mvT hZ (hw _ (List.mem_of_getElem? (i := 92) rfl))) (by decide) (backOf (W := 0) (Q := Qret (some (.int i3)) T397.heap n0) (own_get1 l Z a0 hw [] o w1 va kv i2 i3 T397.heap n0 Z397 F405 F407 R1397 Vv397) hZ (hw _ (List.mem_of_getElem? (i := 94) rfl)) (hw _ (List.mem_of_getElem? (i := 2) rfl)) (by decide) (by decide)) q418a q418c (g := (mkF m 185 #[.val (.int i0), .val (.int i1), .val (.int i2), .val (.int i3), .val (.int i4), .val (.int i5), .val (.int i6), .val (.int i7), .val (.ref o), .val (.int i2), .val (.int i3)] [(.ref w1), (.ref o)])) rfl (by rw [hml]; rfl) (Steps.refl _) (argsL := [(.ref w1)]) (rest := []) (lenOf own_pd5 rfl) rfl (by show 2 * 0 + _ ≤ _; exact Nat.le_of_eq rfl) (hb hby at_185) (fun _ _ => ⟨rfl, e417, (by dsimp only [Pt.cells, Pt.slots, room_1]; omega), (by dsimp only [Pt.cells, Pt.slots, room_1]; omega)⟩)
        dsimp only [Pt.U, Pt.locs, Pt.cells, Pt.slots] at X418 l418 y418 z418 st418 hQ418
        subst l418 y418 z418
        obtain ⟨rfl, N418q, eh418⟩ := hQ418
        have N418 := Fr.app N416 N418q
        refine Go.step (T' := T418) (g' := (mkF m 188 #[.val (.int i0), .val (.int i1), .val (.int i2), .val (.int i3), .val (.int i4), .val (.int i5), .val (.int i6), .val (.int i7), .val (.ref o), .val (.int i2), .val (.int i3)] [(.int i3)])) (fun _ k => st418.trans k) ?_
        refine Go.step (T' := T418) (g' := (mkF m 190 #[.val (.int i0), .val (.int i1), .val (.int i2), .val (.int i3), .val (.int i4), .val (.int i5), .val (.int i6), .val (.int i7), .val (.ref o), .val (.int i2), .val (.int i3)] [(.int i3), (.int i3)])) (fun _ k => XS.iload X418.here hx rfl (hb hby at_188) rfl  k) ?_
        refine Go.step (T' := T418) (g' := (mkF m 193 #[.val (.int i0), .val (.int i1), .val (.int i2), .val (.int i3), .val (.int i4), .val (.int i5), .val (.int i6), .val (.int i7), .val (.ref o), .val (.int i2), .val (.int i3)] [])) (fun _ k => XS.icmpNo X418.here hx rfl (hb hby at_190) rfl (teq (rfl : i3 = i3)).2 k) ?_
        refine Go.step (T' := T418) (g' := (mkF m 194 #[.val (.int i0), .val (.int i1), .val (.int i2), .val (.int i3), .val (.int i4), .val (.int i5), .val (.int i6), .val (.int i7), .val (.ref o), .val (.int i2), .val (.int i3)] [(.int (1 : Int32))])) (fun _ k => XS.iconst X418.here hx rfl (hb hby at_193) k) ?_
        refine Go.step (T' := T418) (g' := (mkF m 198 #[.val (.int i0), .val (.int i1), .val (.int i2), .val (.int i3), .val (.int i4), .val (.int i5), .val (.int i6), .val (.int i7), .val (.ref o), .val (.int i2), .val (.int i3)] [(.int (1 : Int32))])) (fun _ k => XS.goto X418.here hx rfl (pc0 := 194) (pc' := 198) rfl (hb hby at_194) (by decide) (by decide) k) ?_
        exact Go.retN X418 hx (t := .boolean) hret hlk (by simp) (hb hby at_198) (⟨rfl, N418⟩) (by omega) (by omega)
set_option maxRecDepth 65536 in
set_option maxHeartbeats 40000000 in
theorem own_s42 {pgm : Program} {l : Launch} {e : Env} {s : State} {m : MethodId} {args : Array Value} {below : List Frame} {meth : Method} {c : Code} {T0 : State} {locs : List Loc} {cells slots : Nat} {Z : State} {a0 : Array Value} {h0 : Heap} {n0 : Nat} (i0 : Int32) (i1 : Int32) (i2 : Int32) (i3 : Int32) (i4 : Int32) (i5 : Int32) (i6 : Int32) (i7 : Int32) (vz : Addr) (w0 : Addr) (w1 : Addr) (kz : ClassId)
    (X0 : Stand pgm l e room_1 s m args below meth c T0 locs cells slots) (hx : pgm.tables.exec = Jvm.exec) (hZ : Z.Warmed39 s.vm) (hw : ∀ d ∈ tables_1, d.before a0 Z = true) (hby : c.code = code) (hml : c.maxLocals = maxLocals) (hown : s.vm.findClass "com/example/tuples_under_lock/tuplesunderlock/SettingsBeginBlockPinLaw" = some m.cls) (hret : meth.sig.returnType = ret) (hlk : meth.locks = false) (e0 : T0.heap = h0) (N0 : Fr n0 locs) (Z0 : n0 ≤ h0.size) (hcells : cells ≤ 0) (hslots : slots ≤ 0) (f0 : Sta Z h0 "com/example/tuples_under_lock/tuplesunderlock/Setting" "$VALUES" "[Lcom/example/tuples_under_lock/tuplesunderlock/Setting;" (.ref vz)) (f1 : Sta Z h0 "com/example/tuples_under_lock/tuplesunderlock/Setting" "LOCK_TIMEOUT" "Lcom/example/tuples_under_lock/tuplesunderlock/Setting;" (.ref w0)) (f2 : Sta Z h0 "com/example/tuples_under_lock/tuplesunderlock/Setting" "DEADLOCK_TIMEOUT" "Lcom/example/tuples_under_lock/tuplesunderlock/Setting;" (.ref w1)) (f3 : Sta Z h0 "com/example/tuples_under_lock/tuplesunderlock/Settings" "COUNT" "I" (.int (2 : Int32))) (f4 : Exa Z h0 vz "[Lcom/example/tuples_under_lock/tuplesunderlock/Setting;") (f5 : Arv Z h0 vz kz (.object "com/example/tuples_under_lock/tuplesunderlock/Setting") (2 : Int32) [(.ref w0), (.ref w1)] .null) (f6 : Exa Z h0 w0 "com/example/tuples_under_lock/tuplesunderlock/Setting") (f7 : Exa Z h0 w1 "com/example/tuples_under_lock/tuplesunderlock/Setting") (f8 : Fld Z h0 w0 "java/lang/Enum" "ordinal" "I" (.int (0 : Int32))) (f9 : Fld Z h0 w1 "java/lang/Enum" "ordinal" "I" (.int (1 : Int32))) (f10 : Fld Z h0 w0 "com/example/tuples_under_lock/tuplesunderlock/Setting" "defaultValue" "I" (.int (0 : Int32))) (f11 : Fld Z h0 w1 "com/example/tuples_under_lock/tuplesunderlock/Setting" "defaultValue" "I" (.int (1000 : Int32))) :
    Go pgm e below s (Q0 n0) 8 24 T0 (mkF m 42 #[.val (.int i0), .val (.int i1), .val (.int i2), .val (.int i3), .val (.int i4), .val (.int i5), .val (.int i6), .val (.int i7), .unset, .unset, .unset] []) := by
  obtain ⟨T101, h101, X101, e101, E101, A101, D101, -, st101⟩ := newO X0 hx hZ hown (hw _ (List.mem_of_getElem? (i := 0) rfl)) (hw _ (List.mem_of_getElem? (i := 1) rfl)) (hw _ (List.mem_of_getElem? (i := 2) rfl)) e0 (g := (mkF m 42 #[.val (.int i0), .val (.int i1), .val (.int i2), .val (.int i3), .val (.int i4), .val (.int i5), .val (.int i6), .val (.int i7), .unset, .unset, .unset] [])) rfl (hb hby at_42) (by dsimp only [Pt.cells, Pt.slots, room_1]; omega) (by dsimp only [Pt.cells, Pt.slots, room_1]; omega)
  obtain ⟨b101, g101⟩ : ∃ z, z = h0.size := ⟨_, rfl⟩
  rw [← g101] at A101 D101 st101
  have ne102 : vz ≠ b101 := by have q := f4.lt; intro r; rw [r, g101] at q; exact Nat.lt_irrefl _ q
  have ne103 : w0 ≠ b101 := by have q := f6.lt; intro r; rw [r, g101] at q; exact Nat.lt_irrefl _ q
  have ne104 : w1 ≠ b101 := by have q := f7.lt; intro r; rw [r, g101] at q; exact Nat.lt_irrefl _ q
  have ge101 : n0 ≤ b101 := Nat.le_trans Z0 (Nat.le_of_eq g101.symm)
  have Z101 : n0 ≤ h101.size := Nat.le_trans Z0 E101.1
  have F105 := f0.ext E101
  have F106 := f1.ext E101
  have F107 := f2.ext E101
  have F108 := f3.ext E101
  have F109 := f4.ext E101
  have F110 := f5.ext E101
  have F111 := f6.ext E101
  have F112 := f7.ext E101
  have F113 := f8.ext E101
  have F114 := f9.ext E101
  have F115 := f10.ext E101
  have F116 := f11.ext E101
  have F117 : Fld Z h101 b101 "com/example/tuples_under_lock/tuplesunderlock/Settings" "sessionValues" "[I" .null := D101 (Or.inr (hw _ (List.mem_of_getElem? (i := 13) rfl))) (ty := (.array .int)) (by decide)
  have F118 : Fld Z h101 b101 "com/example/tuples_under_lock/tuplesunderlock/Settings" "values" "[I" .null := D101 (Or.inr (hw _ (List.mem_of_getElem? (i := 15) rfl))) (ty := (.array .int)) (by decide)
  have F119 : Fld Z h101 b101 "com/example/tuples_under_lock/tuplesunderlock/Settings" "sessionValuesAtBegin" "[I" .null := D101 (Or.inl (hw _ (List.mem_of_getElem? (i := 75) rfl))) (ty := (.array .int)) (by decide)
  refine Go.step (T' := T101) (g' := (mkF m 45 #[.val (.int i0), .val (.int i1), .val (.int i2), .val (.int i3), .val (.int i4), .val (.int i5), .val (.int i6), .val (.int i7), .unset, .unset, .unset] [(.ref b101)])) st101 ?_
  refine Go.step (T' := T101) (g' := (mkF m 46 #[.val (.int i0), .val (.int i1), .val (.int i2), .val (.int i3), .val (.int i4), .val (.int i5), .val (.int i6), .val (.int i7), .unset, .unset, .unset] [(.ref b101), (.ref b101)])) (fun _ k => XS.dup X101.here hx rfl (hb hby at_45) rfl rfl k) ?_
  obtain ⟨_, _, ⟨T120, L120, k120, n120⟩, -, X120, ⟨Lc120, hQ120, l120, y120, z120⟩, st120⟩ := X101.specialBack hx (y := (⟨"com/example/tuples_under_lock/tuplesunderlock/Settings", "<init>", "()V"⟩ : MethodName)) rfl hown (mvT hZ (hw _ (List.mem_of_getElem? (i := 3) rfl))) (mvT hZ (hw _ (List.mem_of_getElem? (i := 4) rfl))) (mvT hZ (hw _ (List.mem_of_getElem? (i := 5) rfl))) (by decide) (backOf (W := 1) (Q := Qini Z b101 .null h101 n0) (own_ini l Z a0 hw [] b101 vz w0 w1 kz (.null) (.null) (.null) h101 n0 Z101 F105 F109 F110 F111 F112 F113 F114 F115 F116 F108 A101 ge101 F117 F118 F119 ne103 ne104 ne102) hZ (hw _ (List.mem_of_getElem? (i := 5) rfl)) (hw _ (List.mem_of_getElem? (i := 2) rfl)) (by decide) (by decide)) (g := (mkF m 46 #[.val (.int i0), .val (.int i1), .val (.int i2), .val (.int i3), .val (.int i4), .val (.int i5), .val (.int i6), .val (.int i7), .unset, .unset, .unset] [(.ref b101), (.ref b101)])) rfl (by rw [hml]; rfl) (Steps.refl _) (a := b101) (argsL := []) (rest := [(.ref b101)]) (lenOf own_pd3 rfl) rfl (by show 2 * 0 + _ ≤ _; exact Nat.le_of_eq rfl) (hb hby at_46) (fun _ _ => ⟨rfl, e101, (by dsimp only [Pt.cells, Pt.slots, room_1]; omega), (by dsimp only [Pt.cells, Pt.slots, room_1]; omega)⟩)
  dsimp only [Pt.U, Pt.locs, Pt.cells, Pt.slots] at X120 l120 y120 z120 st120 hQ120
  subst l120 y120 z120
  obtain ⟨sa120, va120, ks120, kv120, rfl, N120q, K120, za120, zb120, nsv120, R0120, R1120, R2120, Es120, Ev120, Vs120, Vv120⟩ := hQ120
  have N120 := Fr.app N0 N120q
  have ne121 : vz ≠ sa120 := Nat.ne_of_lt (Nat.lt_of_lt_of_le F109.lt za120)
  have ne122 : w0 ≠ sa120 := Nat.ne_of_lt (Nat.lt_of_lt_of_le F111.lt za120)
  have ne123 : w1 ≠ sa120 := Nat.ne_of_lt (Nat.lt_of_lt_of_le F112.lt za120)
  have ne124 : b101 ≠ sa120 := Nat.ne_of_lt (Nat.lt_of_lt_of_le A101.lt za120)
  have ge125 : n0 ≤ sa120 := Nat.le_trans Z101 za120
  have ne126 : vz ≠ va120 := Nat.ne_of_lt (Nat.lt_of_lt_of_le F109.lt zb120)
  have ne127 : w0 ≠ va120 := Nat.ne_of_lt (Nat.lt_of_lt_of_le F111.lt zb120)
  have ne128 : w1 ≠ va120 := Nat.ne_of_lt (Nat.lt_of_lt_of_le F112.lt zb120)
  have ne129 : b101 ≠ va120 := Nat.ne_of_lt (Nat.lt_of_lt_of_le A101.lt zb120)
  have ge130 : n0 ≤ va120 := Nat.le_trans Z101 zb120
  have Z120 : n0 ≤ T120.heap.size := Nat.le_trans Z101 K120.1
  have F131 := own_sta_keep F105 K120 (allS (own_plain A101) all0)
  have F132 := own_sta_keep F106 K120 (allS (own_plain A101) all0)
  have F133 := own_sta_keep F107 K120 (allS (own_plain A101) all0)
  have F134 := own_sta_keep F108 K120 (allS (own_plain A101) all0)
  have F135 := F109.keep K120
  have F136 := F110.keep K120 (ninS ne102 nin0)
  have F137 := F111.keep K120
  have F138 := F112.keep K120
  have F139 := F113.keep K120 (ninS ne103 nin0)
  have F140 := F114.keep K120 (ninS ne104 nin0)
  have F141 := F115.keep K120 (ninS ne103 nin0)
  have F142 := F116.keep K120 (ninS ne104 nin0)
  have F143 := A101.keep K120
  refine Go.step (T' := T120) (g' := (mkF m 49 #[.val (.int i0), .val (.int i1), .val (.int i2), .val (.int i3), .val (.int i4), .val (.int i5), .val (.int i6), .val (.int i7), .unset, .unset, .unset] [(.ref b101)])) (fun _ k => st120.trans k) ?_
  refine Go.step (T' := T120) (g' := (mkF m 51 #[.val (.int i0), .val (.int i1), .val (.int i2), .val (.int i3), .val (.int i4), .val (.int i5), .val (.int i6), .val (.int i7), .val (.ref b101), .unset, .unset] [])) (fun _ k => XS.astore X120.here hx rfl (hb hby at_49) rfl rfl (l' := #[.val (.int i0), .val (.int i1), .val (.int i2), .val (.int i3), .val (.int i4), .val (.int i5), .val (.int i6), .val (.int i7), .val (.ref b101), .unset, .unset]) rfl k) ?_
  refine Go.step (T' := T120) (g' := (mkF m 53 #[.val (.int i0), .val (.int i1), .val (.int i2), .val (.int i3), .val (.int i4), .val (.int i5), .val (.int i6), .val (.int i7), .val (.ref b101), .unset, .unset] [(.ref b101)])) (fun _ k => XS.aload X120.here hx rfl (hb hby at_51) rfl rfl k) ?_
  obtain ⟨T144, X144, e144, st144⟩ := getS2 X120 hx hZ hown (host := "") (Or.inl (hw _ (List.mem_of_getElem? (i := 60) rfl))) Via.refl rfl F132 (g := (mkF m 53 #[.val (.int i0), .val (.int i1), .val (.int i2), .val (.int i3), .val (.int i4), .val (.int i5), .val (.int i6), .val (.int i7), .val (.ref b101), .unset, .unset] [(.ref b101)])) rfl (hb hby at_53)
  refine Go.step (T' := T144) (g' := (mkF m 56 #[.val (.int i0), .val (.int i1), .val (.int i2), .val (.int i3), .val (.int i4), .val (.int i5), .val (.int i6), .val (.int i7), .val (.ref b101), .unset, .unset] [(.ref w0), (.ref b101)])) st144 ?_
  refine Go.step (T' := T144) (g' := (mkF m 57 #[.val (.int i0), .val (.int i1), .val (.int i2), .val (.int i3), .val (.int i4), .val (.int i5), .val (.int i6), .val (.int i7), .val (.ref b101), .unset, .unset] [(.int i0), (.ref w0), (.ref b101)])) (fun _ k => XS.iloadN X144.here hx rfl (hb hby at_56) rfl  k) ?_
  obtain ⟨cq145, kq145, q145a, q145b, q145c⟩ := isOf hZ e144 F143
  obtain ⟨_, _, ⟨T145, L145, k145, n145⟩, -, X145, ⟨Lc145, hQ145, l145, y145, z145⟩, st145⟩ := X144.virtualBack hx (y := (⟨"com/example/tuples_under_lock/tuplesunderlock/Settings", "set", "(Lcom/example/tuples_under_lock/tuplesunderlock/Setting;I)V"⟩ : MethodName)) (z := (⟨"com/example/tuples_under_lock/tuplesunderlock/Settings", "set", "(Lcom/example/tuples_under_lock/tuplesunderlock/Setting;I)V"⟩ : MethodName)) hown (mvT hZ (hw _ (List.mem_of_getElem? (i := 61) rfl))) (mvT hZ (hw _ (List.mem_of_getElem? (i := 47) rfl))) (notFace_of_selects (args := #[]) (mvT hZ (hw _ (List.mem_of_getElem? (i := 49) rfl)))) (mvT hZ (hw _ (List.mem_of_getElem? (i := 49) rfl))) (mvT hZ (hw _ (List.mem_of_getElem? (i := 48) rfl))) (by decide) (backOf (W := 0) (Q := Qset Z sa120 va120 ks120 kv120 [(.int i0), (.int (1000 : Int32))] [(.int i0), (.int (1000 : Int32))] T120.heap n0) (own_set0 l Z a0 hw [] b101 w0 i0 sa120 va120 ks120 kv120 (.int (0 : Int32)) (.int (1000 : Int32)) (.int (0 : Int32)) (.int (1000 : Int32)) T120.heap n0 Z120 F143 F137 F139 R0120 R1120 Es120 Ev120 Vs120 Vv120 nsv120 ne124 ne129 ne122 ne127 ge125 ge130) hZ (hw _ (List.mem_of_getElem? (i := 50) rfl)) (hw _ (List.mem_of_getElem? (i := 2) rfl)) (by decide) (by decide)) q145a q145c (g := (mkF m 57 #[.val (.int i0), .val (.int i1), .val (.int i2), .val (.int i3), .val (.int i4), .val (.int i5), .val (.int i6), .val (.int i7), .val (.ref b101), .unset, .unset] [(.int i0), (.ref w0), (.ref b101)])) rfl (by rw [hml]; rfl) (Steps.refl _) (argsL := [(.ref w0), (.int i0)]) (rest := []) (lenOf own_pd2 rfl) rfl (by show 2 * 0 + _ ≤ _; exact Nat.le_of_eq rfl) (hb hby at_57) (fun _ _ => ⟨rfl, e144, (by dsimp only [Pt.cells, Pt.slots, room_1]; omega), (by dsimp only [Pt.cells, Pt.slots, room_1]; omega)⟩)
  dsimp only [Pt.U, Pt.locs, Pt.cells, Pt.slots] at X145 l145 y145 z145 st145 hQ145
  subst l145 y145 z145
  obtain ⟨rfl, N145q, K145, U145a, U145b⟩ := hQ145
  have N145 := Fr.app N120 N145q
  have Z145 : n0 ≤ T145.heap.size := Nat.le_trans Z120 K145.1
  have F146 := own_sta_keep F131 K145 (allS (own_plain Es120) (allS (own_plain Ev120) all0))
  have F147 := own_sta_keep F132 K145 (allS (own_plain Es120) (allS (own_plain Ev120) all0))
  have F148 := own_sta_keep F133 K145 (allS (own_plain Es120) (allS (own_plain Ev120) all0))
  have F149 := own_sta_keep F134 K145 (allS (own_plain Es120) (allS (own_plain Ev120) all0))
  have F150 := F135.keep K145
  have F151 := F136.keep K145 (ninS ne121 (ninS ne126 nin0))
  have F152 := F137.keep K145
  have F153 := F138.keep K145
  have F154 := F139.keep K145 (ninS ne122 (ninS ne127 nin0))
  have F155 := F140.keep K145 (ninS ne123 (ninS ne128 nin0))
  have F156 := F141.keep K145 (ninS ne122 (ninS ne127 nin0))
  have F157 := F142.keep K145 (ninS ne123 (ninS ne128 nin0))
  have F158 := F143.keep K145
  have F159 := R0120.keep K145 (ninS ne124 (ninS ne129 nin0))
  have F160 := R1120.keep K145 (ninS ne124 (ninS ne129 nin0))
  have F161 := R2120.keep K145 (ninS ne124 (ninS ne129 nin0))
  have F162 := Es120.keep K145
  have F163 := Ev120.keep K145
  refine Go.step (T' := T145) (g' := (mkF m 60 #[.val (.int i0), .val (.int i1), .val (.int i2), .val (.int i3), .val (.int i4), .val (.int i5), .val (.int i6), .val (.int i7), .val (.ref b101), .unset, .unset] [])) (fun _ k => st145.trans k) ?_
  refine Go.step (T' := T145) (g' := (mkF m 62 #[.val (.int i0), .val (.int i1), .val (.int i2), .val (.int i3), .val (.int i4), .val (.int i5), .val (.int i6), .val (.int i7), .val (.ref b101), .unset, .unset] [(.ref b101)])) (fun _ k => XS.aload X145.here hx rfl (hb hby at_60) rfl rfl k) ?_
  obtain ⟨T164, X164, e164, st164⟩ := getS2 X145 hx hZ hown (host := "") (Or.inl (hw _ (List.mem_of_getElem? (i := 62) rfl))) Via.refl rfl F148 (g := (mkF m 62 #[.val (.int i0), .val (.int i1), .val (.int i2), .val (.int i3), .val (.int i4), .val (.int i5), .val (.int i6), .val (.int i7), .val (.ref b101), .unset, .unset] [(.ref b101)])) rfl (hb hby at_62)
  refine Go.step (T' := T164) (g' := (mkF m 65 #[.val (.int i0), .val (.int i1), .val (.int i2), .val (.int i3), .val (.int i4), .val (.int i5), .val (.int i6), .val (.int i7), .val (.ref b101), .unset, .unset] [(.ref w1), (.ref b101)])) st164 ?_
  refine Go.step (T' := T164) (g' := (mkF m 66 #[.val (.int i0), .val (.int i1), .val (.int i2), .val (.int i3), .val (.int i4), .val (.int i5), .val (.int i6), .val (.int i7), .val (.ref b101), .unset, .unset] [(.int i1), (.ref w1), (.ref b101)])) (fun _ k => XS.iloadN X164.here hx rfl (hb hby at_65) rfl  k) ?_
  obtain ⟨cq165, kq165, q165a, q165b, q165c⟩ := isOf hZ e164 F158
  obtain ⟨_, _, ⟨T165, L165, k165, n165⟩, -, X165, ⟨Lc165, hQ165, l165, y165, z165⟩, st165⟩ := X164.virtualBack hx (y := (⟨"com/example/tuples_under_lock/tuplesunderlock/Settings", "set", "(Lcom/example/tuples_under_lock/tuplesunderlock/Setting;I)V"⟩ : MethodName)) (z := (⟨"com/example/tuples_under_lock/tuplesunderlock/Settings", "set", "(Lcom/example/tuples_under_lock/tuplesunderlock/Setting;I)V"⟩ : MethodName)) hown (mvT hZ (hw _ (List.mem_of_getElem? (i := 61) rfl))) (mvT hZ (hw _ (List.mem_of_getElem? (i := 47) rfl))) (notFace_of_selects (args := #[]) (mvT hZ (hw _ (List.mem_of_getElem? (i := 49) rfl)))) (mvT hZ (hw _ (List.mem_of_getElem? (i := 49) rfl))) (mvT hZ (hw _ (List.mem_of_getElem? (i := 48) rfl))) (by decide) (backOf (W := 0) (Q := Qset Z sa120 va120 ks120 kv120 [(.int i0), (.int i1)] [(.int i0), (.int i1)] T145.heap n0) (own_set1 l Z a0 hw [] b101 w1 i1 sa120 va120 ks120 kv120 (.int i0) (.int (1000 : Int32)) (.int i0) (.int (1000 : Int32)) T145.heap n0 Z145 F158 F153 F155 F159 F160 F162 F163 U145a U145b nsv120 ne124 ne129 ne123 ne128 ge125 ge130) hZ (hw _ (List.mem_of_getElem? (i := 50) rfl)) (hw _ (List.mem_of_getElem? (i := 2) rfl)) (by decide) (by decide)) q165a q165c (g := (mkF m 66 #[.val (.int i0), .val (.int i1), .val (.int i2), .val (.int i3), .val (.int i4), .val (.int i5), .val (.int i6), .val (.int i7), .val (.ref b101), .unset, .unset] [(.int i1), (.ref w1), (.ref b101)])) rfl (by rw [hml]; rfl) (Steps.refl _) (argsL := [(.ref w1), (.int i1)]) (rest := []) (lenOf own_pd2 rfl) rfl (by show 2 * 0 + _ ≤ _; exact Nat.le_of_eq rfl) (hb hby at_66) (fun _ _ => ⟨rfl, e164, (by dsimp only [Pt.cells, Pt.slots, room_1]; omega), (by dsimp only [Pt.cells, Pt.slots, room_1]; omega)⟩)
  dsimp only [Pt.U, Pt.locs, Pt.cells, Pt.slots] at X165 l165 y165 z165 st165 hQ165
  subst l165 y165 z165
  obtain ⟨rfl, N165q, K165, U165a, U165b⟩ := hQ165
  have N165 := Fr.app N145 N165q
  have Z165 : n0 ≤ T165.heap.size := Nat.le_trans Z145 K165.1
  have F166 := own_sta_keep F146 K165 (allS (own_plain F162) (allS (own_plain F163) all0))
  have F167 := own_sta_keep F147 K165 (allS (own_plain F162) (allS (own_plain F163) all0))
  have F168 := own_sta_keep F148 K165 (allS (own_plain F162) (allS (own_plain F163) all0))
  have F169 := own_sta_keep F149 K165 (allS (own_plain F162) (allS (own_plain F163) all0))
  have F170 := F150.keep K165
  have F171 := F151.keep K165 (ninS ne121 (ninS ne126 nin0))
  have F172 := F152.keep K165
  have F173 := F153.keep K165
  have F174 := F154.keep K165 (ninS ne122 (ninS ne127 nin0))
  have F175 := F155.keep K165 (ninS ne123 (ninS ne128 nin0))
  have F176 := F156.keep K165 (ninS ne122 (ninS ne127 nin0))
  have F177 := F157.keep K165 (ninS ne123 (ninS ne128 nin0))
  have F178 := F158.keep K165
  have F179 := F159.keep K165 (ninS ne124 (ninS ne129 nin0))
  have F180 := F160.keep K165 (ninS ne124 (ninS ne129 nin0))
  have F181 := F161.keep K165 (ninS ne124 (ninS ne129 nin0))
  have F182 := F162.keep K165
  have F183 := F163.keep K165
  refine Go.step (T' := T165) (g' := (mkF m 69 #[.val (.int i0), .val (.int i1), .val (.int i2), .val (.int i3), .val (.int i4), .val (.int i5), .val (.int i6), .val (.int i7), .val (.ref b101), .unset, .unset] [])) (fun _ k => st165.trans k) ?_
  refine Go.step (T' := T165) (g' := (mkF m 71 #[.val (.int i0), .val (.int i1), .val (.int i2), .val (.int i3), .val (.int i4), .val (.int i5), .val (.int i6), .val (.int i7), .val (.ref b101), .unset, .unset] [(.ref b101)])) (fun _ k => XS.aload X165.here hx rfl (hb hby at_69) rfl rfl k) ?_
  obtain ⟨cq184, kq184, q184a, q184b, q184c⟩ := isOf hZ rfl F178
  obtain ⟨_, _, ⟨T184, L184, k184, n184⟩, -, X184, ⟨Lc184, hQ184, l184, y184, z184⟩, st184⟩ := X165.virtualBack hx (y := (⟨"com/example/tuples_under_lock/tuplesunderlock/Settings", "beginBlock", "()V"⟩ : MethodName)) (z := (⟨"com/example/tuples_under_lock/tuplesunderlock/Settings", "beginBlock", "()V"⟩ : MethodName)) hown (mvT hZ (hw _ (List.mem_of_getElem? (i := 63) rfl))) (mvT hZ (hw _ (List.mem_of_getElem? (i := 64) rfl))) (notFace_of_selects (args := #[]) (mvT hZ (hw _ (List.mem_of_getElem? (i := 66) rfl)))) (mvT hZ (hw _ (List.mem_of_getElem? (i := 66) rfl))) (mvT hZ (hw _ (List.mem_of_getElem? (i := 65) rfl))) (by decide) (backOf (W := 0) (Q := Qbeg Z b101 sa120 va120 ks120 (.int i0) (.int i1) T165.heap n0) (own_beg l Z a0 hw [] b101 sa120 va120 ks120 (.int i0) (.int i1) .null T165.heap n0 Z165 F178 ge101 F179 F180 F181 F182 U165a ne124) hZ (hw _ (List.mem_of_getElem? (i := 67) rfl)) (hw _ (List.mem_of_getElem? (i := 2) rfl)) (by decide) (by decide)) q184a q184c (g := (mkF m 71 #[.val (.int i0), .val (.int i1), .val (.int i2), .val (.int i3), .val (.int i4), .val (.int i5), .val (.int i6), .val (.int i7), .val (.ref b101), .unset, .unset] [(.ref b101)])) rfl (by rw [hml]; rfl) (Steps.refl _) (argsL := []) (rest := []) (lenOf own_pd3 rfl) rfl (by show 2 * 0 + _ ≤ _; exact Nat.le_of_eq rfl) (hb hby at_71) (fun _ _ => ⟨rfl, rfl, (by dsimp only [Pt.cells, Pt.slots, room_1]; omega), (by dsimp only [Pt.cells, Pt.slots, room_1]; omega)⟩)
  dsimp only [Pt.U, Pt.locs, Pt.cells, Pt.slots] at X184 l184 y184 z184 st184 hQ184
  subst l184 y184 z184
  obtain ⟨b184, rfl, N184q, K184, z184, R0184, R1184, R2184, Eb184, Vb184⟩ := hQ184
  have N184 := Fr.app N165 N184q
  have ne185 : vz ≠ b184 := Nat.ne_of_lt (Nat.lt_of_lt_of_le F170.lt z184)
  have ne186 : w0 ≠ b184 := Nat.ne_of_lt (Nat.lt_of_lt_of_le F172.lt z184)
  have ne187 : w1 ≠ b184 := Nat.ne_of_lt (Nat.lt_of_lt_of_le F173.lt z184)
  have ne188 : b101 ≠ b184 := Nat.ne_of_lt (Nat.lt_of_lt_of_le F178.lt z184)
  have ne189 : sa120 ≠ b184 := Nat.ne_of_lt (Nat.lt_of_lt_of_le F182.lt z184)
  have ne190 : va120 ≠ b184 := Nat.ne_of_lt (Nat.lt_of_lt_of_le F183.lt z184)
  have ge191 : n0 ≤ b184 := Nat.le_trans Z165 z184
  have Z184 : n0 ≤ T184.heap.size := Nat.le_trans Z165 K184.1
  have F192 := own_sta_keep F166 K184 (allS (own_plain F178) all0)
  have F193 := own_sta_keep F167 K184 (allS (own_plain F178) all0)
  have F194 := own_sta_keep F168 K184 (allS (own_plain F178) all0)
  have F195 := own_sta_keep F169 K184 (allS (own_plain F178) all0)
  have F196 := F170.keep K184
  have F197 := F171.keep K184 (ninS ne102 nin0)
  have F198 := F172.keep K184
  have F199 := F173.keep K184
  have F200 := F174.keep K184 (ninS ne103 nin0)
  have F201 := F175.keep K184 (ninS ne104 nin0)
  have F202 := F176.keep K184 (ninS ne103 nin0)
  have F203 := F177.keep K184 (ninS ne104 nin0)
  have F204 := F178.keep K184
  have F205 := F182.keep K184
  have F206 := F183.keep K184
  have F207 := U165a.keep K184 (ninS (Ne.symm ne124) nin0)
  have F208 := U165b.keep K184 (ninS (Ne.symm ne129) nin0)
  refine Go.step (T' := T184) (g' := (mkF m 74 #[.val (.int i0), .val (.int i1), .val (.int i2), .val (.int i3), .val (.int i4), .val (.int i5), .val (.int i6), .val (.int i7), .val (.ref b101), .unset, .unset] [])) (fun _ k => st184.trans k) ?_
  exact own_s74 i0 i1 i2 i3 i4 i5 i6 i7 b101 sa120 va120 b184 ks120 kv120 ks120 vz w0 w1 kz X184 hx hZ hw hby hml hown hret hlk rfl N184 Z184 (by omega) (by omega) F192 F193 F194 F195 F196 F197 F198 F199 F200 F201 F202 F203 F204 R0184 R1184 R2184 F205 F206 Eb184 F207 F208 Vb184 ge101 ge125 ge130 nsv120 ne124 ne129 ne188 (Ne.symm ne189) (Ne.symm ne190) ne122 ne127 ne103 ne123 ne128 ne104 ne121 ne126 ne102
set_option maxRecDepth 65536 in
set_option maxHeartbeats 40000000 in
theorem own_s28 {pgm : Program} {l : Launch} {e : Env} {s : State} {m : MethodId} {args : Array Value} {below : List Frame} {meth : Method} {c : Code} {T0 : State} {locs : List Loc} {cells slots : Nat} {Z : State} {a0 : Array Value} {h0 : Heap} {n0 : Nat} (i0 : Int32) (i1 : Int32) (i2 : Int32) (i3 : Int32) (i4 : Int32) (i5 : Int32) (i6 : Int32) (vz : Addr) (w0 : Addr) (w1 : Addr) (kz : ClassId)
    (X0 : Stand pgm l e room_1 s m args below meth c T0 locs cells slots) (hx : pgm.tables.exec = Jvm.exec) (hZ : Z.Warmed39 s.vm) (hw : ∀ d ∈ tables_1, d.before a0 Z = true) (hby : c.code = code) (hml : c.maxLocals = maxLocals) (hown : s.vm.findClass "com/example/tuples_under_lock/tuplesunderlock/SettingsBeginBlockPinLaw" = some m.cls) (hret : meth.sig.returnType = ret) (hlk : meth.locks = false) (e0 : T0.heap = h0) (N0 : Fr n0 locs) (Z0 : n0 ≤ h0.size) (hcells : cells ≤ 0) (hslots : slots ≤ 0) (f0 : Sta Z h0 "com/example/tuples_under_lock/tuplesunderlock/Setting" "$VALUES" "[Lcom/example/tuples_under_lock/tuplesunderlock/Setting;" (.ref vz)) (f1 : Sta Z h0 "com/example/tuples_under_lock/tuplesunderlock/Setting" "LOCK_TIMEOUT" "Lcom/example/tuples_under_lock/tuplesunderlock/Setting;" (.ref w0)) (f2 : Sta Z h0 "com/example/tuples_under_lock/tuplesunderlock/Setting" "DEADLOCK_TIMEOUT" "Lcom/example/tuples_under_lock/tuplesunderlock/Setting;" (.ref w1)) (f3 : Sta Z h0 "com/example/tuples_under_lock/tuplesunderlock/Settings" "COUNT" "I" (.int (2 : Int32))) (f4 : Exa Z h0 vz "[Lcom/example/tuples_under_lock/tuplesunderlock/Setting;") (f5 : Arv Z h0 vz kz (.object "com/example/tuples_under_lock/tuplesunderlock/Setting") (2 : Int32) [(.ref w0), (.ref w1)] .null) (f6 : Exa Z h0 w0 "com/example/tuples_under_lock/tuplesunderlock/Setting") (f7 : Exa Z h0 w1 "com/example/tuples_under_lock/tuplesunderlock/Setting") (f8 : Fld Z h0 w0 "java/lang/Enum" "ordinal" "I" (.int (0 : Int32))) (f9 : Fld Z h0 w1 "java/lang/Enum" "ordinal" "I" (.int (1 : Int32))) (f10 : Fld Z h0 w0 "com/example/tuples_under_lock/tuplesunderlock/Setting" "defaultValue" "I" (.int (0 : Int32))) (f11 : Fld Z h0 w1 "com/example/tuples_under_lock/tuplesunderlock/Setting" "defaultValue" "I" (.int (1000 : Int32))) :
    Go pgm e below s (Q0 n0) 8 24 T0 (mkF m 28 #[.val (.int i0), .val (.int i1), .val (.int i2), .val (.int i3), .val (.int i4), .val (.int i5), .val (.int i6), .unset, .unset, .unset, .unset] []) := by
  refine Go.step (T' := T0) (g' := (mkF m 30 #[.val (.int i0), .val (.int i1), .val (.int i2), .val (.int i3), .val (.int i4), .val (.int i5), .val (.int i6), .unset, .unset, .unset, .unset] [(.int i4)])) (fun _ k => XS.iload X0.here hx rfl (hb hby at_28) rfl  k) ?_
  refine Go.step (T' := T0) (g' := (mkF m 31 #[.val (.int i0), .val (.int i1), .val (.int i2), .val (.int i3), .val (.int i4), .val (.int i5), .val (.int i6), .unset, .unset, .unset, .unset] [(.int (4 : Int32)), (.int i4)])) (fun _ k => XS.iconst X0.here hx rfl (hb hby at_30) k) ?_
  refine Go.step (T' := T0) (g' := (mkF m 32 #[.val (.int i0), .val (.int i1), .val (.int i2), .val (.int i3), .val (.int i4), .val (.int i5), .val (.int i6), .unset, .unset, .unset, .unset] [(.int (i4 &&& (4 : Int32)))])) (fun _ k => XS.iand X0.here hx rfl (hb hby at_31) rfl k) ?_
  by_cases hc101 : (i4 &&& (4 : Int32)) = (0 : Int32)
  · skip
    refine Go.step (T' := T0) (g' := (mkF m 39 #[.val (.int i0), .val (.int i1), .val (.int i2), .val (.int i3), .val (.int i4), .val (.int i5), .val (.int i6), .unset, .unset, .unset, .unset] [])) (fun _ k => XS.ifYes X0.here hx rfl (pc0 := 32) (pc' := 39) rfl (hb hby at_32) rfl ((if0 _ _).trans (teq hc101).1) (by decide) (by decide) k) ?_
    refine Go.step (T' := T0) (g' := (mkF m 40 #[.val (.int i0), .val (.int i1), .val (.int i2), .val (.int i3), .val (.int i4), .val (.int i5), .val (.int i6), .unset, .unset, .unset, .unset] [(.int (0 : Int32))])) (fun _ k => XS.iconst X0.here hx rfl (hb hby at_39) k) ?_
    refine Go.step (T' := T0) (g' := (mkF m 42 #[.val (.int i0), .val (.int i1), .val (.int i2), .val (.int i3), .val (.int i4), .val (.int i5), .val (.int i6), .val (.int (0 : Int32)), .unset, .unset, .unset] [])) (fun _ k => XS.istore X0.here hx rfl (hb hby at_40) rfl (l' := #[.val (.int i0), .val (.int i1), .val (.int i2), .val (.int i3), .val (.int i4), .val (.int i5), .val (.int i6), .val (.int (0 : Int32)), .unset, .unset, .unset]) rfl k) ?_
    exact own_s42 i0 i1 i2 i3 i4 i5 i6 (0 : Int32) vz w0 w1 kz X0 hx hZ hw hby hml hown hret hlk e0 N0 Z0 (by omega) (by omega) f0 f1 f2 f3 f4 f5 f6 f7 f8 f9 f10 f11
  · skip
    refine Go.step (T' := T0) (g' := (mkF m 35 #[.val (.int i0), .val (.int i1), .val (.int i2), .val (.int i3), .val (.int i4), .val (.int i5), .val (.int i6), .unset, .unset, .unset, .unset] [])) (fun _ k => XS.ifNo X0.here hx rfl (hb hby at_32) rfl ((if0 _ _).trans (feq hc101).1) k) ?_
    refine Go.step (T' := T0) (g' := (mkF m 36 #[.val (.int i0), .val (.int i1), .val (.int i2), .val (.int i3), .val (.int i4), .val (.int i5), .val (.int i6), .unset, .unset, .unset, .unset] [(.int (1 : Int32))])) (fun _ k => XS.iconst X0.here hx rfl (hb hby at_35) k) ?_
    refine Go.step (T' := T0) (g' := (mkF m 40 #[.val (.int i0), .val (.int i1), .val (.int i2), .val (.int i3), .val (.int i4), .val (.int i5), .val (.int i6), .unset, .unset, .unset, .unset] [(.int (1 : Int32))])) (fun _ k => XS.goto X0.here hx rfl (pc0 := 36) (pc' := 40) rfl (hb hby at_36) (by decide) (by decide) k) ?_
    refine Go.step (T' := T0) (g' := (mkF m 42 #[.val (.int i0), .val (.int i1), .val (.int i2), .val (.int i3), .val (.int i4), .val (.int i5), .val (.int i6), .val (.int (1 : Int32)), .unset, .unset, .unset] [])) (fun _ k => XS.istore X0.here hx rfl (hb hby at_40) rfl (l' := #[.val (.int i0), .val (.int i1), .val (.int i2), .val (.int i3), .val (.int i4), .val (.int i5), .val (.int i6), .val (.int (1 : Int32)), .unset, .unset, .unset]) rfl k) ?_
    exact own_s42 i0 i1 i2 i3 i4 i5 i6 (1 : Int32) vz w0 w1 kz X0 hx hZ hw hby hml hown hret hlk e0 N0 Z0 (by omega) (by omega) f0 f1 f2 f3 f4 f5 f6 f7 f8 f9 f10 f11
set_option maxRecDepth 65536 in
set_option maxHeartbeats 40000000 in
theorem own_s14 {pgm : Program} {l : Launch} {e : Env} {s : State} {m : MethodId} {args : Array Value} {below : List Frame} {meth : Method} {c : Code} {T0 : State} {locs : List Loc} {cells slots : Nat} {Z : State} {a0 : Array Value} {h0 : Heap} {n0 : Nat} (i0 : Int32) (i1 : Int32) (i2 : Int32) (i3 : Int32) (i4 : Int32) (i5 : Int32) (vz : Addr) (w0 : Addr) (w1 : Addr) (kz : ClassId)
    (X0 : Stand pgm l e room_1 s m args below meth c T0 locs cells slots) (hx : pgm.tables.exec = Jvm.exec) (hZ : Z.Warmed39 s.vm) (hw : ∀ d ∈ tables_1, d.before a0 Z = true) (hby : c.code = code) (hml : c.maxLocals = maxLocals) (hown : s.vm.findClass "com/example/tuples_under_lock/tuplesunderlock/SettingsBeginBlockPinLaw" = some m.cls) (hret : meth.sig.returnType = ret) (hlk : meth.locks = false) (e0 : T0.heap = h0) (N0 : Fr n0 locs) (Z0 : n0 ≤ h0.size) (hcells : cells ≤ 0) (hslots : slots ≤ 0) (f0 : Sta Z h0 "com/example/tuples_under_lock/tuplesunderlock/Setting" "$VALUES" "[Lcom/example/tuples_under_lock/tuplesunderlock/Setting;" (.ref vz)) (f1 : Sta Z h0 "com/example/tuples_under_lock/tuplesunderlock/Setting" "LOCK_TIMEOUT" "Lcom/example/tuples_under_lock/tuplesunderlock/Setting;" (.ref w0)) (f2 : Sta Z h0 "com/example/tuples_under_lock/tuplesunderlock/Setting" "DEADLOCK_TIMEOUT" "Lcom/example/tuples_under_lock/tuplesunderlock/Setting;" (.ref w1)) (f3 : Sta Z h0 "com/example/tuples_under_lock/tuplesunderlock/Settings" "COUNT" "I" (.int (2 : Int32))) (f4 : Exa Z h0 vz "[Lcom/example/tuples_under_lock/tuplesunderlock/Setting;") (f5 : Arv Z h0 vz kz (.object "com/example/tuples_under_lock/tuplesunderlock/Setting") (2 : Int32) [(.ref w0), (.ref w1)] .null) (f6 : Exa Z h0 w0 "com/example/tuples_under_lock/tuplesunderlock/Setting") (f7 : Exa Z h0 w1 "com/example/tuples_under_lock/tuplesunderlock/Setting") (f8 : Fld Z h0 w0 "java/lang/Enum" "ordinal" "I" (.int (0 : Int32))) (f9 : Fld Z h0 w1 "java/lang/Enum" "ordinal" "I" (.int (1 : Int32))) (f10 : Fld Z h0 w0 "com/example/tuples_under_lock/tuplesunderlock/Setting" "defaultValue" "I" (.int (0 : Int32))) (f11 : Fld Z h0 w1 "com/example/tuples_under_lock/tuplesunderlock/Setting" "defaultValue" "I" (.int (1000 : Int32))) :
    Go pgm e below s (Q0 n0) 8 24 T0 (mkF m 14 #[.val (.int i0), .val (.int i1), .val (.int i2), .val (.int i3), .val (.int i4), .val (.int i5), .unset, .unset, .unset, .unset, .unset] []) := by
  refine Go.step (T' := T0) (g' := (mkF m 16 #[.val (.int i0), .val (.int i1), .val (.int i2), .val (.int i3), .val (.int i4), .val (.int i5), .unset, .unset, .unset, .unset, .unset] [(.int i4)])) (fun _ k => XS.iload X0.here hx rfl (hb hby at_14) rfl  k) ?_
  refine Go.step (T' := T0) (g' := (mkF m 17 #[.val (.int i0), .val (.int i1), .val (.int i2), .val (.int i3), .val (.int i4), .val (.int i5), .unset, .unset, .unset, .unset, .unset] [(.int (2 : Int32)), (.int i4)])) (fun _ k => XS.iconst X0.here hx rfl (hb hby at_16) k) ?_
  refine Go.step (T' := T0) (g' := (mkF m 18 #[.val (.int i0), .val (.int i1), .val (.int i2), .val (.int i3), .val (.int i4), .val (.int i5), .unset, .unset, .unset, .unset, .unset] [(.int (i4 &&& (2 : Int32)))])) (fun _ k => XS.iand X0.here hx rfl (hb hby at_17) rfl k) ?_
  by_cases hc101 : (i4 &&& (2 : Int32)) = (0 : Int32)
  · skip
    refine Go.step (T' := T0) (g' := (mkF m 25 #[.val (.int i0), .val (.int i1), .val (.int i2), .val (.int i3), .val (.int i4), .val (.int i5), .unset, .unset, .unset, .unset, .unset] [])) (fun _ k => XS.ifYes X0.here hx rfl (pc0 := 18) (pc' := 25) rfl (hb hby at_18) rfl ((if0 _ _).trans (teq hc101).1) (by decide) (by decide) k) ?_
    refine Go.step (T' := T0) (g' := (mkF m 26 #[.val (.int i0), .val (.int i1), .val (.int i2), .val (.int i3), .val (.int i4), .val (.int i5), .unset, .unset, .unset, .unset, .unset] [(.int (0 : Int32))])) (fun _ k => XS.iconst X0.here hx rfl (hb hby at_25) k) ?_
    refine Go.step (T' := T0) (g' := (mkF m 28 #[.val (.int i0), .val (.int i1), .val (.int i2), .val (.int i3), .val (.int i4), .val (.int i5), .val (.int (0 : Int32)), .unset, .unset, .unset, .unset] [])) (fun _ k => XS.istore X0.here hx rfl (hb hby at_26) rfl (l' := #[.val (.int i0), .val (.int i1), .val (.int i2), .val (.int i3), .val (.int i4), .val (.int i5), .val (.int (0 : Int32)), .unset, .unset, .unset, .unset]) rfl k) ?_
    exact own_s28 i0 i1 i2 i3 i4 i5 (0 : Int32) vz w0 w1 kz X0 hx hZ hw hby hml hown hret hlk e0 N0 Z0 (by omega) (by omega) f0 f1 f2 f3 f4 f5 f6 f7 f8 f9 f10 f11
  · skip
    refine Go.step (T' := T0) (g' := (mkF m 21 #[.val (.int i0), .val (.int i1), .val (.int i2), .val (.int i3), .val (.int i4), .val (.int i5), .unset, .unset, .unset, .unset, .unset] [])) (fun _ k => XS.ifNo X0.here hx rfl (hb hby at_18) rfl ((if0 _ _).trans (feq hc101).1) k) ?_
    refine Go.step (T' := T0) (g' := (mkF m 22 #[.val (.int i0), .val (.int i1), .val (.int i2), .val (.int i3), .val (.int i4), .val (.int i5), .unset, .unset, .unset, .unset, .unset] [(.int (1 : Int32))])) (fun _ k => XS.iconst X0.here hx rfl (hb hby at_21) k) ?_
    refine Go.step (T' := T0) (g' := (mkF m 26 #[.val (.int i0), .val (.int i1), .val (.int i2), .val (.int i3), .val (.int i4), .val (.int i5), .unset, .unset, .unset, .unset, .unset] [(.int (1 : Int32))])) (fun _ k => XS.goto X0.here hx rfl (pc0 := 22) (pc' := 26) rfl (hb hby at_22) (by decide) (by decide) k) ?_
    refine Go.step (T' := T0) (g' := (mkF m 28 #[.val (.int i0), .val (.int i1), .val (.int i2), .val (.int i3), .val (.int i4), .val (.int i5), .val (.int (1 : Int32)), .unset, .unset, .unset, .unset] [])) (fun _ k => XS.istore X0.here hx rfl (hb hby at_26) rfl (l' := #[.val (.int i0), .val (.int i1), .val (.int i2), .val (.int i3), .val (.int i4), .val (.int i5), .val (.int (1 : Int32)), .unset, .unset, .unset, .unset]) rfl k) ?_
    exact own_s28 i0 i1 i2 i3 i4 i5 (1 : Int32) vz w0 w1 kz X0 hx hZ hw hby hml hown hret hlk e0 N0 Z0 (by omega) (by omega) f0 f1 f2 f3 f4 f5 f6 f7 f8 f9 f10 f11
theorem own_ef_code_IIIII (m : MethodId) (x0 : Int32) (x1 : Int32) (x2 : Int32) (x3 : Int32) (x4 : Int32) : entryFrame m #[(.int x0), (.int x1), (.int x2), (.int x3), (.int x4)] maxLocals = mkF m 0 #[.val (.int x0), .val (.int x1), .val (.int x2), .val (.int x3), .val (.int x4), .unset, .unset, .unset, .unset, .unset, .unset] [] := by first | (simp [entryFrame, mkF, argsToLocals, Value.category, maxLocals]; done) | rfl | (simp [entryFrame, mkF, argsToLocals, own_cI, own_cJ, own_cR, own_cN, maxLocals]; done)
theorem own_pn_SettingsBeginBlockPinLaw : plainName "com/example/tuples_under_lock/tuplesunderlock/SettingsBeginBlockPinLaw" = true := by first | (simp [plainName, overriddenIn]; done) | decide +kernel
set_option maxRecDepth 65536 in
set_option maxHeartbeats 40000000 in
theorem rm0 (l : Launch) (Z : State) (a0 : Array Value) (hw : ∀ d ∈ tables_1, d.before a0 Z = true) (ws : List Jvm.Cond) (i0 i1 i2 i3 i4 : Int32) (vz w0 w1 : Addr) (kz : ClassId) (h0 : Heap) (n0 : Nat) (Z0 : n0 ≤ h0.size) (f0 : Sta Z h0 "com/example/tuples_under_lock/tuplesunderlock/Setting" "$VALUES" "[Lcom/example/tuples_under_lock/tuplesunderlock/Setting;" (.ref vz)) (f1 : Sta Z h0 "com/example/tuples_under_lock/tuplesunderlock/Setting" "LOCK_TIMEOUT" "Lcom/example/tuples_under_lock/tuplesunderlock/Setting;" (.ref w0)) (f2 : Sta Z h0 "com/example/tuples_under_lock/tuplesunderlock/Setting" "DEADLOCK_TIMEOUT" "Lcom/example/tuples_under_lock/tuplesunderlock/Setting;" (.ref w1)) (f3 : Sta Z h0 "com/example/tuples_under_lock/tuplesunderlock/Settings" "COUNT" "I" (.int (2 : Int32))) (f4 : Exa Z h0 vz "[Lcom/example/tuples_under_lock/tuplesunderlock/Setting;") (f5 : Arv Z h0 vz kz (.object "com/example/tuples_under_lock/tuplesunderlock/Setting") (2 : Int32) [(.ref w0), (.ref w1)] .null) (f6 : Exa Z h0 w0 "com/example/tuples_under_lock/tuplesunderlock/Setting") (f7 : Exa Z h0 w1 "com/example/tuples_under_lock/tuplesunderlock/Setting") (f8 : Fld Z h0 w0 "java/lang/Enum" "ordinal" "I" (.int (0 : Int32))) (f9 : Fld Z h0 w1 "java/lang/Enum" "ordinal" "I" (.int (1 : Int32))) (f10 : Fld Z h0 w0 "com/example/tuples_under_lock/tuplesunderlock/Setting" "defaultValue" "I" (.int (0 : Int32))) (f11 : Fld Z h0 w1 "com/example/tuples_under_lock/tuplesunderlock/Setting" "defaultValue" "I" (.int (1000 : Int32))) :
    Con l Z x code maxLocals ret room_1 ws #[(.int i0), (.int i1), (.int i2), (.int i3), (.int i4)] h0 (Q0 n0) 8 24 := by
  refine Con.of (plainFor_of_name own_pn_SettingsBeginBlockPinLaw) ?_
  intro pgm e s m below meth c s₁ X0 hx hZ hby hml hown hnm hret hlk e0 hs0
  have N0 := Fr.nil n0
  have hown : s.vm.findClass "com/example/tuples_under_lock/tuplesunderlock/SettingsBeginBlockPinLaw" = some m.cls := hown
  have hnm : meth.name = "law" := hnm
  refine Go.cast (own_ef_code_IIIII m i0 i1 i2 i3 i4) ?_
  refine Go.step (T' := s₁) (g' := (mkF m 2 #[.val (.int i0), .val (.int i1), .val (.int i2), .val (.int i3), .val (.int i4), .unset, .unset, .unset, .unset, .unset, .unset] [(.int i4)])) (fun _ k => XS.iload X0.here hx rfl (hb hby at_0) rfl  k) ?_
  refine Go.step (T' := s₁) (g' := (mkF m 3 #[.val (.int i0), .val (.int i1), .val (.int i2), .val (.int i3), .val (.int i4), .unset, .unset, .unset, .unset, .unset, .unset] [(.int (1 : Int32)), (.int i4)])) (fun _ k => XS.iconst X0.here hx rfl (hb hby at_2) k) ?_
  refine Go.step (T' := s₁) (g' := (mkF m 4 #[.val (.int i0), .val (.int i1), .val (.int i2), .val (.int i3), .val (.int i4), .unset, .unset, .unset, .unset, .unset, .unset] [(.int (i4 &&& (1 : Int32)))])) (fun _ k => XS.iand X0.here hx rfl (hb hby at_3) rfl k) ?_
  by_cases hc101 : (i4 &&& (1 : Int32)) = (0 : Int32)
  · skip
    refine Go.step (T' := s₁) (g' := (mkF m 11 #[.val (.int i0), .val (.int i1), .val (.int i2), .val (.int i3), .val (.int i4), .unset, .unset, .unset, .unset, .unset, .unset] [])) (fun _ k => XS.ifYes X0.here hx rfl (pc0 := 4) (pc' := 11) rfl (hb hby at_4) rfl ((if0 _ _).trans (teq hc101).1) (by decide) (by decide) k) ?_
    refine Go.step (T' := s₁) (g' := (mkF m 12 #[.val (.int i0), .val (.int i1), .val (.int i2), .val (.int i3), .val (.int i4), .unset, .unset, .unset, .unset, .unset, .unset] [(.int (0 : Int32))])) (fun _ k => XS.iconst X0.here hx rfl (hb hby at_11) k) ?_
    refine Go.step (T' := s₁) (g' := (mkF m 14 #[.val (.int i0), .val (.int i1), .val (.int i2), .val (.int i3), .val (.int i4), .val (.int (0 : Int32)), .unset, .unset, .unset, .unset, .unset] [])) (fun _ k => XS.istore X0.here hx rfl (hb hby at_12) rfl (l' := #[.val (.int i0), .val (.int i1), .val (.int i2), .val (.int i3), .val (.int i4), .val (.int (0 : Int32)), .unset, .unset, .unset, .unset, .unset]) rfl k) ?_
    exact own_s14 i0 i1 i2 i3 i4 (0 : Int32) vz w0 w1 kz X0 hx hZ hw hby hml hown hret hlk e0 N0 Z0 (by decide) (by decide) f0 f1 f2 f3 f4 f5 f6 f7 f8 f9 f10 f11
  · skip
    refine Go.step (T' := s₁) (g' := (mkF m 7 #[.val (.int i0), .val (.int i1), .val (.int i2), .val (.int i3), .val (.int i4), .unset, .unset, .unset, .unset, .unset, .unset] [])) (fun _ k => XS.ifNo X0.here hx rfl (hb hby at_4) rfl ((if0 _ _).trans (feq hc101).1) k) ?_
    refine Go.step (T' := s₁) (g' := (mkF m 8 #[.val (.int i0), .val (.int i1), .val (.int i2), .val (.int i3), .val (.int i4), .unset, .unset, .unset, .unset, .unset, .unset] [(.int (1 : Int32))])) (fun _ k => XS.iconst X0.here hx rfl (hb hby at_7) k) ?_
    refine Go.step (T' := s₁) (g' := (mkF m 12 #[.val (.int i0), .val (.int i1), .val (.int i2), .val (.int i3), .val (.int i4), .unset, .unset, .unset, .unset, .unset, .unset] [(.int (1 : Int32))])) (fun _ k => XS.goto X0.here hx rfl (pc0 := 8) (pc' := 12) rfl (hb hby at_8) (by decide) (by decide) k) ?_
    refine Go.step (T' := s₁) (g' := (mkF m 14 #[.val (.int i0), .val (.int i1), .val (.int i2), .val (.int i3), .val (.int i4), .val (.int (1 : Int32)), .unset, .unset, .unset, .unset, .unset] [])) (fun _ k => XS.istore X0.here hx rfl (hb hby at_12) rfl (l' := #[.val (.int i0), .val (.int i1), .val (.int i2), .val (.int i3), .val (.int i4), .val (.int (1 : Int32)), .unset, .unset, .unset, .unset, .unset]) rfl k) ?_
    exact own_s14 i0 i1 i2 i3 i4 (1 : Int32) vz w0 w1 kz X0 hx hZ hw hby hml hown hret hlk e0 N0 Z0 (by decide) (by decide) f0 f1 f2 f3 f4 f5 f6 f7 f8 f9 f10 f11
theorem own_eqR {Z : State} {args : Array Value} {t u : Term} {y : Addr} (hu : u.eval args Z none [] Z = some (.ref y)) (q : (Jvm.Cond.eq t u).value args Z none Z [] = some true) : t.eval args Z none [] Z = some (.ref y) := by
  obtain ⟨x, y', hx, hy, kin, kin'⟩ := cmp_v (Or.inl q)
  cases hu.symm.trans hy
  have k1 : x.isRef = true := kin'.2
  rw [hx, gotT (eq_R hx hu k1 rfl) q]
set_option maxRecDepth 65536 in
set_option maxHeartbeats 40000000 in
theorem comes_1 {Post : Tables → Env → Array Value → State → Outcome → State → Prop} (hpost : ∀ tb e args s v u, (limb_1_1.after args s (.returned v) u = true ∧ limb_1_2.after args s (.returned v) u = true ∧ True) → FrameEnd s (.returned v) u (Jvm.fieldLocs frame_1_writes args s ++ Jvm.arrayLocs frame_1_arrays args s ++ Jvm.staticLocs frame_1_statics s) 24 128 → Post tb e args s (.returned v) u) :
    ArmFor flags0 classFile x code maxLocals ret World_1 tables_1 room_1 Calls_1 rest_1 Pre_1 Post := by
  intro l hfl _ _ p e ha hc hk s m args below hf hA hF happ hP
  obtain ⟨hcalls, hrest, hpre⟩ := hP
  obtain ⟨-, -, -, hnamed, -, -, -, hat⟩ := (Spec.applies_iff hf).mp happ
  obtain ⟨hg, hn⟩ := and_e (Cond.before_iff.mp (show (Jvm.Cond.and given_1 narrow_1).before args s = true from hpre))
  obtain ⟨g0a, g0b⟩ := and_e hg
  obtain ⟨g1a, g1b⟩ := and_e g0b
  obtain ⟨g2a, g2b⟩ := and_e g1b
  obtain ⟨g3a, g3b⟩ := and_e g2b
  obtain ⟨g4a, g4b⟩ := and_e g3b
  obtain ⟨vw0, vw1, vw2, vw3, vw4, rfl⟩ : ∃ vw0 vw1 vw2 vw3 vw4 : Value, args = #[vw0, vw1, vw2, vw3, vw4] := by
    have hs : args.size = 5 := by simpa [Cond.value, given_1] using g0a
    obtain ⟨L⟩ := args
    match L, hs with
    | [vw0, vw1, vw2, vw3, vw4], _ => exact ⟨vw0, vw1, vw2, vw3, vw4, rfl⟩
  have hw := fun d (hd : d ∈ tables_1) => atoms_spec (ws := Jvm.Cond.code x code maxLocals ret :: tables_1) hat d (List.mem_cons_of_mem _ hd)
  have hfit : Fit s := fun {y c} hc i hi => by
    obtain ⟨ha, rfl⟩ := Array.getElem?_eq_some_iff.mp hc
    have q := List.all_eq_true.mp ((Array.all_eq_true_iff_forall_mem.mp hF) _ (Array.getElem_mem ha)) i (List.mem_range.mpr hi)
    simpa [Array.getElem?_eq_getElem hi] using q
  obtain ⟨i0, ei0⟩ := is_v g1a
  obtain rfl : vw0 = (.int i0) := Option.some.inj ei0
  obtain ⟨i1, ei1⟩ := is_v g2a
  obtain rfl : vw1 = (.int i1) := Option.some.inj ei1
  obtain ⟨i2, ei2⟩ := is_v g3a
  obtain rfl : vw2 = (.int i2) := Option.some.inj ei2
  obtain ⟨i3, ei3⟩ := is_v g4a
  obtain rfl : vw3 = (.int i3) := Option.some.inj ei3
  obtain ⟨i4, ei4⟩ := is_v g4b
  obtain rfl : vw4 = (.int i4) := Option.some.inj ei4
  obtain ⟨m0a, m0b⟩ := and_e hn
  obtain ⟨m1a, m1b⟩ := and_e m0b
  obtain ⟨m2a, m2b⟩ := and_e m1b
  obtain ⟨m3a, m3b⟩ := and_e m2b
  obtain ⟨m4a, m4b⟩ := and_e m3b
  obtain ⟨m5a, m5b⟩ := and_e m4b
  obtain ⟨m6a, m6b⟩ := and_e m5b
  obtain ⟨m7a, m7b⟩ := and_e m6b
  obtain ⟨m8a, m8b⟩ := and_e m7b
  obtain ⟨m9a, m9b⟩ := and_e m8b
  obtain ⟨m10a, m10b⟩ := and_e m9b
  have evn := own_eqI m0a
  have Sn := Sta.start evn (Or.inr ⟨(hw _ (List.mem_of_getElem? (i := 2) rfl)), (hw _ (List.mem_of_getElem? (i := 10) rfl))⟩)
  obtain ⟨w0, ev0⟩ := exa_v m4a
  have S0 := Sta.start ev0 (Or.inr ⟨(hw _ (List.mem_of_getElem? (i := 23) rfl)), (hw _ (List.mem_of_getElem? (i := 34) rfl))⟩)
  have E0 := Exa.start ev0 m4a
  have O0 := Fld.start ((fld_at ev0).symm.trans (own_eqI m9a))
  have D0 := Fld.start ((fld_at ev0).symm.trans (own_eqI m8a))
  obtain ⟨w1, ev1⟩ := exa_v m6a
  have S1 := Sta.start ev1 (Or.inr ⟨(hw _ (List.mem_of_getElem? (i := 23) rfl)), (hw _ (List.mem_of_getElem? (i := 35) rfl))⟩)
  have E1 := Exa.start ev1 m6a
  have O1 := Fld.start ((fld_at ev1).symm.trans (own_eqI m10b))
  have D1 := Fld.start ((fld_at ev1).symm.trans (own_eqI m10a))
  obtain ⟨vz, evz⟩ := arr_v m1a
  have Sz := Sta.start evz (Or.inr ⟨(hw _ (List.mem_of_getElem? (i := 23) rfl)), (hw _ (List.mem_of_getElem? (i := 26) rfl))⟩)
  have Ez := Exa.start evz m2a
  obtain ⟨cz, Az⟩ := Arr.start evz m1a
  have lz := own_len evz Az (own_eqI m3a)
  have q0 := (elem_in (own_eqR ev0 m5a) evz (Term.int_eval (0)) Az.1).2
  have q1 := (elem_in (own_eqR ev1 m7a) evz (Term.int_eval (1)) Az.1).2
  have Vz : Arv s s.heap vz cz.cls (.object "com/example/tuples_under_lock/tuplesunderlock/Setting") 2 [.ref w0, .ref w1] .null := Arv.start hfit Az lz.1 lz.2 (by decide) (by show _ = 2; decide) ⟨q0, q1, trivial⟩
  obtain ⟨n, o, h1, h2, h3, _, L, rfl, ⟨rfl, N⟩, hq⟩ := rm0 l s _ hw tables_1 i0 i1 i2 i3 i4 vz w0 w1 _ s.heap s.heap.size (Nat.le_refl _) Sz S0 S1 Sn Ez Vz E0 E1 O0 O1 D0 D1 p e ha hc hk s m _ below hf ((Spec.applies_iff_loose hf).mp happ).1 ⟨rfl, State.Warmed39.refl s, rfl⟩ trivial
  refine ⟨n, _, h1, h2, h3, hpost _ _ _ _ _ _ ⟨Cond.after_iff.mpr rfl, Cond.after_iff.mpr (eq_i res_at (Term.int_eval (1)) rfl), trivial⟩ ⟨hq.1, hq.2.1, (hq.2.2.sift fun y hy => Or.inr (N y hy)).mono (by decide) (by decide)⟩⟩
theorem main_1_1 : Claimed_1_1 := comes_1 fun _ _ _ _ _ _ h hF => ⟨h.1, hF⟩
theorem main_1_2 : Claimed_1_2 := comes_1 fun _ _ _ _ _ _ h hF => ⟨h.2.1, hF⟩
end Jvm.Pilot.@@N@@
namespace Jvm.Pilot.@@N@@
open Jvm Jvm.ClassFile Sem Op Lib Jvm.Free Jvm.Stand Jvm.Pilot.@@N@@.Jvm.D
/-! MADE BY PROGRAM (witnessworld.py) out of the Statement's table words and the real class files: 15 classes; the members and pool entries that the words name. The judged class is class 1, her method 1. -/
namespace start1
open Jvm.ClassFile
def u (s : String) : CpInfo := .utf8 (stringToUtf16 s)
/-- a pool by its gaps: so many unusable entries, then the entry; so many at the end -/
def gap : Nat → List CpInfo → List CpInfo
  | 0, r => r
  | n + 1, r => .unusable :: gap n r
def poolList (es : List (Nat × CpInfo)) (last : Nat) : List CpInfo := es.foldr (fun e r => gap e.1 (e.2 :: r)) (gap last [])
def pool (es : List (Nat × CpInfo)) (last : Nat) : Array CpInfo := ⟨poolList es last⟩
def fileOf (pool : Array CpInfo) (this : Nat) (attrs : Array Attribute := #[]) (ms : Array MethodInfo := #[]) (fl : Nat := 33) (sup : Nat := 0) (ifs : Array Nat := #[]) (fds : Array FieldInfo := #[]) : ClassFile where
  minorVersion := 0
  majorVersion := 65
  constantPool := pool
  accessFlags := fl
  thisClass := this
  superClass := sup
  interfaces := ifs
  fields := fds
  methods := ms
  attributes := attrs
def plain (name : String) (sup : Option ClassId) : Class where
  name := name
  kind := .ordinary
  loader := none
  accessFlags := 33
  super := sup
  interfaces := #[]
  cf := none
  fields := #[]
  methods := #[]
  instanceTypes := #[]
  staticTypes := #[]
  resolved := #[]
  callSites := []
  init := .initialized
  statics := none
  mirror := none

def pool0 : Array CpInfo := pool [(5, u "<init>"), (0, u "()V"), (1, .class_ 10), (1, u "java/lang/Object"), (85, u "clone"), (0, u "()Ljava/lang/Object;")] 26

def k0c0 : Code := { maxStack := 0, maxLocals := 1, code := object_method_1_code, exceptionTable := #[], attributes := #[] }
def k0m0 : Method := { name := "<init>", desc := "()V", sig := { parameters := [], returnType := none }, accessFlags := 1, code := some k0c0 }
def k0m1 : Method := { name := "clone", desc := "()Ljava/lang/Object;", sig := { parameters := [], returnType := some (.object "java/lang/Object") }, accessFlags := 260, code := none }
/-- java/lang/Object -/
def k0 : Class := { plain "java/lang/Object" none with
  accessFlags := 33
  interfaces := #[]
  cf := some (fileOf pool0 8 #[] #[{ accessFlags := 1, nameIndex := 5, descriptorIndex := 6, attributes := #[] }, { accessFlags := 260, nameIndex := 96, descriptorIndex := 97, attributes := #[] }] 33 0 #[] #[])
  fields := #[]
  methods := #[k0m0, k0m1]
  instanceTypes := #[]
  staticTypes := #[]
  resolved := Array.replicate 124 none
  statics := none }

def pool1 : Array CpInfo := pool [(2, .class_ 4), (0, .nameAndType 5 6), (0, u "java/lang/Object"), (0, u "<init>"), (0, u "()V"), (0, .class_ 8), (0, u "com/example/tuples_under_lock/tuplesunderlock/Settings"), (0, .methodref 7 3), (0, .fieldref 11 12), (0, .class_ 13), (0, .nameAndType 14 15), (0, u "com/example/tuples_under_lock/tuplesunderlock/Setting"), (0, u "LOCK_TIMEOUT"), (0, u "Lcom/example/tuples_under_lock/tuplesunderlock/Setting;"), (0, .methodref 7 17), (0, .nameAndType 18 19), (0, u "set"), (0, u "(Lcom/example/tuples_under_lock/tuplesunderlock/Setting;I)V"), (0, .fieldref 11 21), (0, .nameAndType 22 15), (0, u "DEADLOCK_TIMEOUT"), (0, .methodref 7 24), (0, .nameAndType 25 6), (0, u "beginBlock"), (0, .methodref 7 27), (0, .nameAndType 28 19), (0, u "setLocal"), (0, .methodref 7 30), (0, .nameAndType 31 32), (0, u "endBlock"), (0, u "(Z)V"), (0, .methodref 7 34), (0, .nameAndType 35 36), (0, u "get"), (0, u "(Lcom/example/tuples_under_lock/tuplesunderlock/Setting;)I"), (0, .class_ 38), (0, u "com/example/tuples_under_lock/tuplesunderlock/SettingsBeginBlockPinLaw"), (2, u "law"), (0, u "(IIIII)Z")] 3

def k1m0 : Method := { name := "<init>", desc := "()V", sig := { parameters := [], returnType := none }, accessFlags := 1, code := none }
def k1c1 : Code := { maxStack := 3, maxLocals := 11, code := code, exceptionTable := #[], attributes := #[] }
def k1m1 : Method := { name := "law", desc := "(IIIII)Z", sig := { parameters := [.int, .int, .int, .int, .int], returnType := some .boolean }, accessFlags := 9, code := some k1c1 }
/-- com/example/tuples_under_lock/tuplesunderlock/SettingsBeginBlockPinLaw -/
def k1 : Class := { plain "com/example/tuples_under_lock/tuplesunderlock/SettingsBeginBlockPinLaw" (some 0) with
  accessFlags := 49
  interfaces := #[]
  cf := some (fileOf pool1 37 #[] #[{ accessFlags := 1, nameIndex := 5, descriptorIndex := 6, attributes := #[] }, { accessFlags := 9, nameIndex := 41, descriptorIndex := 42, attributes := #[] }] 49 2 #[] #[])
  fields := #[]
  methods := #[k1m0, k1m1]
  instanceTypes := #[]
  staticTypes := #[]
  resolved := Array.replicate 46 none
  statics := none }

def pool2 : Array CpInfo := pool [(1, .methodref 2 3), (0, .class_ 4), (0, .nameAndType 5 6), (0, u "java/lang/Object"), (0, u "<init>"), (0, u "()V"), (0, .fieldref 8 9), (0, .class_ 10), (0, .nameAndType 11 12), (0, u "com/example/tuples_under_lock/tuplesunderlock/Settings"), (0, u "COUNT"), (0, u "I"), (0, .fieldref 8 14), (0, .nameAndType 15 16), (0, u "sessionValues"), (0, u "[I"), (0, .fieldref 8 18), (0, .nameAndType 19 16), (0, u "values"), (0, .methodref 8 21), (0, .nameAndType 22 6), (0, u "resetAll"), (0, .methodref 24 25), (0, .class_ 26), (0, .nameAndType 27 28), (0, u "com/example/tuples_under_lock/tuplesunderlock/Setting"), (0, u "ordinal"), (0, u "()I"), (0, .methodref 24 30), (0, .nameAndType 19 31), (0, u "()[Lcom/example/tuples_under_lock/tuplesunderlock/Setting;"), (0, .methodref 24 33), (0, .nameAndType 34 28), (0, u "defaultValue"), (0, .methodref 8 36), (0, .nameAndType 37 38), (0, u "set"), (0, u "(Lcom/example/tuples_under_lock/tuplesunderlock/Setting;I)V"), (0, .methodref 40 41), (0, .class_ 16), (0, .nameAndType 42 43), (0, u "clone"), (0, u "()Ljava/lang/Object;"), (0, .fieldref 8 45), (0, .nameAndType 46 16), (0, u "sessionValuesAtBegin"), (0, .methodref 48 49), (0, .class_ 50), (0, .nameAndType 51 52), (0, u "java/lang/System"), (0, u "arraycopy"), (0, u "(Ljava/lang/Object;ILjava/lang/Object;II)V"), (2, u "get"), (0, u "(Lcom/example/tuples_under_lock/tuplesunderlock/Setting;)I"), (0, u "setLocal"), (3, u "beginBlock"), (0, u "endBlock"), (0, u "(Z)V")] 3

def k2c0 : Code := { maxStack := 2, maxLocals := 1, code := prog_99_method_1_code, exceptionTable := #[], attributes := #[] }
def k2m0 : Method := { name := "<init>", desc := "()V", sig := { parameters := [], returnType := none }, accessFlags := 0, code := some k2c0 }
def k2c1 : Code := { maxStack := 2, maxLocals := 2, code := prog_99_method_2_code, exceptionTable := #[], attributes := #[] }
def k2m1 : Method := { name := "get", desc := "(Lcom/example/tuples_under_lock/tuplesunderlock/Setting;)I", sig := { parameters := [(.object "com/example/tuples_under_lock/tuplesunderlock/Setting")], returnType := some .int }, accessFlags := 0, code := some k2c1 }
def k2c2 : Code := { maxStack := 3, maxLocals := 3, code := prog_99_method_3_code, exceptionTable := #[], attributes := #[] }
def k2m2 : Method := { name := "set", desc := "(Lcom/example/tuples_under_lock/tuplesunderlock/Setting;I)V", sig := { parameters := [(.object "com/example/tuples_under_lock/tuplesunderlock/Setting"), .int], returnType := none }, accessFlags := 0, code := some k2c2 }
def k2c3 : Code := { maxStack := 3, maxLocals := 3, code := prog_99_method_4_code, exceptionTable := #[], attributes := #[] }
def k2m3 : Method := { name := "setLocal", desc := "(Lcom/example/tuples_under_lock/tuplesunderlock/Setting;I)V", sig := { parameters := [(.object "com/example/tuples_under_lock/tuplesunderlock/Setting"), .int], returnType := none }, accessFlags := 0, code := some k2c3 }
def k2c4 : Code := { maxStack := 3, maxLocals := 5, code := prog_99_method_5_code, exceptionTable := #[], attributes := #[] }
def k2m4 : Method := { name := "resetAll", desc := "()V", sig := { parameters := [], returnType := none }, accessFlags := 0, code := some k2c4 }
def k2c5 : Code := { maxStack := 2, maxLocals := 1, code := prog_99_method_6_code, exceptionTable := #[], attributes := #[] }
def k2m5 : Method := { name := "beginBlock", desc := "()V", sig := { parameters := [], returnType := none }, accessFlags := 0, code := some k2c5 }
def k2c6 : Code := { maxStack := 5, maxLocals := 2, code := prog_99_method_7_code, exceptionTable := #[], attributes := #[] }
def k2m6 : Method := { name := "endBlock", desc := "(Z)V", sig := { parameters := [.boolean], returnType := none }, accessFlags := 0, code := some k2c6 }
/-- com/example/tuples_under_lock/tuplesunderlock/Settings -/
def k2 : Class := { plain "com/example/tuples_under_lock/tuplesunderlock/Settings" (some 0) with
  accessFlags := 48
  interfaces := #[]
  cf := some (fileOf pool2 8 #[] #[{ accessFlags := 0, nameIndex := 5, descriptorIndex := 6, attributes := #[] }, { accessFlags := 0, nameIndex := 55, descriptorIndex := 56, attributes := #[] }, { accessFlags := 0, nameIndex := 37, descriptorIndex := 38, attributes := #[] }, { accessFlags := 0, nameIndex := 57, descriptorIndex := 38, attributes := #[] }, { accessFlags := 0, nameIndex := 22, descriptorIndex := 6, attributes := #[] }, { accessFlags := 0, nameIndex := 61, descriptorIndex := 6, attributes := #[] }, { accessFlags := 0, nameIndex := 62, descriptorIndex := 63, attributes := #[] }] 48 2 #[] #[{ accessFlags := 26, nameIndex := 11, descriptorIndex := 12, attributes := #[] }, { accessFlags := 18, nameIndex := 15, descriptorIndex := 16, attributes := #[] }, { accessFlags := 18, nameIndex := 19, descriptorIndex := 16, attributes := #[] }, { accessFlags := 2, nameIndex := 46, descriptorIndex := 16, attributes := #[] }])
  fields := #[{ name := "COUNT", type := .int, accessFlags := 26, slot := 0, constantValue := 0 }, { name := "sessionValues", type := (.array .int), accessFlags := 18, slot := 0, constantValue := 0 }, { name := "values", type := (.array .int), accessFlags := 18, slot := 1, constantValue := 0 }, { name := "sessionValuesAtBegin", type := (.array .int), accessFlags := 2, slot := 2, constantValue := 0 }]
  methods := #[k2m0, k2m1, k2m2, k2m3, k2m4, k2m5, k2m6]
  instanceTypes := #[(.array .int), (.array .int), (.array .int)]
  staticTypes := #[.int]
  resolved := Array.replicate 67 none
  statics := some 0 }

def pool3 : Array CpInfo := pool [(1, .class_ 2), (0, u "java/lang/constant/Constable"), (0, .class_ 4), (0, u "java/lang/Object")] 6

/-- java/lang/constant/Constable -/
def k3 : Class := { plain "java/lang/constant/Constable" (some 0) with
  accessFlags := 1537
  interfaces := #[]
  cf := some (fileOf pool3 1 #[] #[] 1537 3 #[] #[])
  fields := #[]
  methods := #[]
  instanceTypes := #[]
  staticTypes := #[]
  resolved := Array.replicate 11 none
  statics := none }

def pool4 : Array CpInfo := pool [(1, .class_ 2), (0, u "java/lang/Comparable"), (0, .class_ 4), (0, u "java/lang/Object")] 7

/-- java/lang/Comparable -/
def k4 : Class := { plain "java/lang/Comparable" (some 0) with
  accessFlags := 1537
  interfaces := #[]
  cf := some (fileOf pool4 1 #[] #[] 1537 3 #[] #[])
  fields := #[]
  methods := #[]
  instanceTypes := #[]
  staticTypes := #[]
  resolved := Array.replicate 12 none
  statics := none }

def pool5 : Array CpInfo := pool [(1, .class_ 2), (0, u "java/io/Serializable"), (0, .class_ 4), (0, u "java/lang/Object")] 2

/-- java/io/Serializable -/
def k5 : Class := { plain "java/io/Serializable" (some 0) with
  accessFlags := 1537
  interfaces := #[]
  cf := some (fileOf pool5 1 #[] #[] 1537 3 #[] #[])
  fields := #[]
  methods := #[]
  instanceTypes := #[]
  staticTypes := #[]
  resolved := Array.replicate 7 none
  statics := none }

def pool6 : Array CpInfo := pool [(2, .class_ 4), (1, u "java/lang/Enum"), (0, u "name"), (0, u "Ljava/lang/String;"), (0, .fieldref 2 8), (0, .nameAndType 9 10), (0, u "ordinal"), (0, u "I"), (1, .class_ 14), (1, u "java/lang/Object"), (4, u "hash"), (86, .class_ 108), (1, u "java/lang/Enum$EnumDesc"), (2, .class_ 112), (0, u "java/lang/constant/Constable"), (0, .class_ 114), (0, u "java/lang/Comparable"), (0, .class_ 116), (0, u "java/io/Serializable"), (9, u "()I")] 77

def k6c0 : Code := { maxStack := 1, maxLocals := 1, code := jdk_37_method_2_code, exceptionTable := #[], attributes := #[] }
def k6m0 : Method := { name := "ordinal", desc := "()I", sig := { parameters := [], returnType := some .int }, accessFlags := 17, code := some k6c0 }
/-- java/lang/Enum -/
def k6 : Class := { plain "java/lang/Enum" (some 0) with
  accessFlags := 1057
  interfaces := #[3, 4, 5]
  cf := some (fileOf pool6 2 #[.nestMembers #[106]] #[{ accessFlags := 17, nameIndex := 9, descriptorIndex := 126, attributes := #[] }] 1057 12 #[111, 113, 115] #[{ accessFlags := 18, nameIndex := 5, descriptorIndex := 6, attributes := #[] }, { accessFlags := 18, nameIndex := 9, descriptorIndex := 10, attributes := #[] }, { accessFlags := 2, nameIndex := 19, descriptorIndex := 10, attributes := #[] }])
  fields := #[{ name := "name", type := (.object "java/lang/String"), accessFlags := 18, slot := 0, constantValue := 0 }, { name := "ordinal", type := .int, accessFlags := 18, slot := 1, constantValue := 0 }, { name := "hash", type := .int, accessFlags := 2, slot := 2, constantValue := 0 }]
  methods := #[k6m0]
  instanceTypes := #[(.object "java/lang/String"), .int, .int]
  staticTypes := #[]
  resolved := Array.replicate 204 none
  statics := none }

def pool7 : Array CpInfo := pool [(1, .class_ 2), (0, u "com/example/tuples_under_lock/tuplesunderlock/Setting"), (2, u "LOCK_TIMEOUT"), (0, u "Lcom/example/tuples_under_lock/tuplesunderlock/Setting;"), (2, u "DEADLOCK_TIMEOUT"), (0, .fieldref 1 11), (0, .nameAndType 12 13), (0, u "$VALUES"), (0, u "[Lcom/example/tuples_under_lock/tuplesunderlock/Setting;"), (0, .methodref 15 16), (0, .class_ 13), (0, .nameAndType 17 18), (0, u "clone"), (0, u "()Ljava/lang/Object;"), (1, .class_ 22), (1, u "java/lang/Enum"), (8, u "sqlName"), (0, u "Ljava/lang/String;"), (0, .fieldref 1 34), (0, .nameAndType 35 36), (0, u "defaultValue"), (0, u "I"), (2, u "minimum"), (2, u "values"), (0, u "()[Lcom/example/tuples_under_lock/tuplesunderlock/Setting;"), (19, u "VALUE"), (0, u "Ljava/util/regex/Pattern;"), (26, .class_ 93), (1, u "com/example/tuples_under_lock/tuplesunderlock/Setting$Unit"), (12, u "()I"), (7, u "UNITS"), (0, u "Ljava/util/List;")] 92

def k7c0 : Code := { maxStack := 1, maxLocals := 0, code := prog_97_method_1_code, exceptionTable := #[], attributes := #[] }
def k7m0 : Method := { name := "values", desc := "()[Lcom/example/tuples_under_lock/tuplesunderlock/Setting;", sig := { parameters := [], returnType := some (.array (.object "com/example/tuples_under_lock/tuplesunderlock/Setting")) }, accessFlags := 9, code := some k7c0 }
def k7c1 : Code := { maxStack := 1, maxLocals := 1, code := prog_97_method_6_code, exceptionTable := #[], attributes := #[] }
def k7m1 : Method := { name := "defaultValue", desc := "()I", sig := { parameters := [], returnType := some .int }, accessFlags := 0, code := some k7c1 }
/-- com/example/tuples_under_lock/tuplesunderlock/Setting -/
def k7 : Class := { plain "com/example/tuples_under_lock/tuplesunderlock/Setting" (some 6) with
  accessFlags := 16432
  interfaces := #[]
  cf := some (fileOf pool7 1 #[.nestMembers #[91]] #[{ accessFlags := 9, nameIndex := 42, descriptorIndex := 43, attributes := #[] }, { accessFlags := 0, nameIndex := 35, descriptorIndex := 106, attributes := #[] }] 16432 20 #[] #[{ accessFlags := 16409, nameIndex := 5, descriptorIndex := 6, attributes := #[] }, { accessFlags := 16409, nameIndex := 9, descriptorIndex := 6, attributes := #[] }, { accessFlags := 26, nameIndex := 63, descriptorIndex := 64, attributes := #[] }, { accessFlags := 26, nameIndex := 114, descriptorIndex := 115, attributes := #[] }, { accessFlags := 18, nameIndex := 31, descriptorIndex := 32, attributes := #[] }, { accessFlags := 18, nameIndex := 35, descriptorIndex := 36, attributes := #[] }, { accessFlags := 18, nameIndex := 39, descriptorIndex := 36, attributes := #[] }, { accessFlags := 4122, nameIndex := 12, descriptorIndex := 13, attributes := #[] }])
  fields := #[{ name := "LOCK_TIMEOUT", type := (.object "com/example/tuples_under_lock/tuplesunderlock/Setting"), accessFlags := 16409, slot := 0, constantValue := 0 }, { name := "DEADLOCK_TIMEOUT", type := (.object "com/example/tuples_under_lock/tuplesunderlock/Setting"), accessFlags := 16409, slot := 1, constantValue := 0 }, { name := "VALUE", type := (.object "java/util/regex/Pattern"), accessFlags := 26, slot := 2, constantValue := 0 }, { name := "UNITS", type := (.object "java/util/List"), accessFlags := 26, slot := 3, constantValue := 0 }, { name := "sqlName", type := (.object "java/lang/String"), accessFlags := 18, slot := 3, constantValue := 0 }, { name := "defaultValue", type := .int, accessFlags := 18, slot := 4, constantValue := 0 }, { name := "minimum", type := .int, accessFlags := 18, slot := 5, constantValue := 0 }, { name := "$VALUES", type := (.array (.object "com/example/tuples_under_lock/tuplesunderlock/Setting")), accessFlags := 4122, slot := 4, constantValue := 0 }]
  methods := #[k7m0, k7m1]
  instanceTypes := #[(.object "java/lang/String"), .int, .int, (.object "java/lang/String"), .int, .int]
  staticTypes := #[(.object "com/example/tuples_under_lock/tuplesunderlock/Setting"), (.object "com/example/tuples_under_lock/tuplesunderlock/Setting"), (.object "java/util/regex/Pattern"), (.object "java/util/List"), (.array (.object "com/example/tuples_under_lock/tuplesunderlock/Setting"))]
  resolved := Array.replicate 208 none
  statics := some 1 }

def pool8 : Array CpInfo := pool [(1, .class_ 2), (0, u "java/lang/Cloneable"), (0, .class_ 4), (0, u "java/lang/Object")] 2

/-- java/lang/Cloneable -/
def k8 : Class := { plain "java/lang/Cloneable" (some 0) with
  accessFlags := 1537
  interfaces := #[]
  cf := some (fileOf pool8 1 #[] #[] 1537 3 #[] #[])
  fields := #[]
  methods := #[]
  instanceTypes := #[]
  staticTypes := #[]
  resolved := Array.replicate 7 none
  statics := none }

def pool9 : Array CpInfo := pool [(2, .class_ 4), (1, u "java/lang/Object"), (0, u "<init>"), (0, u "()V"), (1, .class_ 10), (1, u "java/lang/System"), (0, u "allowSecurityManager"), (0, u "I"), (16, u "cons"), (0, u "Ljava/io/Console;"), (77, .class_ 110), (1, u "java/lang/System$CallersHolder"), (43, u "initialErrStream"), (0, u "Ljava/io/PrintStream;"), (19, u "security"), (0, u "Ljava/lang/SecurityManager;"), (31, .class_ 209), (0, u "java/lang/System$1"), (7, u "props"), (0, u "Ljava/util/Properties;"), (2, u "lineSeparator"), (0, u "Ljava/lang/String;"), (96, .class_ 321), (1, u "java/lang/System$LoggerFinder"), (5, .class_ 328), (0, u "java/lang/System$Logger"), (67, u "err"), (2, u "out"), (91, u "notSupportedJnuEncoding"), (15, u "in"), (17, u "initialIn"), (0, u "Ljava/io/InputStream;"), (35, u "bootLayer"), (0, u "Ljava/lang/ModuleLayer;"), (99, .class_ 664), (0, u "java/lang/System$2"), (9, u "NEVER"), (2, u "MAYBE"), (49, u "arraycopy"), (0, u "(Ljava/lang/Object;ILjava/lang/Object;II)V"), (72, .class_ 802), (0, u "java/lang/System$Logger$Level")] 31

def k9m0 : Method := { name := "<init>", desc := "()V", sig := { parameters := [], returnType := none }, accessFlags := 2, code := none }
def k9m1 : Method := { name := "arraycopy", desc := "(Ljava/lang/Object;ILjava/lang/Object;II)V", sig := { parameters := [(.object "java/lang/Object"), .int, (.object "java/lang/Object"), .int, .int], returnType := none }, accessFlags := 265, code := none }
/-- java/lang/System -/
def k9 : Class := { plain "java/lang/System" (some 0) with
  accessFlags := 49
  interfaces := #[]
  cf := some (fileOf pool9 8 #[.nestMembers #[319, 327, 801, 108, 663, 208]] #[{ accessFlags := 2, nameIndex := 5, descriptorIndex := 6, attributes := #[] }, { accessFlags := 265, nameIndex := 727, descriptorIndex := 728, attributes := #[] }] 49 2 #[] #[{ accessFlags := 25, nameIndex := 507, descriptorIndex := 526, attributes := #[] }, { accessFlags := 25, nameIndex := 399, descriptorIndex := 155, attributes := #[] }, { accessFlags := 25, nameIndex := 396, descriptorIndex := 155, attributes := #[] }, { accessFlags := 10, nameIndex := 525, descriptorIndex := 526, attributes := #[] }, { accessFlags := 26, nameIndex := 674, descriptorIndex := 12, attributes := #[] }, { accessFlags := 26, nameIndex := 677, descriptorIndex := 12, attributes := #[] }, { accessFlags := 10, nameIndex := 11, descriptorIndex := 12, attributes := #[] }, { accessFlags := 74, nameIndex := 175, descriptorIndex := 176, attributes := #[] }, { accessFlags := 10, nameIndex := 491, descriptorIndex := 222, attributes := #[] }, { accessFlags := 74, nameIndex := 29, descriptorIndex := 30, attributes := #[] }, { accessFlags := 74, nameIndex := 154, descriptorIndex := 155, attributes := #[] }, { accessFlags := 10, nameIndex := 217, descriptorIndex := 218, attributes := #[] }, { accessFlags := 10, nameIndex := 221, descriptorIndex := 222, attributes := #[] }, { accessFlags := 8, nameIndex := 562, descriptorIndex := 563, attributes := #[] }])
  fields := #[{ name := "in", type := (.object "java/io/InputStream"), accessFlags := 25, slot := 0, constantValue := 0 }, { name := "out", type := (.object "java/io/PrintStream"), accessFlags := 25, slot := 1, constantValue := 0 }, { name := "err", type := (.object "java/io/PrintStream"), accessFlags := 25, slot := 2, constantValue := 0 }, { name := "initialIn", type := (.object "java/io/InputStream"), accessFlags := 10, slot := 3, constantValue := 0 }, { name := "NEVER", type := .int, accessFlags := 26, slot := 4, constantValue := 0 }, { name := "MAYBE", type := .int, accessFlags := 26, slot := 5, constantValue := 0 }, { name := "allowSecurityManager", type := .int, accessFlags := 10, slot := 6, constantValue := 0 }, { name := "security", type := (.object "java/lang/SecurityManager"), accessFlags := 74, slot := 7, constantValue := 0 }, { name := "notSupportedJnuEncoding", type := (.object "java/lang/String"), accessFlags := 10, slot := 8, constantValue := 0 }, { name := "cons", type := (.object "java/io/Console"), accessFlags := 74, slot := 9, constantValue := 0 }, { name := "initialErrStream", type := (.object "java/io/PrintStream"), accessFlags := 74, slot := 10, constantValue := 0 }, { name := "props", type := (.object "java/util/Properties"), accessFlags := 10, slot := 11, constantValue := 0 }, { name := "lineSeparator", type := (.object "java/lang/String"), accessFlags := 10, slot := 12, constantValue := 0 }, { name := "bootLayer", type := (.object "java/lang/ModuleLayer"), accessFlags := 8, slot := 13, constantValue := 0 }]
  methods := #[k9m0, k9m1]
  instanceTypes := #[]
  staticTypes := #[(.object "java/io/InputStream"), (.object "java/io/PrintStream"), (.object "java/io/PrintStream"), (.object "java/io/InputStream"), .int, .int, .int, (.object "java/lang/SecurityManager"), (.object "java/lang/String"), (.object "java/io/Console"), (.object "java/io/PrintStream"), (.object "java/util/Properties"), (.object "java/lang/String"), (.object "java/lang/ModuleLayer")]
  resolved := Array.replicate 834 none
  statics := none }

/-- the primitive byte -/
def k10 : Class := { plain "byte" none with kind := .primitive 'B', accessFlags := 0x411 }
/-- [B -/
def k11 : Class := { plain "[B" (some 0) with kind := .array 10 .byte, interfaces := #[8, 5], accessFlags := 1041 }

/-- the primitive int -/
def k12 : Class := { plain "int" none with kind := .primitive 'I', accessFlags := 0x411 }
/-- [I -/
def k13 : Class := { plain "[I" (some 0) with kind := .array 12 .int, interfaces := #[8, 5], accessFlags := 1041 }

/-- [Lcom/example/tuples_under_lock/tuplesunderlock/Setting; -/
def k14 : Class := { plain "[Lcom/example/tuples_under_lock/tuplesunderlock/Setting;" (some 0) with kind := .array 7 (.object "com/example/tuples_under_lock/tuplesunderlock/Setting"), interfaces := #[8, 5], accessFlags := 1041 }

def heap : Heap := #[{ cls := 2, slots := #[.int 2], vm := .statics 2 },
  { cls := 7, slots := #[.ref 3, .ref 4, .null, .null, .ref 2], vm := .statics 7 },
  { cls := 14, slots := #[.ref 3, .ref 4], vm := .none },
  { cls := 7, slots := #[.null, .int 0, .int 0, .null, .int 0, .int 0], vm := .none },
  { cls := 7, slots := #[.null, .int 1, .int 0, .null, .int 1000, .int 0], vm := .none }]
def classes : Array Class := #[k0, k1, k2, k3, k4, k5, k6, k7, k8, k9, k10, k11, k12, k13, k14]
def interned : List (Array UInt16 × Addr) := []
def slotsUsed : Nat := 20
def theMethod : MethodId := ⟨1, 1⟩
def args0 : Array Value := #[.int 1, .int 2, .int 3, .int 4, .int 5]
def aboutOver (below : List Frame) : State where
  vm := { classes := classes, interned := interned.toArray }
  heap := heap
  slotsUsed := slotsUsed
  threads := #[{ frames := .invoking theMethod args0 :: below }]
def below0 : List Frame := [.native { method := ⟨0, 0⟩, args := #[] }]
def about1 : State := aboutOver below0
def p0 : Program := .bare "" "" ""
def e0 : Env := launch0.env 0 0 0
theorem w_frames : about1.frames = Frame.invoking theMethod args0 :: below0 := rfl
set_option maxRecDepth 65536 in
theorem w_args : argsFit about1.vm theMethod args0 = true := by decide +kernel
set_option maxRecDepth 65536 in
theorem w_heap : heapFits about1 = true := by decide +kernel
set_option maxRecDepth 65536 in
theorem w_runnable : about1.curStatus? = some .runnable := by decide +kernel
set_option maxRecDepth 65536 in
theorem w_alone : about1.alone = true := by decide +kernel
set_option maxRecDepth 65536 in
theorem w_named : about1.methodNamed? x = some theMethod := by decide +kernel
set_option maxRecDepth 65536 in
theorem w_hears : about1.hears theMethod below0 = true := by decide +kernel
set_option maxRecDepth 65536 in
theorem w_ripe : about1.ripe theMethod args0 below0 = true := by decide +kernel
theorem w_running : about1.status = .running := rfl
set_option maxRecDepth 65536 in
theorem w_room : about1.hasRoom e0.platform room_1 = true :=
  launch0.hasRoom_least _ room_1 (by decide +kernel) (by decide +kernel) (by decide +kernel) (by decide +kernel) (by decide +kernel) (by decide +kernel)
theorem allAtoms_all (ts : List Jvm.Cond) (a : Array Jvm.Value) (st : Jvm.State) : (allAtoms ts).before a st = ts.all (fun c => c.before a st) := by
  induction ts with
  | nil => rfl
  | cons c t ih =>
    show (Jvm.Cond.and c (allAtoms t)).before a st = _
    rw [Jvm.Cond.before_and, ih, List.all_cons]
def words1 : List Jvm.Cond := Jvm.Cond.code x code maxLocals ret :: tables_1
/-- a 'code' word, met by the world's own term for the bytes: nothing is compared byte by byte -/
theorem code_word {y : MethodName} {bytes : ByteArray} {mx : Nat} {rt : Option FieldType} {a : Array Value} {s : State} {m : MethodId} {meth : Method} {c : Code} (h1 : s.methodNamed? y = some m) (h2 : s.vm.method? m = some meth) (h3 : meth.code = some c) (h4 : c.code = bytes)
    (h5 : (c.maxLocals == mx && c.exceptionTable.isEmpty && decide (c.maxStack ≤ mostOperands) && decide (meth.sig.returnType = rt) && !meth.locks && decide (parseMethodDescriptor y.desc = some meth.sig)) = true) : (Jvm.Cond.code y bytes mx rt).before a s = true := by
  simp only [Bool.and_eq_true, beq_iff_eq, Bool.not_eq_true', decide_eq_true_eq] at h5
  obtain ⟨⟨⟨⟨⟨g1, g2⟩, g3⟩, g4⟩, g5⟩, g6⟩ := h5
  simp [Cond.before, Cond.holds, Cond.value, h1, h2, h3, h4, g1, g2, g3, g4, g5, g6]
def isCode : Jvm.Cond → Bool
  | .code _ _ _ _ => true
  | _ => false
theorem all_split {L : List Jvm.Cond} {P : Jvm.Cond → Bool} (h1 : L.all (fun c => isCode c || P c) = true) (h2 : ∀ c ∈ L.filter isCode, P c = true) : L.all P = true := by
  refine List.all_eq_true.mpr fun c hc => ?_
  have h := List.all_eq_true.mp h1 c hc
  rcases Bool.eq_false_or_eq_true (isCode c) with hi | hi
  · exact h2 c (List.mem_filter.mpr ⟨hc, hi⟩)
  · simpa [hi] using h
set_option maxRecDepth 65536 in
theorem w_c0 : (Jvm.Cond.code x code maxLocals ret).before args0 about1 = true := code_word (m := ⟨1, 1⟩) (meth := k1m1) (c := k1c1) (by decide +kernel) rfl rfl rfl (by decide +kernel)
set_option maxRecDepth 65536 in
theorem w_c1 : (Jvm.Cond.code ({ cls := "com/example/tuples_under_lock/tuplesunderlock/Settings", name := "<init>", desc := "()V" } : Jvm.MethodName) prog_99_method_1_code (1 : Nat) (Option.none : Option Jvm.ClassFile.FieldType)).before args0 about1 = true := code_word (m := ⟨2, 0⟩) (meth := k2m0) (c := k2c0) (by decide +kernel) rfl rfl rfl (by decide +kernel)
set_option maxRecDepth 65536 in
theorem w_c2 : (Jvm.Cond.code ({ cls := "java/lang/Object", name := "<init>", desc := "()V" } : Jvm.MethodName) object_method_1_code (1 : Nat) (Option.none : Option Jvm.ClassFile.FieldType)).before args0 about1 = true := code_word (m := ⟨0, 0⟩) (meth := k0m0) (c := k0c0) (by decide +kernel) rfl rfl rfl (by decide +kernel)
set_option maxRecDepth 65536 in
theorem w_c3 : (Jvm.Cond.code ({ cls := "com/example/tuples_under_lock/tuplesunderlock/Settings", name := "resetAll", desc := "()V" } : Jvm.MethodName) prog_99_method_5_code (5 : Nat) (Option.none : Option Jvm.ClassFile.FieldType)).before args0 about1 = true := code_word (m := ⟨2, 4⟩) (meth := k2m4) (c := k2c4) (by decide +kernel) rfl rfl rfl (by decide +kernel)
set_option maxRecDepth 65536 in
theorem w_c4 : (Jvm.Cond.code ({ cls := "com/example/tuples_under_lock/tuplesunderlock/Setting", name := "values", desc := "()[Lcom/example/tuples_under_lock/tuplesunderlock/Setting;" } : Jvm.MethodName) prog_97_method_1_code (0 : Nat) (Option.some (Jvm.ClassFile.FieldType.array (Jvm.ClassFile.FieldType.object "com/example/tuples_under_lock/tuplesunderlock/Setting")))).before args0 about1 = true := code_word (m := ⟨7, 0⟩) (meth := k7m0) (c := k7c0) (by decide +kernel) rfl rfl rfl (by decide +kernel)
set_option maxRecDepth 65536 in
theorem w_c5 : (Jvm.Cond.code ({ cls := "com/example/tuples_under_lock/tuplesunderlock/Setting", name := "defaultValue", desc := "()I" } : Jvm.MethodName) prog_97_method_6_code (1 : Nat) (Option.some Jvm.ClassFile.FieldType.int)).before args0 about1 = true := code_word (m := ⟨7, 1⟩) (meth := k7m1) (c := k7c1) (by decide +kernel) rfl rfl rfl (by decide +kernel)
set_option maxRecDepth 65536 in
theorem w_c6 : (Jvm.Cond.code ({ cls := "com/example/tuples_under_lock/tuplesunderlock/Settings", name := "set", desc := "(Lcom/example/tuples_under_lock/tuplesunderlock/Setting;I)V" } : Jvm.MethodName) prog_99_method_3_code (3 : Nat) (Option.none : Option Jvm.ClassFile.FieldType)).before args0 about1 = true := code_word (m := ⟨2, 2⟩) (meth := k2m2) (c := k2c2) (by decide +kernel) rfl rfl rfl (by decide +kernel)
set_option maxRecDepth 65536 in
theorem w_c7 : (Jvm.Cond.code ({ cls := "java/lang/Enum", name := "ordinal", desc := "()I" } : Jvm.MethodName) jdk_37_method_2_code (1 : Nat) (Option.some Jvm.ClassFile.FieldType.int)).before args0 about1 = true := code_word (m := ⟨6, 0⟩) (meth := k6m0) (c := k6c0) (by decide +kernel) rfl rfl rfl (by decide +kernel)
set_option maxRecDepth 65536 in
theorem w_c8 : (Jvm.Cond.code ({ cls := "com/example/tuples_under_lock/tuplesunderlock/Settings", name := "beginBlock", desc := "()V" } : Jvm.MethodName) prog_99_method_6_code (1 : Nat) (Option.none : Option Jvm.ClassFile.FieldType)).before args0 about1 = true := code_word (m := ⟨2, 5⟩) (meth := k2m5) (c := k2c5) (by decide +kernel) rfl rfl rfl (by decide +kernel)
set_option maxRecDepth 65536 in
theorem w_c9 : (Jvm.Cond.code ({ cls := "com/example/tuples_under_lock/tuplesunderlock/Settings", name := "setLocal", desc := "(Lcom/example/tuples_under_lock/tuplesunderlock/Setting;I)V" } : Jvm.MethodName) prog_99_method_4_code (3 : Nat) (Option.none : Option Jvm.ClassFile.FieldType)).before args0 about1 = true := code_word (m := ⟨2, 3⟩) (meth := k2m3) (c := k2c3) (by decide +kernel) rfl rfl rfl (by decide +kernel)
set_option maxRecDepth 65536 in
theorem w_c10 : (Jvm.Cond.code ({ cls := "com/example/tuples_under_lock/tuplesunderlock/Settings", name := "endBlock", desc := "(Z)V" } : Jvm.MethodName) prog_99_method_7_code (2 : Nat) (Option.none : Option Jvm.ClassFile.FieldType)).before args0 about1 = true := code_word (m := ⟨2, 6⟩) (meth := k2m6) (c := k2c6) (by decide +kernel) rfl rfl rfl (by decide +kernel)
set_option maxRecDepth 65536 in
theorem w_c11 : (Jvm.Cond.code ({ cls := "com/example/tuples_under_lock/tuplesunderlock/Settings", name := "get", desc := "(Lcom/example/tuples_under_lock/tuplesunderlock/Setting;)I" } : Jvm.MethodName) prog_99_method_2_code (2 : Nat) (Option.some Jvm.ClassFile.FieldType.int)).before args0 about1 = true := code_word (m := ⟨2, 1⟩) (meth := k2m1) (c := k2c1) (by decide +kernel) rfl rfl rfl (by decide +kernel)
def codes1 : List Jvm.Cond := [Jvm.Cond.code x code maxLocals ret, Jvm.Cond.code ({ cls := "com/example/tuples_under_lock/tuplesunderlock/Settings", name := "<init>", desc := "()V" } : Jvm.MethodName) prog_99_method_1_code (1 : Nat) (Option.none : Option Jvm.ClassFile.FieldType), Jvm.Cond.code ({ cls := "java/lang/Object", name := "<init>", desc := "()V" } : Jvm.MethodName) object_method_1_code (1 : Nat) (Option.none : Option Jvm.ClassFile.FieldType), Jvm.Cond.code ({ cls := "com/example/tuples_under_lock/tuplesunderlock/Settings", name := "resetAll", desc := "()V" } : Jvm.MethodName) prog_99_method_5_code (5 : Nat) (Option.none : Option Jvm.ClassFile.FieldType), Jvm.Cond.code ({ cls := "com/example/tuples_under_lock/tuplesunderlock/Setting", name := "values", desc := "()[Lcom/example/tuples_under_lock/tuplesunderlock/Setting;" } : Jvm.MethodName) prog_97_method_1_code (0 : Nat) (Option.some (Jvm.ClassFile.FieldType.array (Jvm.ClassFile.FieldType.object "com/example/tuples_under_lock/tuplesunderlock/Setting"))), Jvm.Cond.code ({ cls := "com/example/tuples_under_lock/tuplesunderlock/Setting", name := "defaultValue", desc := "()I" } : Jvm.MethodName) prog_97_method_6_code (1 : Nat) (Option.some Jvm.ClassFile.FieldType.int), Jvm.Cond.code ({ cls := "com/example/tuples_under_lock/tuplesunderlock/Settings", name := "set", desc := "(Lcom/example/tuples_under_lock/tuplesunderlock/Setting;I)V" } : Jvm.MethodName) prog_99_method_3_code (3 : Nat) (Option.none : Option Jvm.ClassFile.FieldType), Jvm.Cond.code ({ cls := "java/lang/Enum", name := "ordinal", desc := "()I" } : Jvm.MethodName) jdk_37_method_2_code (1 : Nat) (Option.some Jvm.ClassFile.FieldType.int), Jvm.Cond.code ({ cls := "com/example/tuples_under_lock/tuplesunderlock/Settings", name := "beginBlock", desc := "()V" } : Jvm.MethodName) prog_99_method_6_code (1 : Nat) (Option.none : Option Jvm.ClassFile.FieldType), Jvm.Cond.code ({ cls := "com/example/tuples_under_lock/tuplesunderlock/Settings", name := "setLocal", desc := "(Lcom/example/tuples_under_lock/tuplesunderlock/Setting;I)V" } : Jvm.MethodName) prog_99_method_4_code (3 : Nat) (Option.none : Option Jvm.ClassFile.FieldType), Jvm.Cond.code ({ cls := "com/example/tuples_under_lock/tuplesunderlock/Settings", name := "endBlock", desc := "(Z)V" } : Jvm.MethodName) prog_99_method_7_code (2 : Nat) (Option.none : Option Jvm.ClassFile.FieldType), Jvm.Cond.code ({ cls := "com/example/tuples_under_lock/tuplesunderlock/Settings", name := "get", desc := "(Lcom/example/tuples_under_lock/tuplesunderlock/Setting;)I" } : Jvm.MethodName) prog_99_method_2_code (2 : Nat) (Option.some Jvm.ClassFile.FieldType.int)]
set_option maxRecDepth 65536 in
theorem codes_eq : words1.filter isCode = codes1 := rfl
theorem w_codes : ∀ c ∈ words1.filter isCode, c.before args0 about1 = true := by
  rw [codes_eq]
  intro c hc
  simp only [codes1, List.mem_cons, List.not_mem_nil, or_false] at hc
  rcases hc with rfl | rfl | rfl | rfl | rfl | rfl | rfl | rfl | rfl | rfl | rfl | rfl
  · exact w_c0
  · exact w_c1
  · exact w_c2
  · exact w_c3
  · exact w_c4
  · exact w_c5
  · exact w_c6
  · exact w_c7
  · exact w_c8
  · exact w_c9
  · exact w_c10
  · exact w_c11
set_option maxRecDepth 65536 in
theorem w_t1 : (words1.take 24).all (fun c => isCode c || c.before args0 about1) = true := by decide +kernel
set_option maxRecDepth 65536 in
theorem w_t2 : ((words1.drop 24).take 24).all (fun c => isCode c || c.before args0 about1) = true := by decide +kernel
set_option maxRecDepth 65536 in
theorem w_t3 : (((words1.drop 24).drop 24).take 24).all (fun c => isCode c || c.before args0 about1) = true := by decide +kernel
set_option maxRecDepth 65536 in
theorem w_t4 : (((words1.drop 24).drop 24).drop 24).all (fun c => isCode c || c.before args0 about1) = true := by decide +kernel
theorem w_tables : (allAtoms (Jvm.Cond.code x code maxLocals ret :: tables_1)).before args0 about1 = true := by
  rw [allAtoms_all]
  show words1.all (fun c => c.before args0 about1) = true
  refine all_split ?_ w_codes
  rw [← List.take_append_drop 24 words1, List.all_append, w_t1, ← List.take_append_drop 24 (words1.drop 24), List.all_append, w_t2, ← List.take_append_drop 24 ((words1.drop 24).drop 24), List.all_append, w_t3, w_t4]
  rfl
set_option maxRecDepth 65536 in
theorem w_case : (Jvm.Cond.and given_1 narrow_1).before args0 about1 = true := by decide +kernel
theorem w_applies : (headSpec (Jvm.Cond.code x code maxLocals ret :: tables_1) room_1).applies x e0.platform about1 = true :=
  (Spec.applies_iff w_frames).mpr ⟨w_running, w_runnable, w_alone, w_named, w_hears, w_ripe, w_room, w_tables⟩
theorem atStart : AtStart classFile x code maxLocals ret World_1 tables_1 room_1 Calls_1 rest_1 Pre_1 launch0 p0 e0 about1 theMethod args0 below0 :=
  ⟨lists_1, trivial, launch0.admits_env _ _ _, launch0.least_env, fairChoices_fair.cas, fairChoices_fair.clock, w_frames, w_args, w_heap, w_applies, trivial, trivial, w_case⟩
end start1
theorem witness_1 : WitnessClaimed_1 := ⟨start1.p0, start1.e0, start1.about1, start1.theMethod, start1.args0, start1.below0, start1.atStart⟩
end Jvm.Pilot.@@N@@
